import PyProof.Rows.All
import Wide.All
import OpenK.AllK
import Wide.FinOn
import PySem.Challenge.RW_pg0214_01
set_option Elab.async false
set_option linter.all false
set_option bootstrap.genMatcherCode false
set_option genSizeOf false
set_option genInjectivity false
section
set_option maxRecDepth 100000
set_option backward.match.sparseCases false
namespace Mine
open PySem PySem.W PyProof.Rows

inductive V where
  | undef | none | bool (b : Bool) | int (i : Int) | str (l : List Nat)
  | list (l : List V) | tup (l : List V) | range (a b c : Int) | inst (l : List V)
  deriving Inhabited

noncomputable abbrev View := Addr → Option Obj

noncomputable def hid (ms : List Addr) (h : Heap) : View := fun a => if a ∈ ms then none else h.get? a

noncomputable abbrev VLe (g g' : View) : Prop := ∀ a o, g a = some o → g' a = some o

noncomputable def attrN : List Str := [Str.ofString "raw", Str.ofString "n", Str.ofString "nt", Str.ofString "norm", Str.ofString "is_simple"]

mutual
noncomputable def Rep (C : Addr) (g : View) : V → Value → Prop
  | .undef, _ => False
  | .none, v => v = .none
  | .bool b, v => v = .bool b
  | .int i, v => ∃ t, v = .int i t
  | .str l, v => (∀ c ∈ l, c < 128) ∧ ∃ t, v = .str ⟨l.toArray⟩ t
  | .list l, v => ∃ a o vs n, v = .ref a ∧ g a = some o ∧ o.cls = .type "list" ∧ o.data = .seq (List.toArray vs) n ∧ Reps C g l vs
  | .tup l, v => ∃ a o vs n, v = .ref a ∧ g a = some o ∧ o.cls = .type "tuple" ∧ o.data = .seq (List.toArray vs) n ∧ Reps C g l vs
  | .range a b c, v => ∃ r t u w, v = .ref r ∧ g r = some { cls := .type "range", data := .fields #[.int a t, .int b u, .int c w] }
  | .inst l, v => ∃ x dx es n, v = .ref x ∧ g x = some (instObj C dx) ∧ g dx = some { cls := .type "dict", data := .dict (List.toArray es) n } ∧ Ents C g l attrN es
noncomputable def Reps (C : Addr) (g : View) : List V → List Value → Prop
  | [], vs => vs = []
  | x :: xs, vs => ∃ v vs', vs = v :: vs' ∧ Rep C g x v ∧ Reps C g xs vs'
noncomputable def Ents (C : Addr) (g : View) : List V → List Str → List DictEntry → Prop
  | [], _, es => es = []
  | x :: xs, ns, es => ∃ n ns' e es', ns = n :: ns' ∧ es = e :: es' ∧ (∃ t, e.key = .str n t) ∧ Rep C g x e.val ∧ Ents C g xs ns' es'
end
theorem Rep_q1 {C : Addr} {g : View} {w1} : Rep C g (.undef) w1 = (False) := rfl
theorem Rep_q2 {C : Addr} {g : View} {v} : Rep C g (.none) v = (v = .none) := rfl
theorem Rep_q3 {C : Addr} {g : View} {b} {v} : Rep C g (.bool b) v = (v = .bool b) := rfl
theorem Rep_q4 {C : Addr} {g : View} {i} {v} : Rep C g (.int i) v = (∃ t, v = .int i t) := rfl
theorem Rep_q5 {C : Addr} {g : View} {l} {v} : Rep C g (.str l) v = ((∀ c ∈ l, c < 128) ∧ ∃ t, v = .str ⟨l.toArray⟩ t) := rfl
theorem Rep_q6 {C : Addr} {g : View} {l} {v} : Rep C g (.list l) v = (∃ a o vs n, v = .ref a ∧ g a = some o ∧ o.cls = .type "list" ∧ o.data = .seq (List.toArray vs) n ∧ Reps C g l vs) := rfl
theorem Rep_q7 {C : Addr} {g : View} {l} {v} : Rep C g (.tup l) v = (∃ a o vs n, v = .ref a ∧ g a = some o ∧ o.cls = .type "tuple" ∧ o.data = .seq (List.toArray vs) n ∧ Reps C g l vs) := rfl
theorem Rep_q8 {C : Addr} {g : View} {a} {b} {c} {v} : Rep C g (.range a b c) v = (∃ r t u w, v = .ref r ∧ g r = some { cls := .type "range", data := .fields #[.int a t, .int b u, .int c w] }) := rfl
theorem Rep_q9 {C : Addr} {g : View} {l} {v} : Rep C g (.inst l) v = (∃ x dx es n, v = .ref x ∧ g x = some (instObj C dx) ∧ g dx = some { cls := .type "dict", data := .dict (List.toArray es) n } ∧ Ents C g l attrN es) := rfl
theorem Reps_q1 {C : Addr} {g : View} {vs} : Reps C g [] vs = (vs = []) := rfl
theorem Reps_q2 {C : Addr} {g : View} {x} {xs} {vs} : Reps C g (x :: xs) vs = (∃ v vs', vs = v :: vs' ∧ Rep C g x v ∧ Reps C g xs vs') := rfl
theorem Ents_q1 {C : Addr} {g : View} {w1} {es} : Ents C g [] w1 es = (es = []) := rfl
theorem Ents_q2 {C : Addr} {g : View} {x} {xs} {ns} {es} : Ents C g (x :: xs) ns es = (∃ n ns' e es', ns = n :: ns' ∧ es = e :: es' ∧ (∃ t, e.key = .str n t) ∧ Rep C g x e.val ∧ Ents C g xs ns' es') := rfl

mutual
theorem Rep.mono {C : Addr} {g g' : View} (hg : VLe g g') : ∀ (x : V) (v : Value), Rep C g x v → Rep C g' x v
  | .undef, _, h => h
  | .none, _, h => h
  | .bool _, _, h => h
  | .int _, _, h => h
  | .str _, _, h => h
  | .list l, v, h => by
    simp only [Rep_q1, Rep_q2, Rep_q3, Rep_q4, Rep_q5, Rep_q6, Rep_q7, Rep_q8, Rep_q9] at h ⊢
    obtain ⟨a, o, vs, n, e1, e2, e3, e4, e5⟩ := h
    exact ⟨a, o, vs, n, e1, hg _ _ e2, e3, e4, Reps.mono hg l vs e5⟩
  | .tup l, v, h => by
    simp only [Rep_q1, Rep_q2, Rep_q3, Rep_q4, Rep_q5, Rep_q6, Rep_q7, Rep_q8, Rep_q9] at h ⊢
    obtain ⟨a, o, vs, n, e1, e2, e3, e4, e5⟩ := h
    exact ⟨a, o, vs, n, e1, hg _ _ e2, e3, e4, Reps.mono hg l vs e5⟩
  | .range a b c, v, h => by
    simp only [Rep_q1, Rep_q2, Rep_q3, Rep_q4, Rep_q5, Rep_q6, Rep_q7, Rep_q8, Rep_q9] at h ⊢
    obtain ⟨r, t, u, w, e1, e2⟩ := h
    exact ⟨r, t, u, w, e1, hg _ _ e2⟩
  | .inst l, v, h => by
    simp only [Rep_q1, Rep_q2, Rep_q3, Rep_q4, Rep_q5, Rep_q6, Rep_q7, Rep_q8, Rep_q9] at h ⊢
    obtain ⟨x, dx, es, n, e1, e2, e3, e4⟩ := h
    exact ⟨x, dx, es, n, e1, hg _ _ e2, hg _ _ e3, Ents.mono hg l attrN es e4⟩
theorem Reps.mono {C : Addr} {g g' : View} (hg : VLe g g') : ∀ (l : List V) (vs : List Value), Reps C g l vs → Reps C g' l vs
  | [], _, h => h
  | x :: xs, vs, h => by
    simp only [Reps_q1, Reps_q2] at h ⊢
    obtain ⟨v, vs', e1, e2, e3⟩ := h
    exact ⟨v, vs', e1, Rep.mono hg x v e2, Reps.mono hg xs vs' e3⟩
theorem Ents.mono {C : Addr} {g g' : View} (hg : VLe g g') : ∀ (l : List V) (ns : List Str) (es : List DictEntry), Ents C g l ns es → Ents C g' l ns es
  | [], _, _, h => h
  | x :: xs, ns, es, h => by
    simp only [Ents_q1, Ents_q2] at h ⊢
    obtain ⟨n, ns', e, es', e1, e2, e3, e4, e5⟩ := h
    exact ⟨n, ns', e, es', e1, e2, e3, Rep.mono hg x _ e4, Ents.mono hg xs ns' es' e5⟩
end

theorem hid_get {ms : List Addr} {h : Heap} {a : Addr} {o : Obj} (e : hid ms h a = some o) : h.get? a = some o := by
  unfold hid at e; split at e
  · cases e
  · exact e
theorem hid_of {ms : List Addr} {h : Heap} {a : Addr} (n : a ∉ ms) : hid ms h a = h.get? a := if_neg n
theorem hid_mono {ms : List Addr} {h h' : Heap} (k : ∀ b o, h.get? b = some o → h'.get? b = some o) : VLe (hid ms h) (hid ms h') := fun a o e => by
  unfold hid at e ⊢; split at e
  · cases e
  · rename_i n; rw [if_neg n]; exact k _ _ e
theorem hid_same {ms : List Addr} {h h' : Heap} {a : Addr} (ha : a ∈ ms) (k : Heap.SameBut a h h') : hid ms h' = hid ms h := by
  funext b; unfold hid; split
  · rfl
  · rename_i n; exact k.2 b (fun e => n (e ▸ ha))
theorem hid_cons {ms : List Addr} {h h' : Heap} {a : Addr} (ha : h.get? a = none) (k : ∀ b o, h.get? b = some o → h'.get? b = some o) : VLe (hid ms h) (hid (a :: ms) h') := fun b o e => by
  have e' := hid_get e
  have hb : b ≠ a := fun q => by rw [q, ha] at e'; cases e'
  unfold hid at e ⊢; split at e
  · cases e
  · rename_i n
    rw [if_neg (by simp [hb, n])]; exact k _ _ e
theorem hid_sub {ms ms' : List Addr} {h : Heap} (k : ∀ a ∈ ms, a ∈ ms') : VLe (hid ms' h) (hid ms h) := fun b o e => by
  unfold hid at e ⊢; split at e
  · cases e
  · rename_i n; rw [if_neg (fun q => n (k _ q))]; exact e
theorem hid_tail {ms : List Addr} {h : Heap} {a : Addr} : VLe (hid (a :: ms) h) (hid ms h) := hid_sub fun _ q => List.mem_cons_of_mem _ q

theorem Reps.length {C : Addr} {g : View} : ∀ {l : List V} {vs : List Value}, Reps C g l vs → vs.length = l.length
  | [], _, h => by simp only [Reps_q1, Reps_q2] at h; subst h; rfl
  | x :: xs, vs, h => by
    simp only [Reps_q1, Reps_q2] at h
    obtain ⟨v, vs', rfl, _, h⟩ := h
    simp [Reps.length h]
theorem Reps.get {C : Addr} {g : View} : ∀ {l : List V} {vs : List Value} {i : Nat} {x : V}, Reps C g l vs → l[i]? = some x → ∃ v, vs[i]? = some v ∧ Rep C g x v
  | [], _, _, _, _, e => by simp at e
  | y :: ys, vs, i, x, h, e => by
    simp only [Reps_q1, Reps_q2] at h
    obtain ⟨v, vs', rfl, hv, h⟩ := h
    cases i with
    | zero => simp at e; subst e; exact ⟨v, rfl, hv⟩
    | succ i => simp at e ⊢; exact Reps.get h e
theorem Reps.nil {C : Addr} {g : View} : Reps C g [] [] := by simp [Reps_q1, Reps_q2]
theorem Reps.cons {C : Addr} {g : View} {x : V} {v : Value} {xs : List V} {vs : List Value} (h : Rep C g x v) (hs : Reps C g xs vs) : Reps C g (x :: xs) (v :: vs) := by
  simp only [Reps_q1, Reps_q2]; exact ⟨v, vs, rfl, h, hs⟩
theorem Reps.append {C : Addr} {g : View} : ∀ {xs ys : List V} {vs ws : List Value}, Reps C g xs vs → Reps C g ys ws → Reps C g (xs ++ ys) (vs ++ ws)
  | [], _, _, _, h, h' => by simp only [Reps_q1, Reps_q2] at h; subst h; simpa using h'
  | x :: xs, ys, vs, ws, h, h' => by
    simp only [Reps_q1, Reps_q2] at h
    obtain ⟨v, vs', rfl, hv, h⟩ := h
    exact Reps.cons hv (Reps.append h h')
theorem Reps.set {C : Addr} {g : View} : ∀ {xs : List V} {vs : List Value} (n : Nat) {x : V} {v : Value}, Reps C g xs vs → Rep C g x v → Reps C g (xs.set n x) (vs.set n v)
  | [], _, _, _, _, h, _ => by simp only [Reps_q1, Reps_q2] at h; subst h; simp [Reps_q1, Reps_q2]
  | y :: ys, vs, 0, x, v, h, hv => by
    simp only [Reps_q1, Reps_q2] at h
    obtain ⟨_, vs', rfl, _, h⟩ := h
    exact Reps.cons hv h
  | y :: ys, vs, n + 1, x, v, h, hv => by
    simp only [Reps_q1, Reps_q2] at h
    obtain ⟨w, vs', rfl, hw, h⟩ := h
    exact Reps.cons hw (Reps.set n h hv)
theorem Reps.filterMap {C : Addr} {g : View} {l : List V} {vs : List Value} (h : Reps C g l vs) : ∀ (is : List Nat), Reps C g (is.filterMap (l[·]?)) (is.filterMap (vs[·]?))
  | [] => by simp [Reps_q1, Reps_q2]
  | i :: is => by
    cases e : l[i]? with
    | none =>
      have e' : vs[i]? = none := by rw [List.getElem?_eq_none_iff] at e ⊢; rw [h.length]; exact e
      rw [List.filterMap_cons_none e, List.filterMap_cons_none e']; exact Reps.filterMap h is
    | some x =>
      obtain ⟨v, ev, hv⟩ := h.get e
      rw [List.filterMap_cons_some e, List.filterMap_cons_some ev]; exact Reps.cons hv (Reps.filterMap h is)

/-- an expression's tree: it yields a value of x, and all that stood stands -/
noncomputable def Ev {prog : Program} {w : World} (A : Around) (C : Addr) (ms : List Addr) (t : Sem Value) (x : V) (s : Shared) : Prop :=
  wpAny (model prog w) A t (fun v s' => Keeps s s' ∧ Rep C (hid ms s'.heap) x v) (fun _ _ => False) s

end Mine
end
section
set_option maxRecDepth 100000
set_option backward.match.sparseCases false
namespace Mine
open PySem PySem.W PyProof.Rows

inductive BI where
  | len | max2 | min2 | max1 | min1 | range1 | range2 | range3 | sum | list | tuple | isBool
  deriving DecidableEq
inductive SM where
  | join | split | lower | count
  deriving DecidableEq

inductive X where
  | k (v : V) | v (i : Nat) | own (i : Nat)
  | bin (op : Operator) (a b : X) | repl (as b : X) | neg (a : X) | no (a : X) | and2 (a b : X) | or2 (a b : X)
  | ite (c a b : X) | cmp (op : CmpOp) (a b : X)
  | bi (f : BI) (as : X) | fn (f : Nat) (as : X) | new (as : X) | me (f : Nat) (o as : X) | sm (m : SM) (o as : X)
  | fld (o : X) (i : Nat) | item (o i : X) | sl (o lo hi st : X) | non
  | list (as : X) | tup (as : X) | nil | cons (a r : X)
  | comp (elt : X) (tgt : Nat) (two : Bool) (it : X) (c : X)
  | yes | ands (as : X) | ors (as : X)

inductive S where
  | skip | seq (a b : S) | asg (i : Nat) (e : X) | asgO (i : Nat) (e : X) | asgM (is : List Nat) (e : X) | unp (is : List Nat) (e : X)
  | aug (i : Nat) (op : Operator) (e : X) | app (i : Nat) (e : X) | setI (i : Nat) (k e : X) | setA (a : Nat) (e : X)
  | iff (c : X) (a b : S) | for (i : Nat) (it : X) (b : S) | whl (c : X) (b : S) | ret (e : X) | retO (i : Nat) | brk

noncomputable def lim : Nat := 1048576

noncomputable def okV : Nat → V → Bool
  | _, .none => true
  | _, .bool _ => true
  | _, .int _ => true
  | _, .str _ => true
  | n + 1, .list l => l.all (okV n)
  | n + 1, .tup l => l.all (okV n)
  | _, _ => false

noncomputable def eqL (f : V → V → Bool) : List V → List V → Bool
  | [], [] => true
  | x :: xs, y :: ys => f x y && eqL f xs ys
  | _, _ => false

noncomputable def i1 {β : Type} (x : V) (f : Int → Option β) : Option β := match x with
  | .int a => f a
  | _ => none
noncomputable def b1v {β : Type} (x : V) (f : Bool → Option β) : Option β := match x with
  | .bool a => f a
  | _ => none
noncomputable def s1 {β : Type} (x : V) (f : List Nat → Option β) : Option β := match x with
  | .str a => f a
  | _ => none
noncomputable def l1 {β : Type} (x : V) (f : List V → Option β) : Option β := match x with
  | .list a => f a
  | _ => none
noncomputable def g1v {β : Type} (x : V) (f : Int → Int → Int → Option β) : Option β := match x with
  | .range a b c => f a b c
  | _ => none
noncomputable def ar0 {α β : Type} (l : List α) (b : Option β) : Option β := match l with
  | [] => b
  | _ :: _ => none
noncomputable def ar1 {α β : Type} (l : List α) (f : α → Option β) : Option β := match l with
  | [] => none
  | x :: r => ar0 r (f x)
noncomputable def ar2 {α β : Type} (l : List α) (f : α → α → Option β) : Option β := match l with
  | [] => none
  | x :: r => ar1 r (f x)
noncomputable def ar3 {α β : Type} (l : List α) (f : α → α → α → Option β) : Option β := match l with
  | [] => none
  | x :: r => ar2 r (f x)
section
variable {α β : Type} {x : V} {z : β}
theorem no_e {G : Prop} (h : (none : Option β) = some z) : G := by cases h
theorem i1_e {f} (h : i1 x f = some z) : ∃ a, x = .int a ∧ f a = some z := by
  cases x with
  | int a => exact ⟨a, rfl, h⟩
  | _ => exact no_e h
theorem b1_e {f} (h : b1v x f = some z) : ∃ a, x = .bool a ∧ f a = some z := by
  cases x with
  | bool a => exact ⟨a, rfl, h⟩
  | _ => exact no_e h
theorem s1_e {f} (h : s1 x f = some z) : ∃ a, x = .str a ∧ f a = some z := by
  cases x with
  | str a => exact ⟨a, rfl, h⟩
  | _ => exact no_e h
theorem l1_e {f} (h : l1 x f = some z) : ∃ a, x = .list a ∧ f a = some z := by
  cases x with
  | list a => exact ⟨a, rfl, h⟩
  | _ => exact no_e h
theorem g1_e {f} (h : g1v x f = some z) : ∃ a b c, x = .range a b c ∧ f a b c = some z := by
  cases x with
  | range a b c => exact ⟨a, b, c, rfl, h⟩
  | _ => exact no_e h
theorem ar0_e {l : List α} {b} (h : ar0 l b = some z) : l = [] ∧ b = some z := by
  cases l with
  | nil => exact ⟨rfl, h⟩
  | cons => exact no_e h
theorem ar1_e {l : List α} {f} (h : ar1 l f = some z) : ∃ x, l = [x] ∧ f x = some z := by
  cases l with
  | nil => exact no_e h
  | cons x r => obtain ⟨rfl, h⟩ := ar0_e (show ar0 r (f x) = some z from h); exact ⟨x, rfl, h⟩
theorem ar2_e {l : List α} {f} (h : ar2 l f = some z) : ∃ x y, l = [x, y] ∧ f x y = some z := by
  cases l with
  | nil => exact no_e h
  | cons x r => obtain ⟨y, rfl, h⟩ := ar1_e (show ar1 r (f x) = some z from h); exact ⟨x, y, rfl, h⟩
theorem ar3_e {l : List α} {f} (h : ar3 l f = some z) : ∃ x y w, l = [x, y, w] ∧ f x y w = some z := by
  cases l with
  | nil => exact no_e h
  | cons x r => obtain ⟨y, w, rfl, h⟩ := ar2_e (show ar2 r (f x) = some z from h); exact ⟨x, y, w, rfl, h⟩
theorem if_e {c : Prop} [Decidable c] {a : Option β} {G : Prop} (h : (if c then a else none) = some z) (k : c → a = some z → G) : G := by
  by_cases q : c
  · rw [if_pos q] at h; exact k q h
  · rw [if_neg q] at h; cases h
theorem ifn_e {c : Prop} [Decidable c] {a : Option β} {G : Prop} (h : (if c then none else a) = some z) (k : ¬ c → a = some z → G) : G := by
  by_cases q : c
  · rw [if_pos q] at h; cases h
  · rw [if_neg q] at h; exact k q h
end

noncomputable def veq (n : Nat) (x y : V) : Bool := match x with
  | .none => (match y with | .none => true | _ => false)
  | .bool a => (match y with | .bool b => a == b | .int j => (if a then 1 else 0) == j | _ => false)
  | .int i => (match y with | .bool b => i == (if b then 1 else 0) | .int j => i == j | _ => false)
  | .str a => (match y with | .str b => a == b | _ => false)
  | .list a => (match n with | 0 => false | n + 1 => (match y with | .list b => eqL (veq n) a b | _ => false))
  | .tup a => (match n with | 0 => false | n + 1 => (match y with | .tup b => eqL (veq n) a b | _ => false))
  | _ => false

noncomputable def small (i : Int) : Bool := decide (-1099511627776 < i) && decide (i < 1099511627776)

noncomputable def toInts : List V → Option (List Int)
  | [] => some []
  | .int i :: r => (toInts r).map (i :: ·)
  | _ :: _ => none
theorem toInts_q1 : toInts [] = (some []) := rfl
theorem toInts_q2 {i} {r} : toInts (.int i :: r) = ((toInts r).map (i :: ·)) := rfl
noncomputable def toStrs : List V → Option (List (List Nat))
  | [] => some []
  | .str i :: r => (toStrs r).map (i :: ·)
  | _ :: _ => none
theorem toStrs_q1 : toStrs [] = (some []) := rfl
theorem toStrs_q2 {i} {r} : toStrs (.str i :: r) = ((toStrs r).map (i :: ·)) := rfl

noncomputable def rep {α : Type} : Nat → List α → List α
  | 0, _ => []
  | n + 1, l => l ++ rep n l

noncomputable def addV (x y : V) : Option V := match x with
  | .int a => i1 y fun b => some (.int (a + b))
  | .str a => s1 y fun b => if a.length + b.length ≤ lim then some (.str (a ++ b)) else none
  | .list a => l1 y fun b => if a.length + b.length ≤ lim then some (.list (a ++ b)) else none
  | _ => none
noncomputable def mulV (x y : V) : Option V := match x with
  | .int a => i1 y fun b => if small a then some (.int (a * b)) else none
  | .str a => i1 y fun n => if small n ∧ a.length * n.toNat ≤ lim then some (.str (rep n.toNat a)) else none
  | _ => none
noncomputable def binop (op : Operator) (x y : V) : Option V := match op with
  | .Add => addV x y
  | .Sub => i1 x fun a => i1 y fun b => some (.int (a - b))
  | .Mult => mulV x y
  | .FloorDiv => i1 x fun a => i1 y fun b => if 0 < b ∧ b < 1073741824 then some (.int (a / b)) else none
  | .Mod => i1 x fun a => i1 y fun b => if 0 < b then some (.int (a % b)) else none
  | .Pow => i1 x fun a => i1 y fun n => if 0 ≤ n ∧ n ≤ 100 ∧ small a then some (.int (a ^ n.toNat)) else none
  | _ => none

noncomputable def truthyV : V → Option Bool
  | .bool b => some b
  | .int i => some (decide (i ≠ 0))
  | .str l => if l.length ≤ lim then some (!l.isEmpty) else none
  | _ => none

noncomputable def inStr (a b : List Nat) : Bool := Txt.contains ⟨b.toArray⟩ ⟨a.toArray⟩

noncomputable def inV (x y : V) : Option Bool := match y with
  | .str b => s1 x fun a => some (inStr a b)
  | .list l => if okV 4 x && okV 5 (.list l) then some (l.any fun y => veq 4 y x) else none
  | .tup l => if okV 4 x && okV 5 (.tup l) then some (l.any fun y => veq 4 y x) else none
  | _ => none
noncomputable def cmpop (op : CmpOp) (x y : V) : Option Bool := match op with
  | .Eq => if okV 4 x && okV 4 y then some (veq 4 x y) else none
  | .NotEq => if okV 4 x && okV 4 y then some (!veq 4 x y) else none
  | .Lt => i1 x fun a => i1 y fun b => some (decide (a < b))
  | .LtE => i1 x fun a => i1 y fun b => some (decide (a ≤ b))
  | .Gt => i1 x fun a => i1 y fun b => some (decide (a > b))
  | .GtE => i1 x fun a => i1 y fun b => some (decide (a ≥ b))
  | .Is => b1v x fun a => b1v y fun b => some (a == b)
  | .IsNot => b1v x fun a => b1v y fun b => some (!(a == b))
  | .In => inV x y
  | .NotIn => none

noncomputable def rangeL (a b c : Int) : List Int :=
  (List.range (if a < b then ((b - a - 1) / c + 1).toNat else 0)).map fun i => a + (i : Nat) * c

noncomputable def iterItems : V → Option (List V)
  | .list l => if l.length ≤ lim then some l else none
  | .tup l => if l.length ≤ lim then some l else none
  | .str l => if l.length ≤ lim then some (l.map fun c => .str [c]) else none
  | .range a b c => if small a ∧ small b ∧ 0 < c ∧ small c ∧ (rangeL a b c).length ≤ lim then some ((rangeL a b c).map .int) else none
  | _ => none

noncomputable def maxL : List Int → Int
  | [] => 0
  | [a] => a
  | a :: r => max a (maxL r)
noncomputable def minL : List Int → Int
  | [] => 0
  | [a] => a
  | a :: r => min a (minL r)

noncomputable def lenV (x : V) : Option V := match x with
  | .str l => if l.length ≤ lim then some (.int l.length) else none
  | .list l => if l.length ≤ lim then some (.int l.length) else none
  | .tup l => if l.length ≤ lim then some (.int l.length) else none
  | _ => none
noncomputable def biV (f : BI) (xs : List V) : Option V := match f with
  | .len => ar1 xs lenV
  | .max2 => ar2 xs fun x y => i1 x fun a => i1 y fun b => some (.int (max a b))
  | .min2 => ar2 xs fun x y => i1 x fun a => i1 y fun b => some (.int (min a b))
  | .max1 => ar1 xs fun x => l1 x fun l => (toInts l).bind fun is => if is = [] ∨ lim < is.length then none else some (.int (maxL is))
  | .min1 => ar1 xs fun x => l1 x fun l => (toInts l).bind fun is => if is = [] ∨ lim < is.length then none else some (.int (minL is))
  | .range1 => ar1 xs fun x => i1 x fun b => some (.range 0 b 1)
  | .range2 => ar2 xs fun x y => i1 x fun a => i1 y fun b => some (.range a b 1)
  | .range3 => ar3 xs fun x y w => i1 x fun a => i1 y fun b => i1 w fun c => if 0 < c ∧ small c then some (.range a b c) else none
  | .sum => ar1 xs fun x => l1 x fun l => (toInts l).bind fun is => if is.all (fun i => decide (0 ≤ i) && small i) ∧ is.length ≤ lim then some (.int is.sum) else none
  | .list => ar1 xs fun x => g1v x fun a b c => (iterItems (.range a b c)).map .list
  | .tuple => ar1 xs fun x => l1 x fun l => if l.length ≤ lim then some (.tup l) else none
  | .isBool => ar1 xs fun x => i1 x fun _ => some (.bool false)

noncomputable def splitV (s sep : List Nat) : List (List Nat) := (Txt.split ⟨s.toArray⟩ ⟨sep.toArray⟩).map fun x => x.cps.toList

noncomputable def joinL (sep : List Nat) : List (List Nat) → List Nat
  | [] => []
  | [x] => x
  | x :: r => x ++ sep ++ joinL sep r

noncomputable def isLow (c : Nat) : Bool := !(decide (65 ≤ c) && decide (c ≤ 90))

noncomputable def smV (m : SM) (x : V) (xs : List V) : Option V := match m with
  | .join => s1 x fun sep => ar1 xs fun y => l1 y fun l => (toStrs l).bind fun ls => if (ls.map (·.length + sep.length)).sum ≤ lim then some (.str (joinL sep ls)) else none
  | .split => s1 x fun s => ar1 xs fun y => s1 y fun t => ar1 t fun c => if s.length ≤ lim ∧ (splitV s [c]).length ≤ lim then some (.list ((splitV s [c]).map .str)) else none
  | .lower => s1 x fun s => ar0 xs (ar1 s fun c => if isLow c then some (.str [c]) else none)
  | .count => s1 x fun s => ar1 xs fun y => s1 y fun t => ar1 t fun c => some (.int (Txt.count ⟨s.toArray⟩ ⟨#[c]⟩))

noncomputable def idx (k : Int) (n : Nat) : Option Nat :=
  if 0 ≤ k then (if k < n then some k.toNat else none) else if 0 ≤ k + n then some (k + n).toNat else none

noncomputable def itemV (x y : V) : Option V := match x with
  | .list l => i1 y fun k => if 0 ≤ k ∧ small k then l[k.toNat]? else none
  | .tup l => i1 y fun k => if 0 ≤ k ∧ small k then l[k.toNat]? else none
  | .str l => i1 y fun k => if small k then (idx k l.length).bind fun j => (l[j]?).map fun c => .str [c] else none
  | _ => none

noncomputable def partV : V → Option (Option Int)
  | .none => some none
  | .int i => some (some i)
  | _ => none

noncomputable def pick {α : Type} (l : List α) (lo hi st : Option Int) : List α :=
  (sliceRange (sliceBounds lo hi st l.length).1 (sliceBounds lo hi st l.length).2.1 (sliceBounds lo hi st l.length).2.2).filterMap (l[·]?)

noncomputable def slV (o lo hi st : V) : Option V := do
  let lo ← partV lo
  let hi ← partV hi
  let st ← partV st
  match o, st with
  | .list l, st => if l.length ≤ lim ∧ st ≠ some 0 then some (.list (pick l lo hi st)) else none
  | .str l, none => if l.length ≤ lim then some (.str (pick l lo hi none)) else none
  | _, _ => none

noncomputable def bindT (tgt : Nat) (two : Bool) (x : V) (ρ : List V) : Option (List V) :=
  if two then (match x with | .tup [a, b] => some ((ρ.set tgt a).set (tgt + 1) b) | _ => none) else some (ρ.set tgt x)

noncomputable def compGo (c : V → Option Bool) (e : V → Option V) : List V → Option (List V)
  | [] => some []
  | x :: xs => (c x).bind fun b => if b then (e x).bind fun y => (compGo c e xs).map (y :: ·) else compGo c e xs
theorem compGo_q1 {c : V → Option Bool} {e : V → Option V} : compGo c e [] = (some []) := rfl
theorem compGo_q2 {c : V → Option Bool} {e : V → Option V} {x} {xs} : compGo c e (x :: xs) = ((c x).bind fun b => if b then (e x).bind fun y => (compGo c e xs).map (y :: ·) else compGo c e xs) := rfl

noncomputable def getV (ρ : List V) (i : Nat) : Option V := match ρ[i]? with
  | some .undef => none
  | some x => some x
  | none => none

noncomputable def meV (F : Nat → List V → Option V) (f : Nat) (x : V) (xs : List V) : Option V := match x with
  | .inst l => F f (.inst l :: xs)
  | _ => none

mutual
noncomputable def ev (F : Nat → List V → Option V) (ρ : List V) : X → Option V
  | .k v => some v
  | .v i => getV ρ i
  | .own i => getV ρ i
  | .bin op a b => (ev F ρ a).bind fun x => (ev F ρ b).bind fun y => binop op x y
  | .repl as b => (evs F ρ as).bind fun xs => (ev F ρ b).bind fun y => match y with
    | .int n => if xs.length ≤ lim ∧ small n ∧ xs.length * n.toNat ≤ lim then some (.list (rep n.toNat xs)) else none
    | _ => none
  | .neg a => (ev F ρ a).bind fun x => match x with | .int i => some (.int (-i)) | _ => none
  | .no a => (ev F ρ a).bind fun x => (truthyV x).map fun b => .bool (!b)
  | .and2 a b => (ev F ρ a).bind fun x => (truthyV x).bind fun t => if t then ev F ρ b else some x
  | .or2 a b => (ev F ρ a).bind fun x => (truthyV x).bind fun t => if t then some x else ev F ρ b
  | .ite c a b => (tst F ρ c).bind fun t => if t then ev F ρ a else ev F ρ b
  | .cmp op a b => (ev F ρ a).bind fun x => (ev F ρ b).bind fun y => (cmpop op x y).map .bool
  | .bi f as => (evs F ρ as).bind (biV f)
  | .fn f as => (evs F ρ as).bind (F f)
  | .new as => (evs F ρ as).bind (F 0)
  | .me f o as => (ev F ρ o).bind fun x => (evs F ρ as).bind fun xs => meV F f x xs
  | .sm m o as => (ev F ρ o).bind fun x => (evs F ρ as).bind (smV m x)
  | .fld o i => (ev F ρ o).bind fun x => match x with | .inst l => l[i]? | _ => none
  | .item o i => (ev F ρ o).bind fun x => (ev F ρ i).bind fun y => itemV x y
  | .sl o lo hi st => (ev F ρ o).bind fun x => (ev F ρ lo).bind fun l => (ev F ρ hi).bind fun h => (ev F ρ st).bind fun s => slV x l h s
  | .non => some .none
  | .list as => (evs F ρ as).bind fun xs => if xs.length ≤ lim then some (.list xs) else none
  | .tup as => (evs F ρ as).bind fun xs => if xs.length ≤ lim then some (.tup xs) else none
  | .comp e tgt two it c => (ev F ρ it).bind fun x => (iterItems x).bind fun xs =>
      (compGo (fun y => (bindT tgt two y (ρ ++ [.undef, .undef])).bind fun ρ' => tst F ρ' c) (fun y => (bindT tgt two y (ρ ++ [.undef, .undef])).bind fun ρ' => ev F ρ' e) xs).map .list
  | .nil => none
  | .cons _ _ => none
  | .yes => none
  | .ands _ => none
  | .ors _ => none
noncomputable def evs (F : Nat → List V → Option V) (ρ : List V) : X → Option (List V)
  | .nil => some []
  | .cons a r => (ev F ρ a).bind fun x => (evs F ρ r).map (x :: ·)
  | _ => none
noncomputable def tst (F : Nat → List V → Option V) (ρ : List V) : X → Option Bool
  | .no a => (tst F ρ a).map (!·)
  | .ands as => tands F ρ as
  | .ors as => tors F ρ as
  | .ite c a b => (tst F ρ c).bind fun t => if t then tst F ρ a else tst F ρ b
  | .cmp op a b => (ev F ρ a).bind fun x => (ev F ρ b).bind fun y => cmpop op x y
  | .yes => some true
  | .v i => (getV ρ i).bind truthyV
  | .bi f as => ((evs F ρ as).bind (biV f)).bind truthyV
  | .fn f as => ((evs F ρ as).bind (F f)).bind truthyV
  | .me f o as => ((ev F ρ o).bind fun x => (evs F ρ as).bind fun xs => meV F f x xs).bind truthyV
  | .sl o lo hi st => ((ev F ρ o).bind fun x => (ev F ρ lo).bind fun l => (ev F ρ hi).bind fun h => (ev F ρ st).bind fun s => slV x l h s).bind truthyV
  | .fld o i => ((ev F ρ o).bind fun x => match x with | .inst l => l[i]? | _ => none).bind truthyV
  | _ => none
noncomputable def tands (F : Nat → List V → Option V) (ρ : List V) : X → Option Bool
  | .nil => some true
  | .cons a r => (tst F ρ a).bind fun t => if t then tands F ρ r else some false
  | _ => none
noncomputable def tors (F : Nat → List V → Option V) (ρ : List V) : X → Option Bool
  | .nil => some false
  | .cons a r => (tst F ρ a).bind fun t => if t then some true else tors F ρ r
  | _ => none
end
theorem ev_q1 {F : Nat → List V → Option V} {ρ : List V} {v} : ev F ρ (.k v) = (some v) := rfl
theorem ev_q2 {F : Nat → List V → Option V} {ρ : List V} {i} : ev F ρ (.v i) = (getV ρ i) := rfl
theorem ev_q3 {F : Nat → List V → Option V} {ρ : List V} {i} : ev F ρ (.own i) = (getV ρ i) := rfl
theorem ev_q4 {F : Nat → List V → Option V} {ρ : List V} {op} {a} {b} : ev F ρ (.bin op a b) = ((ev F ρ a).bind fun x => (ev F ρ b).bind fun y => binop op x y) := rfl
theorem ev_q5 {F : Nat → List V → Option V} {ρ : List V} {as} {b} : ev F ρ (.repl as b) = ((evs F ρ as).bind fun xs => (ev F ρ b).bind fun y => match y with
    | .int n => if xs.length ≤ lim ∧ small n ∧ xs.length * n.toNat ≤ lim then some (.list (rep n.toNat xs)) else none
    | _ => none) := rfl
theorem ev_q6 {F : Nat → List V → Option V} {ρ : List V} {a} : ev F ρ (.neg a) = ((ev F ρ a).bind fun x => match x with | .int i => some (.int (-i)) | _ => none) := rfl
theorem ev_q7 {F : Nat → List V → Option V} {ρ : List V} {a} : ev F ρ (.no a) = ((ev F ρ a).bind fun x => (truthyV x).map fun b => .bool (!b)) := rfl
theorem ev_q8 {F : Nat → List V → Option V} {ρ : List V} {a} {b} : ev F ρ (.and2 a b) = ((ev F ρ a).bind fun x => (truthyV x).bind fun t => if t then ev F ρ b else some x) := rfl
theorem ev_q9 {F : Nat → List V → Option V} {ρ : List V} {a} {b} : ev F ρ (.or2 a b) = ((ev F ρ a).bind fun x => (truthyV x).bind fun t => if t then some x else ev F ρ b) := rfl
theorem ev_q10 {F : Nat → List V → Option V} {ρ : List V} {c} {a} {b} : ev F ρ (.ite c a b) = ((tst F ρ c).bind fun t => if t then ev F ρ a else ev F ρ b) := rfl
theorem ev_q11 {F : Nat → List V → Option V} {ρ : List V} {op} {a} {b} : ev F ρ (.cmp op a b) = ((ev F ρ a).bind fun x => (ev F ρ b).bind fun y => (cmpop op x y).map .bool) := rfl
theorem ev_q12 {F : Nat → List V → Option V} {ρ : List V} {f} {as} : ev F ρ (.bi f as) = ((evs F ρ as).bind (biV f)) := rfl
theorem ev_q13 {F : Nat → List V → Option V} {ρ : List V} {f} {as} : ev F ρ (.fn f as) = ((evs F ρ as).bind (F f)) := rfl
theorem ev_q14 {F : Nat → List V → Option V} {ρ : List V} {as} : ev F ρ (.new as) = ((evs F ρ as).bind (F 0)) := rfl
theorem ev_q15 {F : Nat → List V → Option V} {ρ : List V} {f} {o} {as} : ev F ρ (.me f o as) = ((ev F ρ o).bind fun x => (evs F ρ as).bind fun xs => meV F f x xs) := rfl
theorem ev_q16 {F : Nat → List V → Option V} {ρ : List V} {m} {o} {as} : ev F ρ (.sm m o as) = ((ev F ρ o).bind fun x => (evs F ρ as).bind (smV m x)) := rfl
theorem ev_q17 {F : Nat → List V → Option V} {ρ : List V} {o} {i} : ev F ρ (.fld o i) = ((ev F ρ o).bind fun x => match x with | .inst l => l[i]? | _ => none) := rfl
theorem ev_q18 {F : Nat → List V → Option V} {ρ : List V} {o} {i} : ev F ρ (.item o i) = ((ev F ρ o).bind fun x => (ev F ρ i).bind fun y => itemV x y) := rfl
theorem ev_q19 {F : Nat → List V → Option V} {ρ : List V} {o} {lo} {hi} {st} : ev F ρ (.sl o lo hi st) = ((ev F ρ o).bind fun x => (ev F ρ lo).bind fun l => (ev F ρ hi).bind fun h => (ev F ρ st).bind fun s => slV x l h s) := rfl
theorem ev_q20 {F : Nat → List V → Option V} {ρ : List V} : ev F ρ (.non) = (some .none) := rfl
theorem ev_q21 {F : Nat → List V → Option V} {ρ : List V} {as} : ev F ρ (.list as) = ((evs F ρ as).bind fun xs => if xs.length ≤ lim then some (.list xs) else none) := rfl
theorem ev_q22 {F : Nat → List V → Option V} {ρ : List V} {as} : ev F ρ (.tup as) = ((evs F ρ as).bind fun xs => if xs.length ≤ lim then some (.tup xs) else none) := rfl
theorem ev_q23 {F : Nat → List V → Option V} {ρ : List V} {e} {tgt} {two} {it} {c} : ev F ρ (.comp e tgt two it c) = ((ev F ρ it).bind fun x => (iterItems x).bind fun xs =>
      (compGo (fun y => (bindT tgt two y (ρ ++ [.undef, .undef])).bind fun ρ' => tst F ρ' c) (fun y => (bindT tgt two y (ρ ++ [.undef, .undef])).bind fun ρ' => ev F ρ' e) xs).map .list) := rfl
theorem ev_q24 {F : Nat → List V → Option V} {ρ : List V} : ev F ρ (.nil) = (none) := rfl
theorem ev_q25 {F : Nat → List V → Option V} {ρ : List V} {w1} {w2} : ev F ρ (.cons w1 w2) = (none) := rfl
theorem ev_q26 {F : Nat → List V → Option V} {ρ : List V} : ev F ρ (.yes) = (none) := rfl
theorem ev_q27 {F : Nat → List V → Option V} {ρ : List V} {w1} : ev F ρ (.ands w1) = (none) := rfl
theorem ev_q28 {F : Nat → List V → Option V} {ρ : List V} {w1} : ev F ρ (.ors w1) = (none) := rfl
theorem evs_q1 {F : Nat → List V → Option V} {ρ : List V} : evs F ρ (.nil) = (some []) := rfl
theorem evs_q2 {F : Nat → List V → Option V} {ρ : List V} {a} {r} : evs F ρ (.cons a r) = ((ev F ρ a).bind fun x => (evs F ρ r).map (x :: ·)) := rfl
theorem tst_q1 {F : Nat → List V → Option V} {ρ : List V} {a} : tst F ρ (.no a) = ((tst F ρ a).map (!·)) := rfl
theorem tst_q2 {F : Nat → List V → Option V} {ρ : List V} {as} : tst F ρ (.ands as) = (tands F ρ as) := rfl
theorem tst_q3 {F : Nat → List V → Option V} {ρ : List V} {as} : tst F ρ (.ors as) = (tors F ρ as) := rfl
theorem tst_q4 {F : Nat → List V → Option V} {ρ : List V} {c} {a} {b} : tst F ρ (.ite c a b) = ((tst F ρ c).bind fun t => if t then tst F ρ a else tst F ρ b) := rfl
theorem tst_q5 {F : Nat → List V → Option V} {ρ : List V} {op} {a} {b} : tst F ρ (.cmp op a b) = ((ev F ρ a).bind fun x => (ev F ρ b).bind fun y => cmpop op x y) := rfl
theorem tst_q6 {F : Nat → List V → Option V} {ρ : List V} : tst F ρ (.yes) = (some true) := rfl
theorem tst_q7 {F : Nat → List V → Option V} {ρ : List V} {i} : tst F ρ (.v i) = ((getV ρ i).bind truthyV) := rfl
theorem tst_q8 {F : Nat → List V → Option V} {ρ : List V} {f} {as} : tst F ρ (.bi f as) = (((evs F ρ as).bind (biV f)).bind truthyV) := rfl
theorem tst_q9 {F : Nat → List V → Option V} {ρ : List V} {f} {as} : tst F ρ (.fn f as) = (((evs F ρ as).bind (F f)).bind truthyV) := rfl
theorem tst_q10 {F : Nat → List V → Option V} {ρ : List V} {f} {o} {as} : tst F ρ (.me f o as) = (((ev F ρ o).bind fun x => (evs F ρ as).bind fun xs => meV F f x xs).bind truthyV) := rfl
theorem tst_q11 {F : Nat → List V → Option V} {ρ : List V} {o} {lo} {hi} {st} : tst F ρ (.sl o lo hi st) = (((ev F ρ o).bind fun x => (ev F ρ lo).bind fun l => (ev F ρ hi).bind fun h => (ev F ρ st).bind fun s => slV x l h s).bind truthyV) := rfl
theorem tst_q12 {F : Nat → List V → Option V} {ρ : List V} {o} {i} : tst F ρ (.fld o i) = (((ev F ρ o).bind fun x => match x with | .inst l => l[i]? | _ => none).bind truthyV) := rfl
theorem tands_q1 {F : Nat → List V → Option V} {ρ : List V} : tands F ρ (.nil) = (some true) := rfl
theorem tands_q2 {F : Nat → List V → Option V} {ρ : List V} {a} {r} : tands F ρ (.cons a r) = ((tst F ρ a).bind fun t => if t then tands F ρ r else some false) := rfl
theorem tors_q1 {F : Nat → List V → Option V} {ρ : List V} : tors F ρ (.nil) = (some false) := rfl
theorem tors_q2 {F : Nat → List V → Option V} {ρ : List V} {a} {r} : tors F ρ (.cons a r) = ((tst F ρ a).bind fun t => if t then some true else tors F ρ r) := rfl

inductive Out where
  | next (ρ : List V) | brk (ρ : List V) | ret (v : V)

noncomputable def forGo (body : List V → Option Out) (i : Nat) : List V → List V → Option Out
  | [], ρ => some (.next ρ)
  | x :: xs, ρ => (body (ρ.set i x)).bind fun o => match o with
    | .next ρ' => forGo body i xs ρ'
    | .brk ρ' => some (.next ρ')
    | .ret v => some (.ret v)
theorem forGo_q1 {body : List V → Option Out} {i : Nat} {ρ} : forGo body i [] ρ = (some (.next ρ)) := rfl
theorem forGo_q2 {body : List V → Option Out} {i : Nat} {x} {xs} {ρ} : forGo body i (x :: xs) ρ = ((body (ρ.set i x)).bind fun o => match o with
    | .next ρ' => forGo body i xs ρ'
    | .brk ρ' => some (.next ρ')
    | .ret v => some (.ret v)) := rfl
noncomputable def whileGo (c : List V → Option Bool) (body : List V → Option Out) : Nat → List V → Option Out
  | 0, _ => none
  | n + 1, ρ => (c ρ).bind fun t => if t then (body ρ).bind fun o => match o with
      | .next ρ' => whileGo c body n ρ'
      | .brk ρ' => some (.next ρ')
      | .ret v => some (.ret v)
    else some (.next ρ)
theorem whileGo_q1 {c : List V → Option Bool} {body : List V → Option Out} {w1} : whileGo c body 0 w1 = (none) := rfl
theorem whileGo_q2 {c : List V → Option Bool} {body : List V → Option Out} {n} {ρ} : whileGo c body (n + 1) ρ = ((c ρ).bind fun t => if t then (body ρ).bind fun o => match o with
      | .next ρ' => whileGo c body n ρ'
      | .brk ρ' => some (.next ρ')
      | .ret v => some (.ret v)
    else some (.next ρ)) := rfl

noncomputable def setMany : List Nat → List V → List V → Option (List V)
  | [], [], ρ => some ρ
  | i :: is, x :: xs, ρ => setMany is xs (ρ.set i x)
  | _, _, _ => none
theorem setMany_q1 {ρ} : setMany [] [] ρ = (some ρ) := rfl
theorem setMany_q2 {i} {is} {x} {xs} {ρ} : setMany (i :: is) (x :: xs) ρ = (setMany is xs (ρ.set i x)) := rfl

noncomputable def ex (F : Nat → List V → Option V) (fuel : Nat) : S → List V → Option Out
  | .skip, ρ => some (.next ρ)
  | .seq a b, ρ => (ex F fuel a ρ).bind fun o => match o with
    | .next ρ' => ex F fuel b ρ'
    | o => some o
  | .asg i e, ρ => (ev F ρ e).map fun x => .next (ρ.set i x)
  | .asgO i e, ρ => (ev F ρ e).bind fun x => match x with | .list l => some (.next (ρ.set i (.list l))) | _ => none
  | .asgM is e, ρ => (ev F ρ e).map fun x => .next (is.foldl (fun ρ i => ρ.set i x) ρ)
  | .unp is e, ρ => (ev F ρ e).bind fun x => match x with | .tup l => (setMany is l ρ).map .next | _ => none
  | .aug i op e, ρ => (getV ρ i).bind fun x => (ev F ρ e).bind fun y => match x, y with
    | .int a, .int b => (binop op (.int a) (.int b)).map fun z => .next (ρ.set i z)
    | _, _ => none
  | .app i e, ρ => (getV ρ i).bind fun x => (ev F ρ e).bind fun y => match x with
    | .list l => if l.length < lim then some (.next (ρ.set i (.list (l ++ [y])))) else none
    | _ => none
  | .setI i k e, ρ => (ev F ρ e).bind fun y => (getV ρ i).bind fun x => (ev F ρ k).bind fun z => match x, z with
    | .list l, .int j => if 0 ≤ j ∧ j < l.length ∧ small j then some (.next (ρ.set i (.list (l.set j.toNat y)))) else none
    | _, _ => none
  | .setA a e, ρ => (ev F ρ e).bind fun y => match (ρ[0]? : Option V) with
    | some (V.inst l) => if l.length = a ∧ a < 5 then some (.next (ρ.set 0 (.inst (l ++ [y])))) else none
    | _ => none
  | .iff c a b, ρ => (tst F ρ c).bind fun t => if t then ex F fuel a ρ else ex F fuel b ρ
  | .for i it b, ρ => (ev F ρ it).bind fun x => (iterItems x).bind fun xs => forGo (ex F fuel b) i xs ρ
  | .whl c b, ρ => whileGo (fun ρ => tst F ρ c) (ex F fuel b) fuel ρ
  | .ret e, ρ => (ev F ρ e).map .ret
  | .retO i, ρ => (getV ρ i).map .ret
  | .brk, ρ => some (.brk ρ)
theorem ex_q1 {F : Nat → List V → Option V} {fuel : Nat} {ρ} : ex F fuel (.skip) ρ = (some (.next ρ)) := rfl
theorem ex_q2 {F : Nat → List V → Option V} {fuel : Nat} {a} {b} {ρ} : ex F fuel (.seq a b) ρ = ((ex F fuel a ρ).bind fun o => match o with
    | .next ρ' => ex F fuel b ρ'
    | o => some o) := rfl
theorem ex_q3 {F : Nat → List V → Option V} {fuel : Nat} {i} {e} {ρ} : ex F fuel (.asg i e) ρ = ((ev F ρ e).map fun x => .next (ρ.set i x)) := rfl
theorem ex_q4 {F : Nat → List V → Option V} {fuel : Nat} {i} {e} {ρ} : ex F fuel (.asgO i e) ρ = ((ev F ρ e).bind fun x => match x with | .list l => some (.next (ρ.set i (.list l))) | _ => none) := rfl
theorem ex_q5 {F : Nat → List V → Option V} {fuel : Nat} {is} {e} {ρ} : ex F fuel (.asgM is e) ρ = ((ev F ρ e).map fun x => .next (is.foldl (fun ρ i => ρ.set i x) ρ)) := rfl
theorem ex_q6 {F : Nat → List V → Option V} {fuel : Nat} {is} {e} {ρ} : ex F fuel (.unp is e) ρ = ((ev F ρ e).bind fun x => match x with | .tup l => (setMany is l ρ).map .next | _ => none) := rfl
theorem ex_q7 {F : Nat → List V → Option V} {fuel : Nat} {i} {op} {e} {ρ} : ex F fuel (.aug i op e) ρ = ((getV ρ i).bind fun x => (ev F ρ e).bind fun y => match x, y with
    | .int a, .int b => (binop op (.int a) (.int b)).map fun z => .next (ρ.set i z)
    | _, _ => none) := rfl
theorem ex_q8 {F : Nat → List V → Option V} {fuel : Nat} {i} {e} {ρ} : ex F fuel (.app i e) ρ = ((getV ρ i).bind fun x => (ev F ρ e).bind fun y => match x with
    | .list l => if l.length < lim then some (.next (ρ.set i (.list (l ++ [y])))) else none
    | _ => none) := rfl
theorem ex_q9 {F : Nat → List V → Option V} {fuel : Nat} {i} {k} {e} {ρ} : ex F fuel (.setI i k e) ρ = ((ev F ρ e).bind fun y => (getV ρ i).bind fun x => (ev F ρ k).bind fun z => match x, z with
    | .list l, .int j => if 0 ≤ j ∧ j < l.length ∧ small j then some (.next (ρ.set i (.list (l.set j.toNat y)))) else none
    | _, _ => none) := rfl
theorem ex_q10 {F : Nat → List V → Option V} {fuel : Nat} {a} {e} {ρ} : ex F fuel (.setA a e) ρ = ((ev F ρ e).bind fun y => match (ρ[0]? : Option V) with
    | some (V.inst l) => if l.length = a ∧ a < 5 then some (.next (ρ.set 0 (.inst (l ++ [y])))) else none
    | _ => none) := rfl
theorem ex_q11 {F : Nat → List V → Option V} {fuel : Nat} {c} {a} {b} {ρ} : ex F fuel (.iff c a b) ρ = ((tst F ρ c).bind fun t => if t then ex F fuel a ρ else ex F fuel b ρ) := rfl
theorem ex_q12 {F : Nat → List V → Option V} {fuel : Nat} {i} {it} {b} {ρ} : ex F fuel (.for i it b) ρ = ((ev F ρ it).bind fun x => (iterItems x).bind fun xs => forGo (ex F fuel b) i xs ρ) := rfl
theorem ex_q13 {F : Nat → List V → Option V} {fuel : Nat} {c} {b} {ρ} : ex F fuel (.whl c b) ρ = (whileGo (fun ρ => tst F ρ c) (ex F fuel b) fuel ρ) := rfl
theorem ex_q14 {F : Nat → List V → Option V} {fuel : Nat} {e} {ρ} : ex F fuel (.ret e) ρ = ((ev F ρ e).map .ret) := rfl
theorem ex_q15 {F : Nat → List V → Option V} {fuel : Nat} {i} {ρ} : ex F fuel (.retO i) ρ = ((getV ρ i).map .ret) := rfl
theorem ex_q16 {F : Nat → List V → Option V} {fuel : Nat} {ρ} : ex F fuel (.brk) ρ = (some (.brk ρ)) := rfl

noncomputable def runF (F : Nat → List V → Option V) (fuel nparams nslots : Nat) (b : S) (args : List V) : Option V :=
  if args.length = nparams then (ex F fuel b (args ++ List.replicate (nslots - nparams) .undef)).bind fun o => match o with
    | .ret v => some v
    | _ => none
  else none
noncomputable def runI (F : Nat → List V → Option V) (fuel nparams nslots : Nat) (b : S) (args : List V) : Option V :=
  if args.length = nparams then (ex F fuel b (.inst [] :: args ++ List.replicate (nslots - nparams - 1) .undef)).bind fun o => match o with
    | .next ρ => ρ[0]?
    | _ => none
  else none

end Mine
end
section
set_option maxRecDepth 100000
set_option backward.match.sparseCases false
namespace Mine
open PySem PySem.W PyProof.Rows PySem.Calls

/-- room for n more nested calls -/
structure Rm (A : Around) (n : Nat) : Prop where
  hd : A.handled = none
  dp : A.depth + n < recursionLimit
  un : A.units + 20 * n + 100 < cLine

noncomputable def Lo (C : Addr) (ms : List Addr) (h : Heap) : V → Value → Prop
  | .list l, v => ∃ a o vs n, v = .ref a ∧ h.get? a = some o ∧ o.cls = .type "list" ∧ o.data = .seq (List.toArray vs) n ∧ Reps C (hid ms h) l vs
  | .inst l, v => ∃ x dx es n, v = .ref x ∧ h.get? x = some (instObj C dx) ∧ h.get? dx = some { cls := .type "dict", data := .dict (List.toArray es) n } ∧ Ents C (hid ms h) l attrN es
  | x, v => Rep C (hid ms h) x v

theorem Rep.lo {C : Addr} {ms : List Addr} {h : Heap} {x : V} {v : Value} (r : Rep C (hid ms h) x v) : Lo C ms h x v := by
  cases x with
  | list l =>
    simp only [Rep_q1, Rep_q2, Rep_q3, Rep_q4, Rep_q5, Rep_q6, Rep_q7, Rep_q8, Rep_q9] at r; obtain ⟨a, o, vs, n, e1, e2, e3, e4, e5⟩ := r
    exact ⟨a, o, vs, n, e1, hid_get e2, e3, e4, e5⟩
  | inst l =>
    simp only [Rep_q1, Rep_q2, Rep_q3, Rep_q4, Rep_q5, Rep_q6, Rep_q7, Rep_q8, Rep_q9] at r; obtain ⟨a, o, vs, n, e1, e2, e3, e4⟩ := r
    exact ⟨a, o, vs, n, e1, hid_get e2, hid_get e3, e4⟩
  | _ => exact r
theorem Lo.keeps {C : Addr} {ms : List Addr} {h h' : Heap} (k : ∀ b o, h.get? b = some o → h'.get? b = some o) {x : V} {v : Value} (r : Lo C ms h x v) : Lo C ms h' x v := by
  cases x with
  | list l =>
    obtain ⟨a, o, vs, n, e1, e2, e3, e4, e5⟩ := r
    exact ⟨a, o, vs, n, e1, k _ _ e2, e3, e4, Reps.mono (hid_mono k) _ _ e5⟩
  | inst l =>
    obtain ⟨a, o, vs, n, e1, e2, e3, e4⟩ := r
    exact ⟨a, o, vs, n, e1, k _ _ e2, k _ _ e3, Ents.mono (hid_mono k) _ _ _ e4⟩
  | _ => exact Rep.mono (hid_mono k) _ _ r

theorem Keeps.refl (s : Shared) : Keeps s s := ⟨s.heap, s.toks, rfl, fun _ _ e => e⟩
theorem Keeps.toks (s : Shared) (n : Nat) : Keeps s { s with toks := n } := ⟨s.heap, n, rfl, fun _ _ e => e⟩
theorem Keeps.of {s : Shared} {h : Heap} {n : Nat} (k : ∀ b o, s.heap.get? b = some o → h.get? b = some o) : Keeps s { s with heap := h, toks := n } := ⟨h, n, rfl, k⟩
theorem Keeps.push (s : Shared) (o : Obj) : Keeps s { s with heap := s.heap.push o } := ⟨_, s.toks, rfl, fun _ _ e => Heap.get?_push_of_some _ e⟩
theorem Keeps.heap {s s' : Shared} (k : Keeps s s') : ∀ b o, s.heap.get? b = some o → s'.heap.get? b = some o := by
  obtain ⟨h', tk, rfl, k⟩ := k; exact k
theorem Keeps.trans {s s' s'' : Shared} (k : Keeps s s') (k' : Keeps s' s'') : Keeps s s'' := by
  obtain ⟨h', tk, rfl, k⟩ := k; obtain ⟨h'', tk', rfl, k'⟩ := k'
  exact ⟨h'', tk', rfl, fun b o e => k' b o (k b o e)⟩

noncomputable def Live (ms : List Addr) (h : Heap) : Prop := ∀ a ∈ ms, ∃ o, h.get? a = some o
theorem Live.keeps {ms : List Addr} {h h' : Heap} (L : Live ms h) (k : ∀ b o, h.get? b = some o → h'.get? b = some o) : Live ms h' := fun a ha => let ⟨o, e⟩ := L a ha; ⟨o, k _ _ e⟩
theorem Live.not {ms : List Addr} {h : Heap} (L : Live ms h) {a : Addr} (e : h.get? a = none) : a ∉ ms := fun q => by
  obtain ⟨o, e'⟩ := L a q; rw [e] at e'; cases e'
theorem get_size (h : Heap) : h.get? h.objs.size = none := by
  cases e : h.get? h.objs.size with
  | none => rfl
  | some o => exact absurd (Heap.lt_size e) (Nat.lt_irrefl _)
theorem hid_push {ms : List Addr} {h : Heap} (L : Live ms h) (o : Obj) (hf : o.isFreed = false) : hid ms (h.push o) h.objs.size = some o := by
  rw [hid_of (L.not (get_size h))]; exact Heap.get?_push_size _ hf

/-- the tree yields a value of x -/
noncomputable abbrev Evl (prog : Program) (w : World) (A : Around) (C : Addr) (ms : List Addr) (t : Sem Value) (x : V) (s : Shared) : Prop :=
  wpAny (model prog w) A t (fun v s' => Keeps s s' ∧ Rep C (hid ms s'.heap) x v) (fun _ _ => False) s
/-- the tree yields a new list of l -/
noncomputable abbrev EvN (prog : Program) (w : World) (A : Around) (C : Addr) (ms : List Addr) (t : Sem Value) (l : List V) (s : Shared) : Prop :=
  wpAny (model prog w) A t (fun v s' => Keeps s s' ∧ ∃ a vs n, v = .ref a ∧ s.heap.get? a = none ∧ s'.heap.get? a = some { cls := .type "list", data := .seq (List.toArray vs) n } ∧ Reps C (hid (a :: ms) s'.heap) l vs) (fun _ _ => False) s
/-- the tree yields a truth -/
noncomputable abbrev Tst (prog : Program) (w : World) (A : Around) (t : Sem Bool) (b : Bool) (s : Shared) : Prop :=
  wpAny (model prog w) A t (fun r s' => Keeps s s' ∧ r = b) (fun _ _ => False) s

section
variable {prog : Program} {w : World} {A : Around} {C : Addr} {ms : List Addr} {s : Shared} {n : Nat}

theorem EvN.ev {t : Sem Value} {l : List V} (L : Live ms s.heap) (h : EvN prog w A C ms t l s) : Evl prog w A C ms t (.list l) s :=
  wpAny_mono h (fun v s' q => by
    obtain ⟨k, a, vs, n, rfl, ha, hs, hr⟩ := q
    refine ⟨k, ?_⟩
    simp only [Rep_q1, Rep_q2, Rep_q3, Rep_q4, Rep_q5, Rep_q6, Rep_q7, Rep_q8, Rep_q9]
    exact ⟨a, _, vs, n, rfl, (hid_of (L.not ha)).trans hs, rfl, rfl, Reps.mono hid_tail _ _ hr⟩) fun _ _ e => e

theorem newList_ok {l : List V} {vs : List Value} (h : Reps C (hid ms s.heap) l vs) (hl : l.length ≤ lim) : EvN prog w A C ms (newList vs) l s := by
  refine wpAny_newList ⟨Keeps.push _ _, _, vs, 0, rfl, get_size _, Heap.get?_push_size _ rfl, Reps.mono (hid_cons (get_size _) fun _ _ e => Heap.get?_push_of_some _ e) _ _ h⟩ ?_
  rw [h.length]; exact Nat.le_trans hl (by decide)
theorem newTuple_ok {l : List V} {vs : List Value} (L : Live ms s.heap) (h : Reps C (hid ms s.heap) l vs) (hl : l.length ≤ lim) : Evl prog w A C ms (newTuple vs) (.tup l) s := by
  refine wpAny_newTuple ⟨Keeps.push _ _, ?_⟩ (by rw [h.length]; exact Nat.le_trans hl (by decide))
  simp only [Rep_q1, Rep_q2, Rep_q3, Rep_q4, Rep_q5, Rep_q6, Rep_q7, Rep_q8, Rep_q9]
  exact ⟨_, _, vs, 0, rfl, hid_push L _ rfl, rfl, rfl, Reps.mono (hid_mono fun _ _ e => Heap.get?_push_of_some _ e) _ _ h⟩

theorem small_bounds {i : Int} (h : small i = true) : -1099511627776 < i ∧ i < 1099511627776 := by
  simp only [small, Bool.and_eq_true, decide_eq_true_eq] at h; exact h

theorem mk_int {i : Int} {t : Tok} {s' : Shared} (k : Keeps s s') : Keeps s s' ∧ Rep C (hid ms s'.heap) (.int i) (.int i t) := ⟨k, by simp only [Rep_q1, Rep_q2, Rep_q3, Rep_q4, Rep_q5, Rep_q6, Rep_q7, Rep_q8, Rep_q9]; exact ⟨t, rfl⟩⟩
theorem mk_bool {b : Bool} {s' : Shared} (k : Keeps s s') : Keeps s s' ∧ Rep C (hid ms s'.heap) (.bool b) (.bool b) := ⟨k, by simp only [Rep_q1, Rep_q2, Rep_q3, Rep_q4, Rep_q5, Rep_q6, Rep_q7, Rep_q8, Rep_q9]⟩
theorem mk_str {l : List Nat} {x : Str} {t : Tok} {s' : Shared} (k : Keeps s s') (hx : x = ⟨l.toArray⟩) (hl : ∀ c ∈ l, c < 128) : Keeps s s' ∧ Rep C (hid ms s'.heap) (.str l) (.str x t) := ⟨k, by simp only [Rep_q1, Rep_q2, Rep_q3, Rep_q4, Rep_q5, Rep_q6, Rep_q7, Rep_q8, Rep_q9]; subst hx; exact ⟨hl, t, rfl⟩⟩

theorem str_append (a b : List Nat) : (⟨a.toArray⟩ : Str) ++ (⟨b.toArray⟩ : Str) = ⟨(a ++ b).toArray⟩ := by
  show Str.append _ _ = _
  simp [Str.append]
theorem str_len (a : List Nat) : (⟨a.toArray⟩ : Str).length = a.length := by simp [Str.length]

theorem fold_rep {α : Type} (l : List α) : ∀ (n : Nat) (acc : Array α), (List.replicate n l.toArray).foldl (fun x1 x2 => x1 ++ x2) acc = acc ++ (rep n l).toArray
  | 0, acc => by simp [rep]
  | n + 1, acc => by
    rw [List.replicate_succ, List.foldl_cons, fold_rep l n, rep]
    simp [Array.append_assoc]
theorem rep_one {α : Type} (l : List α) : rep 1 l = l := by simp [rep]
theorem rep_nil {α : Type} : ∀ n, rep n ([] : List α) = []
  | 0 => rfl
  | n + 1 => by rw [rep, rep_nil n]; rfl
theorem mem_rep {α : Type} {l : List α} {c : α} : ∀ {n}, c ∈ rep n l → c ∈ l
  | 0, h => by simp [rep] at h
  | n + 1, h => by
    rw [rep, List.mem_append] at h
    exact h.elim id mem_rep
theorem Reps.rep {g : View} {l : List V} {vs : List Value} (h : Reps C g l vs) : ∀ n, Reps C g (Mine.rep n l) (Mine.rep n vs)
  | 0 => Reps.nil
  | n + 1 => Reps.append h (Reps.rep h n)

theorem txt_mul (a : List Nat) (n : Int) : Txt.mul ⟨a.toArray⟩ n = ⟨(rep n.toNat a).toArray⟩ := by
  unfold Txt.mul
  split
  · rename_i h
    have : n.toNat = 0 := by grind
    rw [this]; rfl
  · rename_i h
    split
    · rename_i h2
      simp only [Bool.or_eq_true, beq_iff_eq, str_len, List.length_eq_zero_iff] at h2
      rcases h2 with h2 | h2
      · subst h2; simp [rep]
      · subst h2; rw [rep_nil]
    · rw [fold_rep]; simp

theorem int_mul_ok {a b : Int} (h : small a = true) : IntMulOk a b := by
  have := small_bounds h
  exact IntMulOk.of_left (intBits_le_64 (by omega) (by omega))

theorem mulOk_of {a : List Nat} {n : Int} (h : small n = true) (hl : a.length * n.toNat ≤ lim) : MulOk ⟨a.toArray⟩ n := by
  have hs := small_bounds h
  refine ⟨by simp; grind, fun h1 _ => ?_, fun h1 _ => ?_⟩
  · rw [str_len]
    intro q
    have e : (2 ^ 63 - 1 : Int) / n ≥ 8388607 := by
      refine (Int.le_ediv_iff_mul_le (by grind)).mpr ?_
      have : (8388607 : Int) * n ≤ 8388607 * 1099511627776 := Int.mul_le_mul_of_nonneg_left (by lia) (by grind)
      grind
    have hn : 1 ≤ n.toNat := by lia
    have : a.length ≤ a.length * n.toNat := Nat.le_mul_of_pos_right _ hn
    simp only [lim] at hl
    lia
  · unfold Builtin.Str.tooLong
    rw [str_len]
    simp only [lim] at hl
    rw [sizeLine_eq]; simp; lia

end

end Mine
end
section
set_option maxRecDepth 100000
set_option backward.match.sparseCases false
namespace Mine
open PySem PySem.W PyProof.Rows PySem.Calls

section
variable {prog : Program} {w : World} {A : Around} {C : Addr} {ms : List Addr} {s : Shared} {n : Nat}

theorem Lo.int {h : Heap} {i : Int} {v : Value} (r : Lo C ms h (.int i) v) : ∃ t, v = .int i t := by simpa only [Lo, Rep_q1, Rep_q2, Rep_q3, Rep_q4, Rep_q5, Rep_q6, Rep_q7, Rep_q8, Rep_q9] using r
theorem Lo.str {h : Heap} {l : List Nat} {v : Value} (r : Lo C ms h (.str l) v) : (∀ c ∈ l, c < 128) ∧ ∃ t, v = .str ⟨l.toArray⟩ t := by simpa only [Lo, Rep_q1, Rep_q2, Rep_q3, Rep_q4, Rep_q5, Rep_q6, Rep_q7, Rep_q8, Rep_q9] using r
theorem Lo.bool {h : Heap} {b : Bool} {v : Value} (r : Lo C ms h (.bool b) v) : v = .bool b := by simpa only [Lo, Rep_q1, Rep_q2, Rep_q3, Rep_q4, Rep_q5, Rep_q6, Rep_q7, Rep_q8, Rep_q9] using r
theorem Lo.list {h : Heap} {l : List V} {v : Value} (r : Lo C ms h (.list l) v) : ∃ a o vs n, v = .ref a ∧ h.get? a = some o ∧ o.cls = .type "list" ∧ o.data = .seq (List.toArray vs) n ∧ Reps C (hid ms h) l vs := r

theorem concat_ok {a b : Addr} {o₁ o₂ : Obj} {n₁ n₂ : Nat} {vs ws : List Value} {xs ys : List V}
    (h1 : s.heap.get? a = some o₁) (c1 : o₁.cls = .type "list") (d1 : o₁.data = .seq (List.toArray vs) n₁) (r1 : Reps C (hid ms s.heap) xs vs)
    (h2 : s.heap.get? b = some o₂) (c2 : o₂.cls = .type "list") (d2 : o₂.data = .seq (List.toArray ws) n₂) (r2 : Reps C (hid ms s.heap) ys ws)
    (hl : xs.length + ys.length ≤ lim) : EvN prog w A C ms (binaryOp .Add (.ref a) (.ref b)) (xs ++ ys) s := by
  obtain ⟨cls, dd, data, sl⟩ := o₁
  obtain ⟨cls2, dd2, data2, sl2⟩ := o₂
  simp only at c1 d1 c2 d2
  subst c1 d1 c2 d2
  have e : vs.toArray ++ ws.toArray = (vs ++ ws).toArray := by simp
  have hsz : vs.toArray.size + ws.toArray.size ≤ sizeLine := by
    simp only [List.size_toArray, r1.length, r2.length]; exact Nat.le_trans hl (by decide)
  refine concat_meets ⟨_, h1, rfl⟩ ⟨_, h2, rfl⟩ noFill_list_add seq_list_add PySem.F.slot_list_add PySem.F.entry_list_add (PySem.F.args_list_add_2 _ _) (list_addW a b vs.toArray ws.toArray n₁ n₂ dd dd2 sl sl2 hsz) ⟨h1, h2, ?_⟩
  rw [e]
  exact ⟨Keeps.push _ _, _, vs ++ ws, 0, rfl, get_size _, Heap.get?_push_size _ rfl, Reps.mono (hid_cons (get_size _) fun _ _ q => Heap.get?_push_of_some _ q) _ _ (Reps.append r1 r2)⟩

theorem repeat_ok {l : Addr} {vs : List Value} {k : Nat} {xs : List V} {x : Int} {u : Tok}
    (hl : s.heap.get? l = some { cls := .type "list", dict := none, data := .seq (List.toArray vs) k, slots := #[] }) (r : Reps C (hid ms s.heap) xs vs)
    (hx : small x = true) (hs : xs.length * x.toNat ≤ lim) : EvN prog w A C ms (binaryOp .Mult (.ref l) (.int x u)) (Mine.rep x.toNat xs) s := by
  have hb := small_bounds hx
  have hlen := r.length
  simp only [lim] at hs
  refine wpAny_binaryOp_repeat_ref (T := "list") (U := "int") (by decide) ⟨_, hl, rfl⟩ (fun s' => typeIs_int s' x u) noFill_list_mul PySem.F.fills_int_mul PySem.F.slot_int_rmul repeat_list PySem.F.slot_int_index.lookup
    (call_meets PySem.F.slot_int_rmul (typeIs_int s x u) PySem.F.entry_int_rmul (PySem.F.args_int_rmul_2 _ _) (int___rmul___int_list x u l vs.toArray k)
      ⟨hl, rfl, ⟨_, hl, rfl⟩, call_meets PySem.F.slot_list_mul ⟨_, hl, rfl⟩ PySem.F.entry_list_mul (PySem.F.args_list_mul_2 _ _)
        (AutoListH.list___mul___list_int_3 l vs.toArray k x u (by simp [Builtin.List.listFitsIndex]; omega) (by rw [List.size_toArray, hlen]; grind) (by simp [Builtin.List.listTooLong, sizeLine, hlen]; grind))
        ⟨hl, ?_⟩⟩)
  refine ⟨Keeps.push _ _, _, Mine.rep x.toNat vs, 0, rfl, get_size _, ?_, Reps.mono (hid_cons (get_size _) fun _ _ q => Heap.get?_push_of_some _ q) _ _ (Reps.rep r _)⟩
  rw [Heap.get?_push_size _ rfl]
  congr 3
  split
  · rename_i he
    simp at he; subst he; simp [rep_nil]
  · rw [fold_rep]; simp

theorem binop_ok {op : Operator} {x y z : V} {v u : Value} (L : Live ms s.heap) (h : binop op x y = some z) (hx : Lo C ms s.heap x v) (hy : Lo C ms s.heap y u) :
    Evl prog w A C ms (binaryOp op v u) z s ∧ ∀ l, z = .list l → EvN prog w A C ms (binaryOp op v u) l s := by
  cases op with
  | Add =>
    have h : addV x y = some z := h
    cases x with
    | int a =>
      obtain ⟨b, rfl, h⟩ := i1_e h
      obtain ⟨t, rfl⟩ := hx.int; obtain ⟨t', rfl⟩ := hy.int
      cases h
      exact ⟨add_int (mk_int (Keeps.toks _ _)), fun l e => by cases e⟩
    | str a =>
      obtain ⟨b, rfl, h⟩ := s1_e h
      refine if_e h fun hl h => ?_
      cases h; obtain ⟨ha, t, rfl⟩ := hx.str; obtain ⟨hb, t', rfl⟩ := hy.str
      refine ⟨SBL.add (fun t' k _ => mk_str (Keeps.toks _ _) (str_append _ _) fun c hc => ?_) (by simp only [str_len]; exact Nat.le_trans hl (by decide)), fun l e => by cases e⟩
      rw [List.mem_append] at hc; exact hc.elim (ha c) (hb c)
    | list a =>
      obtain ⟨b, rfl, h⟩ := l1_e h
      refine if_e h fun hl h => ?_
      cases h; obtain ⟨a, o, vs, n, rfl, h1, c1, d1, r1⟩ := hx.list; obtain ⟨b, o', ws, n', rfl, h2, c2, d2, r2⟩ := hy.list
      have := concat_ok (prog := prog) (w := w) (A := A) h1 c1 d1 r1 h2 c2 d2 r2 hl
      exact ⟨this.ev L, fun l e => by cases e; exact this⟩
    | _ => exact no_e h
  | Sub =>
    obtain ⟨a, rfl, h⟩ := i1_e h; obtain ⟨b, rfl, h⟩ := i1_e h
    cases h; obtain ⟨t, rfl⟩ := hx.int; obtain ⟨t', rfl⟩ := hy.int
    exact ⟨sub_int (mk_int (Keeps.toks _ _)), fun l e => by cases e⟩
  | Mult =>
    have h : mulV x y = some z := h
    cases x with
    | int a =>
      obtain ⟨b, rfl, h⟩ := i1_e h
      refine if_e h fun hs h => ?_
      cases h; obtain ⟨t, rfl⟩ := hx.int; obtain ⟨t', rfl⟩ := hy.int
      exact ⟨mul_int (mk_int (Keeps.toks _ _)) (int_mul_ok hs), fun l e => by cases e⟩
    | str a =>
      obtain ⟨b, rfl, h⟩ := i1_e h
      refine if_e h fun hs h => ?_
      cases h; obtain ⟨ha, t, rfl⟩ := hx.str; obtain ⟨t', rfl⟩ := hy.int
      exact ⟨SB.mul (mulOk_of hs.1 hs.2) fun t' k => mk_str (Keeps.toks _ _) (txt_mul _ _) fun c hc => ha c (mem_rep hc), fun l e => by cases e⟩
    | _ => exact no_e h
  | FloorDiv =>
    obtain ⟨a, rfl, h⟩ := i1_e h; obtain ⟨b, rfl, h⟩ := i1_e h
    refine if_e h fun hs h => ?_
    cases h; obtain ⟨t, rfl⟩ := hx.int; obtain ⟨t', rfl⟩ := hy.int
    refine ⟨floordiv_int (by grind) ?_ (.inl (PyProof.noPylong_small (by grind))), fun l e => by cases e⟩
    rw [Int.fdiv_eq_ediv_of_nonneg _ (by lia)]
    exact mk_int (Keeps.toks _ _)
  | Mod =>
    obtain ⟨a, rfl, h⟩ := i1_e h; obtain ⟨b, rfl, h⟩ := i1_e h
    refine if_e h fun hs h => ?_
    cases h; obtain ⟨t, rfl⟩ := hx.int; obtain ⟨t', rfl⟩ := hy.int
    refine ⟨mod_int' (by omega) ?_, fun l e => by cases e⟩
    rw [Int.fmod_eq_emod_of_nonneg _ (by grind)]
    exact mk_int (Keeps.toks _ _)
  | Pow =>
    obtain ⟨a, rfl, h⟩ := i1_e h; obtain ⟨b, rfl, h⟩ := i1_e h
    refine if_e h fun hs h => ?_
    cases h; obtain ⟨t, rfl⟩ := hx.int; obtain ⟨t', rfl⟩ := hy.int
    have hb := small_bounds hs.2.2
    refine ⟨pow_int hs.1 ?_ (mk_int (Keeps.toks _ _)), fun l e => by cases e⟩
    have : Builtin.Int.intBits a ≤ 64 := intBits_le_64 (by grind) (by lia)
    have h2 : (Builtin.Int.intBits a : Int) * b ≤ 64 * 100 := by
      refine Int.mul_le_mul (by omega) hs.2.1 hs.1 (by lia)
    omega
  | _ => exact no_e h

theorem truthy_ok {x : V} {b : Bool} {v : Value} (h : truthyV x = some b) (hx : Lo C ms s.heap x v) : Tst prog w A (truthy v) b s := by
  unfold truthyV at h
  split at h
  · cases h; rw [hx.bool]; exact wpAny_truthy_bool ⟨Keeps.refl _, rfl⟩
  · cases h; obtain ⟨t, rfl⟩ := hx.int
    rename_i i
    refine truthy_int ⟨Keeps.refl _, ?_⟩
    by_cases q : i = 0 <;> simp [q]
  · split at h
    · rename_i l hl
      cases h; obtain ⟨_, t, rfl⟩ := hx.str
      simp only [lim] at hl
      refine P.truthy_str (by rw [str_len]; lia) ⟨Keeps.toks _ _, ?_⟩
      rw [str_len]
      cases l with
      | nil => rfl
      | cons a r => simp; lia
    · cases h
  · cases h

end

end Mine
end
section
set_option maxRecDepth 100000
set_option backward.match.sparseCases false
namespace Mine
open PySem PySem.W PyProof.Rows PySem.Calls PySem.SeqAt

/-- plain data of depth n -/
noncomputable def pyV : Nat → V → PyData
  | _, .none => .none
  | _, .bool b => .bool b
  | _, .int i => .int i
  | _, .str l => .str ⟨l.toArray⟩
  | n + 1, .list l => .list (l.map (pyV n))
  | n + 1, .tup l => .tuple (l.map (pyV n))
  | _, _ => .none

theorem eqvAll_map {f g : V → PyData} {h : V → V → Bool} : ∀ (a b : List V), (∀ x ∈ a, ∀ y ∈ b, PyData.eqv (f x) (g y) = h x y) → PyData.eqvAll (a.map f) (b.map g) = eqL h a b
  | [], [], _ => by simp [PyData.eqvAll, eqL]
  | [], _ :: _, _ => by simp [PyData.eqvAll, eqL]
  | _ :: _, [], _ => by simp [PyData.eqvAll, eqL]
  | x :: xs, y :: ys, e => by
    simp only [List.map_cons, PyData.eqvAll, eqL]
    rw [e x (by simp) y (by simp), eqvAll_map xs ys fun x hx y hy => e x (by simp [hx]) y (by simp [hy])]

theorem eqv_py : ∀ (n : Nat) (x y : V), okV n x = true → okV n y = true → PyData.eqv (pyV n x) (pyV n y) = veq n x y := by
  intro n
  induction n with
  | zero =>
    intro x y hx hy
    cases x <;> first | (cases hx; done) | skip
    all_goals (cases y <;> first | (cases hy; done) | skip)
    all_goals first
      | (simp [pyV, PyData.eqv, veq]; done)
      | (simp only [pyV, PyData.eqv, veq]; rw [Bool.eq_iff_iff]; simp)
  | succ n ih =>
    intro x y hx hy
    cases x <;> first | (cases hx; done) | skip
    all_goals (cases y <;> first | (cases hy; done) | skip)
    all_goals first
      | (simp [pyV, PyData.eqv, veq]; done)
      | (simp only [pyV, PyData.eqv, veq]; rw [Bool.eq_iff_iff]; simp; done)
      | (simp only [pyV, PyData.eqv, veq]
         simp only [okV, List.all_eq_true] at hx hy
         exact eqvAll_map _ _ fun x h1 y h2 => ih x y (hx x h1) (hy y h2))

theorem depthAll_le {n : Nat} : ∀ {l : List PyData}, (∀ d ∈ l, PyData.depth d ≤ n) → PyData.depthAll l ≤ n
  | [], _ => by simp [PyData.depthAll]
  | x :: xs, h => by
    simp only [PyData.depthAll]
    exact Nat.max_le.mpr ⟨h x (by simp), depthAll_le fun d hd => h d (by simp [hd])⟩
theorem depth_py : ∀ (n : Nat) (x : V), (pyV n x).depth ≤ n := by
  intro n
  induction n with
  | zero => intro x; cases x <;> simp [pyV, PyData.depth]
  | succ n ih =>
    intro x
    cases x <;> simp only [pyV, PyData.depth] <;> first
      | grind
      | (refine Nat.succ_le_succ (depthAll_le fun d hd => ?_)
         obtain ⟨y, _, rfl⟩ := List.mem_map.mp hd
         exact ih y)
/-- what a value of a heap says as plain data -/
structure Says (h : Heap) (v : Value) (d : PyData) : Prop where
  r : ∃ as, Reads h v d as
  lay : d.canLay0 = true

theorem says_all {h : Heap} {C : Addr} {ms : List Addr} {f : V → PyData} : ∀ {l : List V} {vs : List Value}, Reps C (hid ms h) l vs → (∀ x ∈ l, ∀ v, Rep C (hid ms h) x v → Says h v (f x)) → (∃ as, ReadsAll h vs (l.map f) as) ∧ PyData.canLayAll0 (l.map f) = true
  | [], vs, h1, _ => by simp only [Reps_q1, Reps_q2] at h1; subst h1; exact ⟨⟨_, .nil⟩, by simp [PyData.canLayAll0]⟩
  | x :: xs, vs, h1, h2 => by
    simp only [Reps_q1, Reps_q2] at h1
    obtain ⟨v, vs', rfl, hv, h1⟩ := h1
    obtain ⟨⟨as, r1⟩, l1⟩ := h2 x (by simp) v hv
    obtain ⟨⟨bs, r2⟩, l2⟩ := says_all h1 fun y hy u hu => h2 y (by simp [hy]) u hu
    exact ⟨⟨_, .cons r1 r2⟩, by simp [PyData.canLayAll0, l1, l2]⟩

theorem rep_says {h : Heap} {C : Addr} {ms : List Addr} : ∀ (n : Nat) (x : V) (v : Value), okV n x = true → Rep C (hid ms h) x v → Says h v (pyV n x) := by
  intro n
  induction n with
  | zero =>
    intro x v hx r
    cases x <;> first | (cases hx; done) | skip
    all_goals simp only [Rep_q1, Rep_q2, Rep_q3, Rep_q4, Rep_q5, Rep_q6, Rep_q7, Rep_q8, Rep_q9] at r
    · subst r; exact ⟨⟨_, .none⟩, by simp [pyV, PyData.canLay0]⟩
    · subst r; exact ⟨⟨_, .bool _⟩, by simp [pyV, PyData.canLay0]⟩
    · obtain ⟨t, rfl⟩ := r; exact ⟨⟨_, .int _ _⟩, by simp [pyV, PyData.canLay0]⟩
    · obtain ⟨hl, t, rfl⟩ := r
      refine ⟨⟨_, .str _ _⟩, ?_⟩
      simp only [pyV, PyData.canLay0, PyData.strOk, List.all_toArray, List.all_eq_true, decide_eq_true_eq]
      exact fun c hc => Nat.lt_trans (hl c hc) (by decide)
  | succ n ih =>
    intro x v hx r
    cases x <;> first | (cases hx; done) | skip
    all_goals simp only [Rep_q1, Rep_q2, Rep_q3, Rep_q4, Rep_q5, Rep_q6, Rep_q7, Rep_q8, Rep_q9] at r
    · subst r; exact ⟨⟨_, .none⟩, by simp [pyV, PyData.canLay0]⟩
    · subst r; exact ⟨⟨_, .bool _⟩, by simp [pyV, PyData.canLay0]⟩
    · obtain ⟨t, rfl⟩ := r; exact ⟨⟨_, .int _ _⟩, by simp [pyV, PyData.canLay0]⟩
    · obtain ⟨hl, t, rfl⟩ := r
      refine ⟨⟨_, .str _ _⟩, ?_⟩
      simp only [pyV, PyData.canLay0, PyData.strOk, List.all_toArray, List.all_eq_true, decide_eq_true_eq]
      exact fun c hc => Nat.lt_trans (hl c hc) (by decide)
    · obtain ⟨a, o, vs, m, rfl, h1, h2, h3, h4⟩ := r
      simp only [okV, List.all_eq_true] at hx
      obtain ⟨⟨as, r1⟩, l1⟩ := says_all (f := pyV n) h4 fun y hy u hu => ih y u (hx y hy) hu
      exact ⟨⟨_, .list (hid_get h1) h2 h3 r1⟩, by simpa [pyV, PyData.canLay0] using l1⟩
    · obtain ⟨a, o, vs, m, rfl, h1, h2, h3, h4⟩ := r
      simp only [okV, List.all_eq_true] at hx
      obtain ⟨⟨as, r1⟩, l1⟩ := says_all (f := pyV n) h4 fun y hy u hu => ih y u (hx y hy) hu
      exact ⟨⟨_, .tuple (hid_get h1) h2 h3 r1⟩, by simpa [pyV, PyData.canLay0] using l1⟩

theorem lo_says {h : Heap} {C : Addr} {ms : List Addr} {n : Nat} {x : V} {v : Value} (hx : okV (n + 1) x = true) (r : Lo C ms h x v) : Says h v (pyV (n + 1) x) := by
  cases x with
  | list l =>
    obtain ⟨a, o, vs, m, rfl, h1, h2, h3, h4⟩ := r
    simp only [okV, List.all_eq_true] at hx
    obtain ⟨⟨as, r1⟩, l1⟩ := says_all (f := pyV n) h4 fun y hy u hu => rep_says n y u (hx y hy) hu
    exact ⟨⟨_, .list h1 h2 h3 r1⟩, by simpa [pyV, PyData.canLay0] using l1⟩
  | inst l => cases hx
  | _ => exact rep_says (C := C) (ms := ms) _ _ _ hx r

section
variable {prog : Program} {w : World} {A : Around} {C : Addr} {ms : List Addr} {s : Shared} {n : Nat}

theorem says_shaped {x : V} {v : Value} (q : Says s.heap v (pyV 4 x)) : shaped (pyV 4 x) = true := by
  unfold shaped
  rw [q.lay]; simp; exact Nat.le_trans (depth_py 4 x) (by decide)

theorem cmpop_ok {op : CmpOp} {x y : V} {b : Bool} {v u : Value} (R : Rm A n) (h : cmpop op x y = some b) (hx : Lo C ms s.heap x v) (hy : Lo C ms s.heap y u) :
    wpAny (model prog w) A (compareOp op v u) (fun r s' => Keeps s s' ∧ r = .bool b) (fun _ _ => False) s := by
  have hu : A.units + 64 < cLine := by have := R.un; lia
  cases op with
  | Eq =>
    refine if_e h fun hk h => ?_
    cases h
    simp only [Bool.and_eq_true] at hk
    have q1 := lo_says hk.1 hx
    have q2 := lo_says hk.2 hy
    obtain ⟨as, r1⟩ := q1.r; obtain ⟨bs, r2⟩ := q2.r
    refine eq_dataH r1 r2 (says_shaped q1) (says_shaped q2) hu ⟨Keeps.refl _, ?_⟩
    rw [eqv_py _ _ _ hk.1 hk.2]
  | NotEq =>
    refine if_e h fun hk h => ?_
    cases h
    simp only [Bool.and_eq_true] at hk
    have q1 := lo_says hk.1 hx
    have q2 := lo_says hk.2 hy
    obtain ⟨as, r1⟩ := q1.r; obtain ⟨bs, r2⟩ := q2.r
    refine ne_dataH r1 r2 (says_shaped q1) (says_shaped q2) hu ⟨Keeps.refl _, ?_⟩
    rw [eqv_py _ _ _ hk.1 hk.2]
  | Lt =>
    obtain ⟨a, rfl, h⟩ := i1_e h; obtain ⟨b, rfl, h⟩ := i1_e h
    cases h; obtain ⟨t, rfl⟩ := hx.int; obtain ⟨t', rfl⟩ := hy.int
    exact lt_int ⟨Keeps.refl _, rfl⟩
  | LtE =>
    obtain ⟨a, rfl, h⟩ := i1_e h; obtain ⟨b, rfl, h⟩ := i1_e h
    cases h; obtain ⟨t, rfl⟩ := hx.int; obtain ⟨t', rfl⟩ := hy.int
    exact le_int ⟨Keeps.refl _, rfl⟩
  | Gt =>
    obtain ⟨a, rfl, h⟩ := i1_e h; obtain ⟨b, rfl, h⟩ := i1_e h
    cases h; obtain ⟨t, rfl⟩ := hx.int; obtain ⟨t', rfl⟩ := hy.int
    exact gt_int ⟨Keeps.refl _, rfl⟩
  | GtE =>
    obtain ⟨a, rfl, h⟩ := i1_e h; obtain ⟨b, rfl, h⟩ := i1_e h
    cases h; obtain ⟨t, rfl⟩ := hx.int; obtain ⟨t', rfl⟩ := hy.int
    exact ge_int ⟨Keeps.refl _, rfl⟩
  | Is =>
    obtain ⟨a, rfl, h⟩ := b1_e h; obtain ⟨b, rfl, h⟩ := b1_e h
    cases h; rw [hx.bool, hy.bool]
    exact wpAny_is_plain rfl ⟨Keeps.refl _, by cases a <;> cases b <;> rfl⟩
  | IsNot =>
    obtain ⟨a, rfl, h⟩ := b1_e h; obtain ⟨b, rfl, h⟩ := b1_e h
    cases h; rw [hx.bool, hy.bool]
    exact wpAny_isNot_plain rfl ⟨Keeps.refl _, by cases a <;> cases b <;> rfl⟩
  | In =>
    have h : inV x y = some b := h
    cases y with
    | str b' =>
      obtain ⟨a, rfl, h⟩ := s1_e h
      cases h; obtain ⟨_, t, rfl⟩ := hx.str; obtain ⟨_, t', rfl⟩ := hy.str
      exact P.in_str ⟨Keeps.refl _, rfl⟩
    | list l =>
      refine if_e h fun hk h => ?_
      cases h
      simp only [Bool.and_eq_true] at hk
      have q1 := lo_says hk.1 hx
      have q2 := lo_says hk.2 hy
      obtain ⟨as, r1⟩ := q1.r; obtain ⟨bs, r2⟩ := q2.r
      have l2 := q2.lay
      simp only [pyV, PyData.canLay0] at r2 l2
      have hd : (pyV (3 + 1) x).depth ≤ 4 := depth_py (3 + 1) x
      refine in_list_reads r2 r1 l2 q1.lay (by lia) ⟨Keeps.refl _, ?_⟩
      have hk2 := hk.2
      simp only [okV, List.all_eq_true] at hk2
      rw [List.any_map]
      congr 1
      rw [Bool.eq_iff_iff]
      simp only [List.any_eq_true, Function.comp]
      constructor
      · rintro ⟨z, hz, e⟩; exact ⟨z, hz, by rw [← eqv_py 4 z x (hk2 z hz) hk.1]; exact e⟩
      · rintro ⟨z, hz, e⟩; exact ⟨z, hz, by rw [eqv_py 4 z x (hk2 z hz) hk.1]; exact e⟩
    | tup l =>
      refine if_e h fun hk h => ?_
      cases h
      simp only [Bool.and_eq_true] at hk
      have q1 := lo_says hk.1 hx
      have q2 := lo_says hk.2 hy
      obtain ⟨as, r1⟩ := q1.r; obtain ⟨bs, r2⟩ := q2.r
      have l2 := q2.lay
      simp only [pyV, PyData.canLay0] at r2 l2
      have hd : (pyV (3 + 1) x).depth ≤ 4 := depth_py (3 + 1) x
      refine in_tuple_reads r2 r1 l2 q1.lay (by lia) ⟨Keeps.refl _, ?_⟩
      have hk2 := hk.2
      simp only [okV, List.all_eq_true] at hk2
      rw [List.any_map]
      congr 1
      rw [Bool.eq_iff_iff]
      simp only [List.any_eq_true, Function.comp]
      constructor
      · rintro ⟨z, hz, e⟩; exact ⟨z, hz, by rw [← eqv_py 4 z x (hk2 z hz) hk.1]; exact e⟩
      · rintro ⟨z, hz, e⟩; exact ⟨z, hz, by rw [eqv_py 4 z x (hk2 z hz) hk.1]; exact e⟩
    | _ => exact no_e h
  | NotIn => exact no_e h
end
end Mine
end
section
set_option maxRecDepth 100000
set_option backward.match.sparseCases false
namespace Mine
open PySem PySem.W PyProof.Rows PySem.Calls PySem.SeqAt

noncomputable def biF : BI → Value
  | .len => .builtin "len" | .max2 => .builtin "max" | .min2 => .builtin "min" | .max1 => .builtin "max" | .min1 => .builtin "min"
  | .range1 => .type "range" | .range2 => .type "range" | .range3 => .type "range" | .sum => .builtin "sum" | .list => .type "list" | .tuple => .type "tuple"
  | .isBool => .builtin "isinstance"

noncomputable def Los (C : Addr) (ms : List Addr) (h : Heap) : List V → List Value → Prop
  | [], vs => vs = []
  | x :: xs, vs => ∃ v vs', vs = v :: vs' ∧ Lo C ms h x v ∧ Los C ms h xs vs'
theorem Los.keeps {C : Addr} {ms : List Addr} {h h' : Heap} (k : ∀ b o, h.get? b = some o → h'.get? b = some o) : ∀ {xs : List V} {vs : List Value}, Los C ms h xs vs → Los C ms h' xs vs
  | [], _, r => r
  | _ :: _, _, ⟨v, vs', e, a, b⟩ => ⟨v, vs', e, a.keeps k, Los.keeps k b⟩
theorem Los.one {C : Addr} {ms : List Addr} {h : Heap} {x : V} {vs : List Value} (r : Los C ms h [x] vs) : ∃ v, vs = [v] ∧ Lo C ms h x v := by
  obtain ⟨v, vs', rfl, a, rfl⟩ := r; exact ⟨v, rfl, a⟩
theorem Los.two {C : Addr} {ms : List Addr} {h : Heap} {x y : V} {vs : List Value} (r : Los C ms h [x, y] vs) : ∃ v u, vs = [v, u] ∧ Lo C ms h x v ∧ Lo C ms h y u := by
  obtain ⟨v, vs', rfl, a, u, vs'', rfl, b, rfl⟩ := r; exact ⟨v, u, rfl, a, b⟩
theorem Los.three {C : Addr} {ms : List Addr} {h : Heap} {x y z : V} {vs : List Value} (r : Los C ms h [x, y, z] vs) : ∃ v u t, vs = [v, u, t] ∧ Lo C ms h x v ∧ Lo C ms h y u ∧ Lo C ms h z t := by
  obtain ⟨v, vs', rfl, a, u, vs'', rfl, b, t, vs3, rfl, c, rfl⟩ := r; exact ⟨v, u, t, rfl, a, b, c⟩

theorem ints_of {C : Addr} {g : View} : ∀ {l : List V} {is : List Int} {vs : List Value}, toInts l = some is → Reps C g l vs → ∃ ps : List (Int × Tok), vs = ps.map (fun p => .int p.1 p.2) ∧ ps.map (·.1) = is
  | [], is, vs, e, h => by
    simp only [Reps_q1, Reps_q2] at h; simp only [toInts_q1, toInts_q2, Option.some.injEq] at e; subst h e; exact ⟨[], rfl, rfl⟩
  | x :: xs, is, vs, e, h => by
    cases x <;> first | exact no_e e | skip
    rw [toInts_q2] at e
    obtain ⟨r, e1, rfl⟩ := Option.map_eq_some_iff.mp e
    simp only [Reps_q1, Reps_q2, Rep_q1, Rep_q2, Rep_q3, Rep_q4, Rep_q5, Rep_q6, Rep_q7, Rep_q8, Rep_q9] at h
    obtain ⟨v, vs', rfl, ⟨t, rfl⟩, h⟩ := h
    obtain ⟨ps, rfl, rfl⟩ := ints_of e1 h
    exact ⟨(_, t) :: ps, rfl, rfl⟩
theorem strs_of {C : Addr} {g : View} : ∀ {l : List V} {is : List (List Nat)} {vs : List Value}, toStrs l = some is → Reps C g l vs → (∃ ps : List (Str × Tok), vs = strValues ps ∧ ps.map (·.1) = is.map fun x => ⟨x.toArray⟩) ∧ ∀ x ∈ is, ∀ c ∈ x, c < 128
  | [], is, vs, e, h => by
    simp only [Reps_q1, Reps_q2] at h; simp only [toStrs_q1, toStrs_q2, Option.some.injEq] at e; subst h e; exact ⟨⟨[], rfl, rfl⟩, by simp⟩
  | x :: xs, is, vs, e, h => by
    cases x <;> first | exact no_e e | skip
    rw [toStrs_q2] at e
    obtain ⟨r, e1, rfl⟩ := Option.map_eq_some_iff.mp e
    simp only [Reps_q1, Reps_q2, Rep_q1, Rep_q2, Rep_q3, Rep_q4, Rep_q5, Rep_q6, Rep_q7, Rep_q8, Rep_q9] at h
    obtain ⟨v, vs', rfl, ⟨hl, t, rfl⟩, h⟩ := h
    obtain ⟨⟨ps, rfl, e2⟩, h2⟩ := strs_of e1 h
    exact ⟨⟨(_, t) :: ps, rfl, by simp [e2]⟩, by
      intro x hx c hc
      rcases List.mem_cons.mp hx with rfl | hx
      · exact hl c hc
      · exact h2 x hx c hc⟩

theorem numAt_of (ps : List (Int × Tok)) (i : Nat) : numAt ps.toArray i = ((ps.map (·.1))[i]?).getD 0 := by simp [numAt]

theorem argBest_gt (f : Nat → Int) : ∀ k, argBest (fun i j => decide (f i > f j)) k ≤ k ∧ ∀ j, j ≤ k → f j ≤ f (argBest (fun i j => decide (f i > f j)) k)
  | 0 => ⟨Nat.le_refl _, fun j hj => by obtain rfl : j = 0 := by lia
                                        exact Int.le_refl _⟩
  | k + 1 => by
    obtain ⟨h1, h2⟩ := argBest_gt f k
    simp only [argBest]
    split
    · rename_i h
      simp only [decide_eq_true_eq] at h
      refine ⟨Nat.le_refl _, fun j hj => ?_⟩
      by_cases e : j = k + 1
      · subst e; exact Int.le_refl _
      · have := h2 j (by lia); omega
    · rename_i h
      simp only [decide_eq_true_eq] at h
      refine ⟨by grind, fun j hj => ?_⟩
      by_cases e : j = k + 1
      · subst e; omega
      · exact h2 j (by lia)
theorem argBest_lt (f : Nat → Int) : ∀ k, argBest (fun i j => decide (f i < f j)) k ≤ k ∧ ∀ j, j ≤ k → f (argBest (fun i j => decide (f i < f j)) k) ≤ f j
  | 0 => ⟨Nat.le_refl _, fun j hj => by obtain rfl : j = 0 := by lia
                                        exact Int.le_refl _⟩
  | k + 1 => by
    obtain ⟨h1, h2⟩ := argBest_lt f k
    simp only [argBest]
    split
    · rename_i h
      simp only [decide_eq_true_eq] at h
      refine ⟨Nat.le_refl _, fun j hj => ?_⟩
      by_cases e : j = k + 1
      · subst e; exact Int.le_refl _
      · have := h2 j (by omega); omega
    · rename_i h
      simp only [decide_eq_true_eq] at h
      refine ⟨by omega, fun j hj => ?_⟩
      by_cases e : j = k + 1
      · subst e; lia
      · exact h2 j (by omega)

theorem maxL_spec : ∀ (l : List Int), l ≠ [] → maxL l ∈ l ∧ ∀ x ∈ l, x ≤ maxL l
  | [a], _ => by simp [maxL]
  | a :: b :: r, _ => by
    obtain ⟨h1, h2⟩ := maxL_spec (b :: r) (by simp)
    rw [maxL]
    · refine ⟨?_, fun x hx => ?_⟩
      · rcases Int.le_total a (maxL (b :: r)) with h | h
        · rw [Int.max_eq_right h]; exact List.mem_cons_of_mem _ h1
        · rw [Int.max_eq_left h]; exact List.mem_cons_self
      · rcases List.mem_cons.mp hx with rfl | hx
        · exact Int.le_max_left _ _
        · exact Int.le_trans (h2 x hx) (Int.le_max_right _ _)
    · simp
theorem minL_spec : ∀ (l : List Int), l ≠ [] → minL l ∈ l ∧ ∀ x ∈ l, minL l ≤ x
  | [a], _ => by simp [minL]
  | a :: b :: r, _ => by
    obtain ⟨h1, h2⟩ := minL_spec (b :: r) (by simp)
    rw [minL]
    · refine ⟨?_, fun x hx => ?_⟩
      · rcases Int.le_total a (minL (b :: r)) with h | h
        · rw [Int.min_eq_left h]; exact List.mem_cons_self
        · rw [Int.min_eq_right h]; exact List.mem_cons_of_mem _ h1
      · rcases List.mem_cons.mp hx with rfl | hx
        · exact Int.min_le_left _ _
        · exact Int.le_trans (Int.min_le_right _ _) (h2 x hx)
    · simp

theorem preSum_take (is : List Int) : ∀ n, preSum (fun i => (is[i]?).getD 0) n = (is.take n).sum
  | 0 => by simp [preSum]
  | n + 1 => by
    rw [preSum, preSum_take is n, List.take_add_one, List.sum_append]
    congr 1
    cases is[n]? <;> simp
theorem sum_bound : ∀ (l : List Int) , (∀ x ∈ l, 0 ≤ x ∧ x < 1099511627776) → 0 ≤ l.sum ∧ l.sum ≤ l.length * 1099511627776
  | [], _ => by simp
  | x :: xs, h => by
    have h1 := h x (by simp)
    have h2 := sum_bound xs fun y hy => h y (by simp [hy])
    simp only [List.sum_cons, List.length_cons]
    push_cast
    grind

section
variable {prog : Program} {w : World} {A : Around} {C : Addr} {ms : List Addr} {s : Shared} {n : Nat}

theorem len_ok {x : V} {k : Nat} {v : Value} (hx : Lo C ms s.heap x v) (h : (∃ l, x = .str l ∧ l.length = k) ∨ (∃ l, x = .list l ∧ l.length = k) ∨ (∃ l, x = .tup l ∧ l.length = k)) (hk : k ≤ lim) :
    Evl prog w A C ms (call (.builtin "len") [v]) (.int k) s := by
  simp only [lim] at hk
  rcases h with ⟨l, rfl, rfl⟩ | ⟨l, rfl, rfl⟩ | ⟨l, rfl, rfl⟩
  · obtain ⟨_, t, rfl⟩ := hx.str
    refine P.len_str (by rw [str_len]; omega) ?_
    rw [str_len]; exact mk_int (Keeps.toks _ _)
  · obtain ⟨a, o, vs, n, rfl, h1, h2, h3, h4⟩ := hx.list
    have := h4.length
    refine Calls.call_len_list ⟨o, h1, h2, n, h3⟩ (by simp only [List.size_toArray]; omega) ?_
    simp only [List.size_toArray, this]; exact mk_int (Keeps.toks _ _)
  · have hx' : Rep C (hid ms s.heap) (.tup l) v := hx
    simp only [Rep_q1, Rep_q2, Rep_q3, Rep_q4, Rep_q5, Rep_q6, Rep_q7, Rep_q8, Rep_q9] at hx'
    obtain ⟨a, o, vs, n, rfl, h1, h2, h3, h4⟩ := hx'
    have := h4.length
    refine len_tuple ⟨o, hid_get h1, h2, n, h3⟩ (by simp only [List.size_toArray]; omega) ?_
    simp only [List.size_toArray, this]; exact mk_int (Keeps.toks _ _)

theorem items_ints (ps : List (Int × Tok)) : intItems ps.toArray = (ps.map fun p => Value.int p.1 p.2).toArray := by simp [intItems]

theorem max1_ok {l : List V} {is : List Int} {v : Value} (hh : A.handled = none) (hx : Lo C ms s.heap (.list l) v) (e : toInts l = some is) (hne : is ≠ []) (hl : is.length ≤ lim) :
    Evl prog w A C ms (call (.builtin "max") [v]) (.int (maxL is)) s := by
  obtain ⟨a, o, vs, m, rfl, h1, h2, h3, h4⟩ := hx.list
  obtain ⟨ps, rfl, rfl⟩ := ints_of e h4
  have hpos : 0 < ps.toArray.size := by
    cases ps with
    | nil => exact absurd rfl hne
    | cons p r => simp
  refine max_intList (xs := ps.toArray) hh ⟨o, h1, h2, m, by rw [h3, items_ints]⟩ hpos fun v h' tk hv hk => ?_
  refine ⟨Keeps.of hk, ?_⟩
  simp only [Rep_q1, Rep_q2, Rep_q3, Rep_q4, Rep_q5, Rep_q6, Rep_q7, Rep_q8, Rep_q9]
  rw [items_ints] at hv
  obtain ⟨b1, b2⟩ := argBest_gt (numAt ps.toArray) (ps.toArray.size - 1)
  generalize hj : argBest (fun i j => decide (numAt ps.toArray i > numAt ps.toArray j)) (ps.toArray.size - 1) = j at hv b1 b2
  simp only [List.getElem?_toArray, List.getElem?_map, Option.map_eq_some_iff] at hv
  obtain ⟨p, hp, rfl⟩ := hv
  refine ⟨p.2, ?_⟩
  congr 1
  have hn : numAt ps.toArray j = p.1 := by rw [numAt_of]; simp [hp]
  obtain ⟨m1, m2⟩ := maxL_spec _ hne
  refine Int.le_antisymm (m2 _ (List.mem_map.mpr ⟨p, List.mem_of_getElem? hp, rfl⟩)) ?_
  obtain ⟨i, hi⟩ := List.getElem?_of_mem m1
  have hil : i < ps.length := by
    have := (List.getElem?_eq_some_iff.mp hi).1; simpa using this
  have := b2 i (by simp only [List.size_toArray]; lia)
  rw [hn, numAt_of, hi] at this
  exact this

theorem min1_ok {l : List V} {is : List Int} {v : Value} (hh : A.handled = none) (hx : Lo C ms s.heap (.list l) v) (e : toInts l = some is) (hne : is ≠ []) (hl : is.length ≤ lim) :
    Evl prog w A C ms (call (.builtin "min") [v]) (.int (minL is)) s := by
  obtain ⟨a, o, vs, m, rfl, h1, h2, h3, h4⟩ := hx.list
  obtain ⟨ps, rfl, rfl⟩ := ints_of e h4
  have hpos : 0 < ps.toArray.size := by
    cases ps with
    | nil => exact absurd rfl hne
    | cons p r => simp
  refine min_intList (xs := ps.toArray) hh ⟨o, h1, h2, m, by rw [h3, items_ints]⟩ hpos fun v h' tk hv hk => ?_
  refine ⟨Keeps.of hk, ?_⟩
  simp only [Rep_q1, Rep_q2, Rep_q3, Rep_q4, Rep_q5, Rep_q6, Rep_q7, Rep_q8, Rep_q9]
  rw [items_ints] at hv
  obtain ⟨b1, b2⟩ := argBest_lt (numAt ps.toArray) (ps.toArray.size - 1)
  generalize hj : argBest (fun i j => decide (numAt ps.toArray i < numAt ps.toArray j)) (ps.toArray.size - 1) = j at hv b1 b2
  simp only [List.getElem?_toArray, List.getElem?_map, Option.map_eq_some_iff] at hv
  obtain ⟨p, hp, rfl⟩ := hv
  refine ⟨p.2, ?_⟩
  congr 1
  have hn : numAt ps.toArray j = p.1 := by rw [numAt_of]; simp [hp]
  obtain ⟨m1, m2⟩ := minL_spec _ hne
  refine Int.le_antisymm ?_ (m2 _ (List.mem_map.mpr ⟨p, List.mem_of_getElem? hp, rfl⟩))
  obtain ⟨i, hi⟩ := List.getElem?_of_mem m1
  have hil : i < ps.length := by
    have := (List.getElem?_eq_some_iff.mp hi).1; simpa using this
  have := b2 i (by simp only [List.size_toArray]; lia)
  rw [hn, numAt_of, hi] at this
  exact this

theorem sum_ok {l : List V} {is : List Int} {v : Value} (hh : A.handled = none) (hx : Lo C ms s.heap (.list l) v) (e : toInts l = some is) (hb : ∀ x ∈ is, 0 ≤ x ∧ x < 1099511627776) (hl : is.length ≤ lim) :
    Evl prog w A C ms (call (.builtin "sum") [v]) (.int is.sum) s := by
  obtain ⟨a, o, vs, m, rfl, h1, h2, h3, h4⟩ := hx.list
  obtain ⟨ps, rfl, rfl⟩ := ints_of e h4
  have hf : numAt ps.toArray = fun i => ((ps.map (·.1))[i]?).getD 0 := funext fun i => numAt_of ps i
  simp only [lim] at hl
  refine sum_intList (xs := ps.toArray) hh ⟨o, h1, h2, m, by rw [h3, items_ints]⟩ (fun j hj => ?_) fun h' tk t' hk => ?_
  · rw [hf, preSum_take]
    have hj' : j < ps.length := by simpa using hj
    have g : (ps.map (·.1))[j]? = some (ps[j]).1 := by simp [hj']
    have b1 := hb (ps[j]).1 (List.mem_of_getElem? g)
    have b2 := sum_bound ((ps.map (·.1)).take (j + 1)) fun x hx => hb x (List.mem_of_mem_take hx)
    have b3 : ((ps.map (·.1)).take (j + 1)).length ≤ 1048576 := by rw [List.length_take]; lia
    simp only [g, Option.getD_some, InLong]
    lia
  · have e2 : preSum (numAt ps.toArray) ps.toArray.size = (ps.map (·.1)).sum := by
      rw [hf, preSum_take, List.take_of_length_le (by simp)]
    rw [e2]; exact mk_int (Keeps.of hk)

theorem rangeL_length (a b c : Int) : (rangeL a b c).length = if a < b then ((b - a - 1) / c + 1).toNat else 0 := by simp [rangeL]
theorem rangeSize_eq {a b c : Int} (hc : 0 < c) : Builtin.Range.rangeSize a b c = ((rangeL a b c).length : Int) := by
  rw [rangeL_length]
  unfold Builtin.Range.rangeSize
  rw [if_pos hc]
  split
  · have := Int.ediv_nonneg (a := b - a - 1) (b := c) (by grind) (by lia)
    omega
  · rfl
theorem range_small {a b c : Int} (ha : small a = true) (hb : small b = true) (hc : 0 < c) (hc' : small c = true) (hl : (rangeL a b c).length ≤ lim) : Builtin.Range.small a b c = true := by
  have h1 := small_bounds ha
  have h2 := small_bounds hb
  have h3 := small_bounds hc'
  simp only [lim] at hl
  unfold Builtin.Range.small
  rw [rangeSize_eq hc]
  unfold Builtin.Range.rangeFitsLong
  simp only [Bool.and_eq_true, decide_eq_true_eq, Bool.or_eq_true, if_pos (show c > 0 from hc)]
  lia

theorem reps_ints {g : View} {f : Nat → Int} : ∀ {n : Nat} {vs : List Value}, vs.length = n → (∀ j v, vs[j]? = some v → ∃ t, v = Value.int (f j) t) → Reps C g (((List.range n).map f).map V.int) vs := by
  intro n
  induction n with
  | zero => intro vs h _; rw [List.length_eq_zero_iff] at h; subst h; simp [Reps_q1, Reps_q2]
  | succ n ih =>
    intro vs h hv
    rw [List.range_succ, List.map_append, List.map_append]
    have hd : vs = vs.take n ++ [vs[n]] := by
      rw [List.take_append_getElem]; rw [List.take_of_length_le (by omega)]
    rw [hd]
    refine Reps.append (ih (by rw [List.length_take]; grind) fun j v e => ?_) (Reps.cons ?_ Reps.nil)
    · rw [List.getElem?_take] at e
      split at e
      · exact hv j v e
      · cases e
    · simp only [Rep_q1, Rep_q2, Rep_q3, Rep_q4, Rep_q5, Rep_q6, Rep_q7, Rep_q8, Rep_q9]
      exact hv n _ (by simp)

theorem listRange_ok {a b c : Int} {v : Value} (hh : A.handled = none) (hx : Lo C ms s.heap (.range a b c) v) (ha : small a = true) (hb : small b = true) (hc : 0 < c) (hc' : small c = true) (hl : (rangeL a b c).length ≤ lim) :
    EvN prog w A C ms (call (.type "list") [v]) ((rangeL a b c).map .int) s := by
  have hx' : Rep C (hid ms s.heap) (.range a b c) v := hx
  simp only [Rep_q1, Rep_q2, Rep_q3, Rep_q4, Rep_q5, Rep_q6, Rep_q7, Rep_q8, Rep_q9] at hx'
  obtain ⟨r, t, u, w', rfl, h1⟩ := hx'
  refine call_list_range hh (hid_get h1) (range_small ha hb hc hc' hl) (rangeSize_eq hc) (Nat.le_trans hl (by decide)) fun h' tk acc' c' hk hS hI => ?_
  refine ⟨Keeps.of hk, _, acc'.toList, c', rfl, get_size _, by simpa using hS, ?_⟩
  unfold rangeL
  have e := rangeL_length a b c
  refine reps_ints (by rw [Array.length_toList, hI.1, e]) fun j v hv => ?_
  exact hI.2 j v (by simpa using hv)

end
end Mine
end
section
set_option maxRecDepth 100000
set_option backward.match.sparseCases false
namespace Mine
open PySem PySem.W PyProof.Rows PySem.Calls PySem.SeqAt
open Builtin Builtin.Str

section
variable {prog : Program} {w : World} {A : Around} {C : Addr} {ms : List Addr} {s : Shared} {n : Nat}

theorem bi_ok {f : BI} {xs : List V} {z : V} {vs : List Value} (hh : A.handled = none) (L : Live ms s.heap) (hf : f ≠ .isBool) (h : biV f xs = some z) (hx : Los C ms s.heap xs vs) :
    Evl prog w A C ms (call (biF f) vs) z s ∧ ∀ l, f = .list → z = .list l → EvN prog w A C ms (call (biF f) vs) l s := by
  cases f with
  | len =>
    obtain ⟨x, rfl, h⟩ := ar1_e h
    obtain ⟨v, rfl, r⟩ := hx.one
    have h : lenV x = some z := h
    cases x with
    | str l => exact if_e h fun hl h => by cases h; exact ⟨len_ok r (.inl ⟨l, rfl, rfl⟩) hl, fun _ e => by cases e⟩
    | list l => exact if_e h fun hl h => by cases h; exact ⟨len_ok r (.inr (.inl ⟨l, rfl, rfl⟩)) hl, fun _ e => by cases e⟩
    | tup l => exact if_e h fun hl h => by cases h; exact ⟨len_ok r (.inr (.inr ⟨l, rfl, rfl⟩)) hl, fun _ e => by cases e⟩
    | _ => exact no_e h
  | max2 =>
    obtain ⟨x, y, rfl, h⟩ := ar2_e h; obtain ⟨a, rfl, h⟩ := i1_e h; obtain ⟨b, rfl, h⟩ := i1_e h
    cases h; obtain ⟨v, u, rfl, r1, r2⟩ := hx.two
    obtain ⟨t, rfl⟩ := r1.int; obtain ⟨t', rfl⟩ := r2.int
    refine ⟨max_two_ints hh fun h' tk hk => ⟨Keeps.of hk, ?_⟩, fun _ e => by cases e⟩
    simp only [Rep_q1, Rep_q2, Rep_q3, Rep_q4, Rep_q5, Rep_q6, Rep_q7, Rep_q8, Rep_q9]
    split
    · rename_i q; exact ⟨t', by rw [Int.max_eq_right (Int.le_of_lt q)]⟩
    · rename_i q; exact ⟨t, by rw [Int.max_eq_left (by lia)]⟩
  | min2 =>
    obtain ⟨x, y, rfl, h⟩ := ar2_e h; obtain ⟨a, rfl, h⟩ := i1_e h; obtain ⟨b, rfl, h⟩ := i1_e h
    cases h; obtain ⟨v, u, rfl, r1, r2⟩ := hx.two
    obtain ⟨t, rfl⟩ := r1.int; obtain ⟨t', rfl⟩ := r2.int
    refine ⟨min_two_ints hh fun h' tk hk => ⟨Keeps.of hk, ?_⟩, fun _ e => by cases e⟩
    simp only [Rep_q1, Rep_q2, Rep_q3, Rep_q4, Rep_q5, Rep_q6, Rep_q7, Rep_q8, Rep_q9]
    split
    · rename_i q; exact ⟨t', by rw [Int.min_eq_right (Int.le_of_lt q)]⟩
    · rename_i q; exact ⟨t, by rw [Int.min_eq_left (by lia)]⟩
  | max1 =>
    obtain ⟨x, rfl, h⟩ := ar1_e h; obtain ⟨l, rfl, h⟩ := l1_e h
    obtain ⟨is, e, h⟩ := Option.bind_eq_some_iff.mp h
    refine ifn_e h fun q h => ?_
    cases h
    obtain ⟨v, rfl, r⟩ := hx.one
    exact ⟨max1_ok hh r e (fun c => q (.inl c)) (by grind), fun _ e => by cases e⟩
  | min1 =>
    obtain ⟨x, rfl, h⟩ := ar1_e h; obtain ⟨l, rfl, h⟩ := l1_e h
    obtain ⟨is, e, h⟩ := Option.bind_eq_some_iff.mp h
    refine ifn_e h fun q h => ?_
    cases h
    obtain ⟨v, rfl, r⟩ := hx.one
    exact ⟨min1_ok hh r e (fun c => q (.inl c)) (by lia), fun _ e => by cases e⟩
  | range1 =>
    obtain ⟨x, rfl, h⟩ := ar1_e h; obtain ⟨b, rfl, h⟩ := i1_e h
    cases h; obtain ⟨v, rfl, r⟩ := hx.one; obtain ⟨t, rfl⟩ := r.int
    refine ⟨call_range_1 ⟨Keeps.of fun _ _ e => Heap.get?_push_of_some _ e, ?_⟩, fun _ e => by cases e⟩
    simp only [Rep_q1, Rep_q2, Rep_q3, Rep_q4, Rep_q5, Rep_q6, Rep_q7, Rep_q8, Rep_q9]; exact ⟨_, _, _, _, rfl, hid_push L _ rfl⟩
  | range2 =>
    obtain ⟨x, y, rfl, h⟩ := ar2_e h; obtain ⟨a, rfl, h⟩ := i1_e h; obtain ⟨b, rfl, h⟩ := i1_e h
    cases h; obtain ⟨v, u, rfl, r1, r2⟩ := hx.two
    obtain ⟨t, rfl⟩ := r1.int; obtain ⟨t', rfl⟩ := r2.int
    refine ⟨call_range_2 ⟨Keeps.of fun _ _ e => Heap.get?_push_of_some _ e, ?_⟩, fun _ e => by cases e⟩
    simp only [Rep_q1, Rep_q2, Rep_q3, Rep_q4, Rep_q5, Rep_q6, Rep_q7, Rep_q8, Rep_q9]; exact ⟨_, _, _, _, rfl, hid_push L _ rfl⟩
  | range3 =>
    obtain ⟨x, y, w', rfl, h⟩ := ar3_e h; obtain ⟨a, rfl, h⟩ := i1_e h; obtain ⟨b, rfl, h⟩ := i1_e h; obtain ⟨c, rfl, h⟩ := i1_e h
    refine if_e h fun q h => ?_
    cases h; obtain ⟨v, u, x, rfl, r1, r2, r3⟩ := hx.three
    obtain ⟨t, rfl⟩ := r1.int; obtain ⟨t', rfl⟩ := r2.int; obtain ⟨t'', rfl⟩ := r3.int
    have := small_bounds q.2
    refine ⟨call_range_3 (by lia) ⟨Keeps.of fun _ _ e => Heap.get?_push_of_some _ e, ?_⟩ ?_, fun _ e => by cases e⟩
    · simp only [Rep_q1, Rep_q2, Rep_q3, Rep_q4, Rep_q5, Rep_q6, Rep_q7, Rep_q8, Rep_q9]; exact ⟨_, _, _, _, rfl, hid_push L _ rfl⟩
    · refine .inl ?_
      unfold Builtin.divisionGoesByPylong
      simp only [Bool.and_eq_false_iff, decide_eq_false_iff_not]
      refine .inl ?_
      split
      · omega
      · rename_i c hc _ _
        have hlog : (‹Int› : Int).natAbs.log2 < 41 := by
          refine (Nat.log2_lt (by grind)).mpr ?_
          lia
        lia
  | sum =>
    obtain ⟨x, rfl, h⟩ := ar1_e h; obtain ⟨l, rfl, h⟩ := l1_e h
    obtain ⟨is, e, h⟩ := Option.bind_eq_some_iff.mp h
    refine if_e h fun q h => ?_
    cases h
    obtain ⟨v, rfl, r⟩ := hx.one
    refine ⟨sum_ok hh r e (fun x hx => ?_) q.2, fun _ e => by cases e⟩
    have := List.all_eq_true.mp q.1 x hx
    simp only [Bool.and_eq_true, decide_eq_true_eq] at this
    have h2 := small_bounds this.2
    lia
  | list =>
    obtain ⟨x, rfl, h⟩ := ar1_e h; obtain ⟨a, b, c, rfl, h⟩ := g1_e h
    obtain ⟨it, hi, rfl⟩ := Option.map_eq_some_iff.mp h
    refine if_e (show (if small a ∧ small b ∧ 0 < c ∧ small c ∧ (rangeL a b c).length ≤ lim then some ((rangeL a b c).map V.int) else none) = some it from hi) fun q hi => ?_
    cases hi
    obtain ⟨v, rfl, r⟩ := hx.one
    have := listRange_ok (prog := prog) (w := w) (A := A) hh r q.1 q.2.1 q.2.2.1 q.2.2.2.1 q.2.2.2.2
    exact ⟨this.ev L, fun l _ e => by cases e; exact this⟩
  | tuple =>
    obtain ⟨x, rfl, h⟩ := ar1_e h; obtain ⟨l, rfl, h⟩ := l1_e h
    refine if_e h fun q h => ?_
    cases h; obtain ⟨v, rfl, r⟩ := hx.one
    obtain ⟨a, o, vs, m, rfl, h1, h2, h3, h4⟩ := r.list
    have hlen := h4.length
    refine ⟨call_tuple_list ⟨o, h1, h2, m, h3⟩ (fun h' hk => ⟨Keeps.of fun _ _ e => Heap.get?_push_of_some _ (hk _ _ e), ?_⟩) (by rw [List.size_toArray, hlen]; exact Nat.le_trans q (by decide)), fun _ e => by cases e⟩
    simp only [Rep_q1, Rep_q2, Rep_q3, Rep_q4, Rep_q5, Rep_q6, Rep_q7, Rep_q8, Rep_q9]
    exact ⟨_, _, vs, 0, rfl, hid_push (L.keeps hk) _ rfl, rfl, rfl, Reps.mono (hid_mono fun _ _ e => Heap.get?_push_of_some _ (hk _ _ e)) _ _ h4⟩
  | isBool => exact absurd rfl hf

theorem isBool_ok {x z : V} {v : Value} (h : biV .isBool [x] = some z) (hx : Lo C ms s.heap x v) : Evl prog w A C ms (call (.builtin "isinstance") [v, .type "bool"]) z s := by
  obtain ⟨a, rfl, h⟩ := i1_e (show i1 x (fun _ => some (.bool false)) = some z from h)
  cases h
  obtain ⟨t, rfl⟩ := hx.int
  exact IsiPair.int_bool (mk_bool (Keeps.toks _ _))

noncomputable def smF : SM → Value
  | .join => .builtin "str.join" | .split => .builtin "str.split" | .lower => .builtin "str.lower" | .count => .builtin "str.count"
noncomputable def smN : SM → Str
  | .join => Str.ofString "join" | .split => Str.ofString "split" | .lower => Str.ofString "lower" | .count => Str.ofString "count"

theorem lower_of : ∀ c : Fin 128, isLow c = true → Unicode.lowerOf c = [c.val] := by decide +kernel

theorem glued_list (sep : List Nat) : ∀ (r : List (List Nat)) (acc : List Nat),
    (r.map fun x => (⟨x.toArray⟩ : Str)).foldl (fun (a : Array Nat) p => a ++ sep.toArray ++ p.cps) acc.toArray = (acc ++ (r.flatMap fun x => sep ++ x)).toArray
  | [], acc => by simp
  | x :: r, acc => by
    rw [List.map_cons, List.foldl_cons]
    have : acc.toArray ++ sep.toArray ++ x.toArray = (acc ++ sep ++ x).toArray := by simp
    rw [this, glued_list sep r]
    simp
theorem joinL_flat (sep : List Nat) : ∀ (r : List (List Nat)) (x : List Nat), joinL sep (x :: r) = x ++ r.flatMap fun y => sep ++ y
  | [], x => by simp [joinL]
  | y :: r, x => by
    rw [joinL, joinL_flat sep r y]
    · simp
    · simp
theorem txt_join (sep : List Nat) (ls : List (List Nat)) : Txt.join ⟨sep.toArray⟩ (ls.map fun x => ⟨x.toArray⟩) = ⟨(joinL sep ls).toArray⟩ := by
  unfold Txt.join glued
  cases ls with
  | nil => rfl
  | cons x r =>
    rw [joinL_flat]
    show (⟨_⟩ : Str) = _
    congr 1
    exact glued_list sep r x
theorem mem_joinL {sep : List Nat} {c : Nat} : ∀ {ls : List (List Nat)}, c ∈ joinL sep ls → c ∈ sep ∨ ∃ x ∈ ls, c ∈ x
  | [], h => by simp [joinL] at h
  | x :: r, h => by
    rw [joinL_flat, List.mem_append, List.mem_flatMap] at h
    rcases h with h | ⟨y, hy, h⟩
    · exact .inr ⟨x, by simp, h⟩
    · rcases List.mem_append.mp h with h | h
      · exact .inl h
      · exact .inr ⟨y, by simp [hy], h⟩

theorem split_mem (x y : Str) (c : Nat) : ∀ t ∈ Txt.split x y, c ∈ t.cps.toList → c ∈ x.cps.toList := by
  intro t ht hc
  have := StrLaws.join_split x y
  rw [← this]
  exact (mem_join y c (Txt.split x y)).mpr (.inl ⟨t, ht, hc⟩)

theorem strs_rep {g : View} : ∀ {ps : List (Str × Tok)}, (∀ p ∈ ps, ∀ c ∈ p.1.cps.toList, c < 128) → Reps C g ((ps.map fun p => p.1.cps.toList).map V.str) (strValues ps)
  | [], _ => by simp [Reps_q1, Reps_q2, strValues]
  | p :: ps, h => by
    simp only [List.map_cons, strValues]
    refine Reps.cons ?_ (strs_rep fun q hq => h q (by simp [hq]))
    simp only [Rep_q1, Rep_q2, Rep_q3, Rep_q4, Rep_q5, Rep_q6, Rep_q7, Rep_q8, Rep_q9]
    exact ⟨h p (by simp), p.2, by simp⟩

theorem mkL_ok {ps : List (Str × Tok)} {tk : Nat} (L : Live ms s.heap) (h : ∀ p ∈ ps, ∀ c ∈ p.1.cps.toList, c < 128) :
    Keeps s { s with heap := s.heap.push { cls := .type "list", data := .seq (strValues ps).toArray }, toks := tk } ∧
    Rep C (hid ms (s.heap.push { cls := .type "list", data := .seq (strValues ps).toArray })) (.list ((ps.map fun p => p.1.cps.toList).map V.str)) (.ref s.heap.objs.size) := by
  refine ⟨Keeps.of fun _ _ e => Heap.get?_push_of_some _ e, ?_⟩
  simp only [Rep_q1, Rep_q2, Rep_q3, Rep_q4, Rep_q5, Rep_q6, Rep_q7, Rep_q8, Rep_q9]
  exact ⟨_, _, strValues ps, 0, rfl, hid_push L _ rfl, rfl, rfl, strs_rep h⟩

theorem numbered_mem : ∀ {tk : Nat} {xs : List Str} {p : Str × Tok}, p ∈ numbered tk xs → p.1 ∈ xs
  | tk, [], p, h => by simp [numbered] at h
  | tk, x :: r, p, h => by
    rw [numbered, List.mem_cons] at h
    rcases h with rfl | h
    · simp
    · simp [numbered_mem h]

theorem split_ok {l : List Nat} {c : Nat} {t u : Tok} (L : Live ms s.heap) (hl : ∀ a ∈ l, a < 128) (h1 : l.length ≤ lim) (h2 : (splitV l [c]).length ≤ lim) :
    Evl prog w A C ms (call (.builtin "str.split") [.str ⟨l.toArray⟩ t, .str ⟨#[c]⟩ u]) (.list ((splitV l [c]).map .str)) s := by
  have hm : ∀ p ∈ Txt.split ⟨l.toArray⟩ ⟨#[c]⟩, ∀ a ∈ p.cps.toList, a < 128 := fun p hp a ha => hl a (by simpa using split_mem _ _ a p hp ha)
  unfold splitV at h2 ⊢
  rw [List.map_map]
  have fin : ∀ (ps : List (Str × Tok)) (tk : Nat), ps.map (·.1) = Txt.split ⟨l.toArray⟩ ⟨#[c]⟩ →
      Keeps s { s with heap := s.heap.push { cls := .type "list", data := .seq (strValues ps).toArray }, toks := tk } ∧
      Rep C (hid ms (s.heap.push { cls := .type "list", data := .seq (strValues ps).toArray })) (.list ((Txt.split ⟨l.toArray⟩ ⟨[c].toArray⟩).map (V.str ∘ fun x => x.cps.toList))) (.ref s.heap.objs.size) := fun ps tk e => by
    have q := mkL_ok (s := s) (C := C) (tk := tk) L (ps := ps) fun p hp => hm p.1 (by rw [← e]; exact List.mem_map_of_mem hp)
    refine ⟨q.1, ?_⟩
    have e2 : (Txt.split ⟨l.toArray⟩ ⟨[c].toArray⟩).map (V.str ∘ fun x => x.cps.toList) = (ps.map fun p => p.1.cps.toList).map V.str := by
      show (Txt.split ⟨l.toArray⟩ ⟨#[c]⟩).map _ = _
      rw [← e]; simp
    rw [e2]; exact q.2
  have h1' : (⟨l.toArray⟩ : Str).length ≤ sizeLine := by rw [str_len]; exact Nat.le_trans h1 (by decide)
  cases hk : (decide ((⟨l.toArray⟩ : Str).length < (⟨#[c]⟩ : Str).length) || decide (strKind ⟨l.toArray⟩ < strKind ⟨#[c]⟩))
  · cases hf : (occurrences ⟨l.toArray⟩ ⟨#[c]⟩ 0 (⟨l.toArray⟩ : Str).length ((⟨l.toArray⟩ : Str).length + 1)).isEmpty
    · have e3 : Txt.split ⟨l.toArray⟩ ⟨#[c]⟩ = partsBetween ⟨l.toArray⟩ (occurrences ⟨l.toArray⟩ ⟨#[c]⟩ 0 (⟨l.toArray⟩ : Str).length ((⟨l.toArray⟩ : Str).length + 1)) (⟨#[c]⟩ : Str).length :=
        (if_neg (ne_true_of_eq_false hk)).trans (if_neg (ne_true_of_eq_false hf))
      have h2' : (partsBetween ⟨l.toArray⟩ (occurrences ⟨l.toArray⟩ ⟨#[c]⟩ 0 (⟨l.toArray⟩ : Str).length ((⟨l.toArray⟩ : Str).length + 1)) (⟨#[c]⟩ : Str).length).length ≤ sizeLine := by
        rw [← e3]; rw [List.length_map] at h2; exact Nat.le_trans h2 (by decide)
      refine call_meets PySem.F.slot_str_split (typeIs_str _ _ _) PySem.F.entry_str_split (PySem.F.args_str_split_2 _ _) (meets_str_split_sep _ _ t u hk rfl hf h1' h2') ?_
      show wants _ _ _ { s with toks := _, heap := s.heap.push { cls := .type "list", data := .seq (strsFrom s.toks _).toArray } }
      rw [strsFrom_eq]
      exact fin _ _ ((numbered_texts _ _).trans e3.symm)
    · have e3 : Txt.split ⟨l.toArray⟩ ⟨#[c]⟩ = [⟨l.toArray⟩] := (if_neg (ne_true_of_eq_false hk)).trans (if_pos hf)
      exact call_meets PySem.F.slot_str_split (typeIs_str _ _ _) PySem.F.entry_str_split (PySem.F.args_str_split_2 _ _) (meets_str_split_not_found _ _ t u hk rfl hf) (fin [(_, t)] s.toks e3.symm)
  · have e3 : Txt.split ⟨l.toArray⟩ ⟨#[c]⟩ = [⟨l.toArray⟩] := if_pos hk
    exact call_meets PySem.F.slot_str_split (typeIs_str _ _ _) PySem.F.entry_str_split (PySem.F.args_str_split_2 _ _) (meets_str_split_cannot_occur _ _ t u hk) (fin [(_, t)] s.toks e3.symm)

end
end Mine
end
section
set_option maxRecDepth 100000
set_option backward.match.sparseCases false
namespace Mine
open PySem PySem.W PyProof.Rows PySem.Calls PySem.SeqAt
open Builtin Builtin.Str

section
variable {prog : Program} {w : World} {A : Around} {C : Addr} {ms : List Addr} {s : Shared} {n : Nat}

theorem joinTotal_le (sep : List Nat) (ls : List (List Nat)) : (ls.map fun x => (⟨x.toArray⟩ : Str)).toArray.foldl (fun a p => a + p.length + (⟨sep.toArray⟩ : Str).length) 0 = (ls.map (·.length + sep.length)).sum := by
  rw [List.foldl_toArray]
  have : ∀ (ls : List (List Nat)) (a : Nat), (ls.map fun x => (⟨x.toArray⟩ : Str)).foldl (fun a p => a + p.length + (⟨sep.toArray⟩ : Str).length) a = a + (ls.map (·.length + sep.length)).sum := by
    intro ls
    induction ls with
    | nil => intro a; simp
    | cons x r ih =>
      intro a
      rw [List.map_cons, List.foldl_cons, ih, str_len, str_len, List.map_cons, List.sum_cons]
      lia
  rw [this]; grind

theorem smV_ok {m : SM} {x : V} {xs : List V} {z : V} {v : Value} {vs : List Value} (L : Live ms s.heap) (h : smV m x xs = some z) (hx : Lo C ms s.heap x v) (hs : Los C ms s.heap xs vs) :
    Evl prog w A C ms (call (smF m) (v :: vs)) z s := by
  cases m with
  | join =>
    obtain ⟨sep, rfl, h⟩ := s1_e h; obtain ⟨y, rfl, h⟩ := ar1_e h; obtain ⟨l, rfl, h⟩ := l1_e h
    obtain ⟨ls, e, h⟩ := Option.bind_eq_some_iff.mp h
    refine if_e h fun q h => ?_
    cases h
    obtain ⟨hsep, t, rfl⟩ := hx.str
    obtain ⟨u, rfl, r⟩ := hs.one
    obtain ⟨a, o, ws, k, rfl, h1, h2, h3, h4⟩ := r.list
    obtain ⟨⟨ps, rfl, e2⟩, h5⟩ := strs_of e h4
    refine SC.join ⟨o, h1, h2, k, h3⟩ e2 ?_ fun t' k' => mk_str (Keeps.toks _ _) (txt_join _ _) fun c hc => ?_
    · unfold JoinOk tooLong
      rw [joinTotal_le, sizeLine_eq]
      simp only [lim] at q
      simp; lia
    · rcases mem_joinL hc with hc | ⟨y, hy, hc⟩
      · exact hsep c hc
      · exact h5 y hy c hc
  | split =>
    obtain ⟨l, rfl, h⟩ := s1_e h; obtain ⟨y, rfl, h⟩ := ar1_e h; obtain ⟨t0, rfl, h⟩ := s1_e h; obtain ⟨c, rfl, h⟩ := ar1_e h
    refine if_e h fun q h => ?_
    cases h
    obtain ⟨hl, t, rfl⟩ := hx.str
    obtain ⟨u, rfl, r⟩ := hs.one
    obtain ⟨_, t', rfl⟩ := r.str
    exact split_ok L hl q.1 q.2
  | lower =>
    obtain ⟨l, rfl, h⟩ := s1_e h; obtain ⟨rfl, h⟩ := ar0_e h; obtain ⟨c, rfl, h⟩ := ar1_e h
    refine if_e h fun q h => ?_
    cases h
    obtain ⟨hl, t, rfl⟩ := hx.str
    obtain rfl : vs = [] := hs
    have hc := hl c (by simp)
    have e : Txt.lower ⟨[c].toArray⟩ = ⟨[c].toArray⟩ := by
      have e1 := lower_of ⟨c, hc⟩ q
      have e2 : (c == 0x3A3) = false := by simp; lia
      have e3 : ∀ f, placed ⟨[c].toArray⟩ f = (f 0 c).toArray := fun f => by simp [placed]
      unfold Txt.lower
      rw [e3]
      congr 1
      unfold Unicode.lowerAt
      simp only [List.getElem?_toArray, List.getElem?_cons_zero, e2, Bool.false_and, Bool.false_eq_true, if_false, e1]
    have hf : tooLong (Txt.lower ⟨[c].toArray⟩).length = false := by
      rw [e, str_len]; unfold tooLong; rw [sizeLine_eq]; simp
    refine SC.lower hf ?_
    rw [e]
    exact mk_str (Keeps.toks _ _) rfl hl
  | count =>
    obtain ⟨l, rfl, h⟩ := s1_e h; obtain ⟨y, rfl, h⟩ := ar1_e h; obtain ⟨t0, rfl, h⟩ := s1_e h; obtain ⟨c, rfl, h⟩ := ar1_e h
    cases h
    obtain ⟨hl, t, rfl⟩ := hx.str
    obtain ⟨u, rfl, r⟩ := hs.one
    obtain ⟨_, t', rfl⟩ := r.str
    exact SC.count (mk_int (Keeps.toks _ _))

theorem idx_seq {k : Int} {n j : Nat} (h : idx k n = some j) : seqIndex? k n = some j ∧ j < n := by
  unfold idx at h
  unfold seqIndex?
  split at h
  · split at h
    · cases h
      have c1 : ¬ k < 0 := by grind
      simp only [c1, if_false, Bool.and_eq_true, decide_eq_true_eq]
      rw [if_pos (by omega)]
      exact ⟨rfl, by lia⟩
    · cases h
  · split at h
    · cases h
      have c1 : k < 0 := by lia
      simp only [c1, if_true, Bool.and_eq_true, decide_eq_true_eq]
      rw [if_pos (by lia)]
      exact ⟨rfl, by lia⟩
    · cases h

theorem itemV_ok {x y z : V} {v u : Value} (h : itemV x y = some z) (hx : Lo C ms s.heap x v) (hy : Lo C ms s.heap y u) : Evl prog w A C ms (getItem v u) z s := by
  cases x with
  | list l =>
    obtain ⟨k, rfl, h⟩ := i1_e h
    refine if_e h fun q h => ?_
    obtain ⟨t, rfl⟩ := hy.int
    obtain ⟨a, o, ws, j, rfl, h1, h2, h3, h4⟩ := hx.list
    have hb := small_bounds q.2
    obtain ⟨v, hv, r⟩ := h4.get h
    exact wpAny_getItem_list ⟨o, h1, h2, j, h3⟩ q.1 (by grind) (by simpa using hv) ⟨Keeps.refl _, r⟩
  | tup l =>
    obtain ⟨k, rfl, h⟩ := i1_e h
    refine if_e h fun q h => ?_
    obtain ⟨t, rfl⟩ := hy.int
    have hx' : Rep C (hid ms s.heap) (.tup l) v := hx
    simp only [Rep_q1, Rep_q2, Rep_q3, Rep_q4, Rep_q5, Rep_q6, Rep_q7, Rep_q8, Rep_q9] at hx'
    obtain ⟨a, o, ws, j, rfl, h1, h2, h3, h4⟩ := hx'
    have hb := small_bounds q.2
    obtain ⟨v, hv, r⟩ := h4.get h
    have hlt : k.toNat < ws.length := (List.getElem?_eq_some_iff.mp hv).1
    refine getItem_tuple ⟨o, hid_get h1, h2, j, h3⟩ (by lia) (by lia) (j := k.toNat) ?_ (by simpa using hv) ⟨Keeps.refl _, r⟩
    unfold seqIndex?
    have c1 : ¬ k < 0 := by lia
    simp only [c1, if_false, Bool.and_eq_true, decide_eq_true_eq, List.size_toArray]
    rw [if_pos (by grind)]
  | str l =>
    obtain ⟨k, rfl, h⟩ := i1_e h
    refine if_e h fun q h => ?_
    obtain ⟨j, hj, h⟩ := Option.bind_eq_some_iff.mp h
    obtain ⟨c, hc, rfl⟩ := Option.map_eq_some_iff.mp h
    obtain ⟨t', rfl⟩ := hy.int
    obtain ⟨hl, t, rfl⟩ := hx.str
    have hb := small_bounds q
    obtain ⟨e1, e2⟩ := idx_seq hj
    refine P.getItem_str (c := c) (by simp; lia) ?_ (mk_str (Keeps.toks _ _) rfl fun c' hc' => ?_)
    · rw [str_len, e1]; simpa using hc
    · simp at hc'; subst hc'; exact hl _ (List.mem_of_getElem? hc)
  | _ => exact no_e h

theorem slicePick_list (vs : List Value) (lo hi st : Option Int) : slicePick vs.toArray lo hi st = (pick vs lo hi st).toArray := by
  unfold slicePick pick
  simp only [List.size_toArray, List.getElem?_toArray]
theorem pick_reps {g : View} {l : List V} {vs : List Value} (h : Reps C g l vs) (lo hi st : Option Int) : Reps C g (pick l lo hi st) (pick vs lo hi st) := by
  unfold pick
  rw [h.length]
  exact h.filterMap _
theorem pick_mem {α : Type} {l : List α} {lo hi st : Option Int} {c : α} (h : c ∈ pick l lo hi st) : c ∈ l := by
  unfold pick at h
  obtain ⟨i, _, e⟩ := List.mem_filterMap.mp h
  exact List.mem_of_getElem? e

theorem part_ok {x : V} {p : Option Int} {v : Value} {h : Heap} (e : partV x = some p) (hx : Lo C ms h x v) : IsPart v p ∧ ∃ q : Option (Int × Tok), v = partValue q ∧ q.map (·.1) = p := by
  unfold partV at e
  split at e
  · cases e
    have hx' : Rep C (hid ms h) .none v := hx
    simp only [Rep_q1, Rep_q2, Rep_q3, Rep_q4, Rep_q5, Rep_q6, Rep_q7, Rep_q8, Rep_q9] at hx'; subst hx'
    exact ⟨.none, none, rfl, rfl⟩
  · cases e
    obtain ⟨t, rfl⟩ := hx.int
    exact ⟨.int _ _, some (_, t), rfl, rfl⟩
  · cases e

theorem pick_full {α : Type} {l : List α} {lo hi : Option Int} (h : (sliceRange (sliceBounds lo hi none l.length).1 (sliceBounds lo hi none l.length).2.1 (sliceBounds lo hi none l.length).2.2).length = l.length) : pick l lo hi none = l := by
  unfold pick
  rw [sliceBounds_plain] at h ⊢
  dsimp only at h ⊢
  rw [sliceRange_one] at h ⊢
  rw [List.length_map, List.length_range] at h
  have h1 : hi.elim l.length (clipAt l.length) ≤ l.length := by
    cases hi with
    | none => exact Nat.le_refl _
    | some j => simp only [Option.elim]; unfold clipAt; lia
  have e1 : lo.elim 0 (clipAt l.length) = 0 ∨ l.length = 0 := by lia
  have pr := pick_run l.toArray (lo.elim 0 (clipAt l.length)) (hi.elim l.length (clipAt l.length) - lo.elim 0 (clipAt l.length))
  simp only [List.getElem?_toArray] at pr
  rw [pr, h]
  rcases e1 with e1 | e1
  · rw [e1]; simp
  · rw [List.length_eq_zero_iff] at e1; subst e1; simp

theorem str_slice_ok {l : List Nat} {lo hi : Option Int} {v1 v2 : Value} {t : Tok} {sa : Addr} (hl : ∀ c ∈ l, c < 128) (hn : l.length ≤ lim)
    (hs : s.heap.IsSliceOf sa v1 v2 .none) (p1 : ∃ q : Option (Int × Tok), v1 = partValue q ∧ q.map (·.1) = lo) (p2 : ∃ q : Option (Int × Tok), v2 = partValue q ∧ q.map (·.1) = hi) :
    Evl prog w A C ms (getItem (.str ⟨l.toArray⟩ t) (.ref sa)) (.str (pick l lo hi none)) s := by
  obtain ⟨q1, rfl, rfl⟩ := p1
  obtain ⟨q2, rfl, rfl⟩ := p2
  have hs' : s.heap.IsSlice sa q1 q2 none := hs
  refine wpAny_getItem_str_slice hs' rfl ?_
  unfold sliceMade
  have e : slicePicked ⟨l.toArray⟩ q1 q2 none = sliceRange (sliceBounds (q1.map (·.1)) (q2.map (·.1)) none l.length).1 (sliceBounds (q1.map (·.1)) (q2.map (·.1)) none l.length).2.1 (sliceBounds (q1.map (·.1)) (q2.map (·.1)) none l.length).2.2 := by
    unfold slicePicked; rw [str_len]; rfl
  rw [e, str_len]
  split
  · rename_i q
    have q2 : (sliceRange (sliceBounds (q1.map (·.1)) (q2.map (·.1)) none l.length).1 (sliceBounds (q1.map (·.1)) (q2.map (·.1)) none l.length).2.1 (sliceBounds (q1.map (·.1)) (q2.map (·.1)) none l.length).2.2).length = l.length := by
      simpa using q
    rw [pick_full q2]
    exact mk_str (Keeps.refl _) rfl hl
  · refine ⟨?_, mk_str (Keeps.toks _ _) ?_ fun c hc => hl c (pick_mem hc)⟩
    · rw [str_len]
      refine Nat.le_trans (List.length_filterMap_le _ _) ?_
      rw [sliceBounds_plain, sliceRange_one]
      simp only [List.length_map, List.length_range]
      have h1 : (q2.map (·.1)).elim l.length (clipAt l.length) ≤ l.length := by
        cases q2 with
        | none => exact Nat.le_refl _
        | some j => simp only [Option.map_some, Option.elim]; unfold clipAt; lia
      have : lim ≤ sizeLine := by decide
      grind
    · unfold pick; simp only [List.getElem?_toArray]

end
end Mine
end
section
set_option maxRecDepth 100000
set_option backward.match.sparseCases false
namespace Mine
open PySem PySem.W PyProof.Rows PySem.Calls PySem.SeqAt

section
variable {prog : Program} {w : World} {A : Around} {C : Addr} {ms : List Addr} {s : Shared} {n : Nat}

theorem Reps.back {g : View} : ∀ {l : List V} {vs : List Value} {i : Nat} {v : Value}, Reps C g l vs → vs[i]? = some v → ∃ x, l[i]? = some x ∧ Rep C g x v
  | [], vs, _, _, h, e => by simp only [Reps_q1, Reps_q2] at h; subst h; simp at e
  | y :: ys, vs, i, v, h, e => by
    simp only [Reps_q1, Reps_q2] at h
    obtain ⟨u, vs', rfl, hv, h⟩ := h
    cases i with
    | zero => simp at e; subst e; exact ⟨y, rfl, hv⟩
    | succ i => simp at e ⊢; exact Reps.back h e

noncomputable def NoOwn (h : Heap) (I : Addr) : Prop := ∃ o T, h.get? I = some o ∧ o.cls = .type T ∧ ["enumerate", "zip", "dict_itemiterator", "dict_reverseitemiterator", "odict_iterator", "itertools.zip_longest", "itertools.pairwise"].contains T = false

structure Iter (prog : Program) (w : World) (A : Around) (C : Addr) (ms : List Addr) (s : Shared) (fl : Prop) (xs : List V) (it : Value) (s₂ : Shared) : Prop where
  ex : ∃ I fp P St, it = .ref I ∧ Walks prog w A I fp [I] xs.length P St ∧ St 0 s₂.heap ∧ s.heap.get? I = none ∧ (∃ o, s₂.heap.get? I = some o) ∧ (∀ b ∈ fp, b ≠ I → ∃ o, s.heap.get? b = some o) ∧
    (∀ i v, i < xs.length → P i v → ∃ x, xs[i]? = some x ∧ Rep C (hid ms s.heap) x v) ∧
    (∀ i h, St i h → NoOwn h I) ∧ (fl → ∀ b ∈ fp, b ≠ I → b ∉ ms)
  k : Keeps s s₂

theorem iter_ok {x : V} {xs : List V} {v : Value} (hh : A.handled = none) (h : iterItems x = some xs) (hx : Lo C ms s.heap x v) :
    wpAny (model prog w) A (pyIter v) (fun it s₂ => Iter prog w A C ms s (Rep C (hid ms s.heap) x v) xs it s₂) (fun _ _ => False) s := by
  unfold iterItems at h
  split at h
  · split at h
    · rename_i l hl
      cases h
      obtain ⟨a, o, vs, j, rfl, h1, h2, h3, h4⟩ := hx.list
      have hne : a ≠ s.heap.objs.size := Nat.ne_of_lt (Heap.lt_size h1)
      refine wpAny_pyIter_list ⟨o, h1, h2, j, h3⟩ ?_
      have W := Walks.list (prog := prog) (w := w) hh s.heap.objs.size a hne vs.toArray
      rw [show vs.toArray.size = xs.length by simp [h4.length]] at W
      refine ⟨⟨s.heap.objs.size, [s.heap.objs.size, a], _, _, rfl, W, ⟨⟨_, Heap.get?_push_size _ rfl, rfl, rfl⟩, ⟨o, Heap.get?_push_of_some _ h1, h2, j, h3⟩⟩, get_size _, ⟨_, Heap.get?_push_size _ rfl⟩, ?_, ?_, ?_, ?_⟩, Keeps.push _ _⟩
      · intro b hb hbn
        simp only [List.mem_cons, List.not_mem_nil, or_false] at hb
        rcases hb with rfl | rfl
        · exact absurd rfl hbn
        · exact ⟨o, h1⟩
      · intro i v _ e
        exact h4.back (by simpa using e)
      · rintro i h ⟨⟨o, ho, hc, _⟩, _⟩; exact ⟨o, _, ho, hc, by decide⟩
      · intro r b hb hbn
        simp only [List.mem_cons, List.not_mem_nil, or_false] at hb
        rcases hb with rfl | rfl
        · exact absurd rfl hbn
        · simp only [Rep_q1, Rep_q2, Rep_q3, Rep_q4, Rep_q5, Rep_q6, Rep_q7, Rep_q8, Rep_q9] at r
          obtain ⟨a', _, _, _, e, e2, _⟩ := r
          cases e
          intro q; unfold hid at e2; rw [if_pos q] at e2; cases e2
    · cases h
  · split at h
    · rename_i l hl
      cases h
      have hx' : Rep C (hid ms s.heap) (.tup xs) v := hx
      simp only [Rep_q1, Rep_q2, Rep_q3, Rep_q4, Rep_q5, Rep_q6, Rep_q7, Rep_q8, Rep_q9] at hx'
      obtain ⟨a, o, vs, j, rfl, h1, h2, h3, h4⟩ := hx'
      have h1' := h1
      have h1 := hid_get h1
      have hne : a ≠ s.heap.objs.size := Nat.ne_of_lt (Heap.lt_size h1)
      refine wpAny_pyIter_tuple ⟨o, h1, h2, j, h3⟩ ?_
      have W := Walks.tuple (prog := prog) (w := w) hh s.heap.objs.size a hne vs.toArray
      rw [show vs.toArray.size = xs.length by simp [h4.length]] at W
      refine ⟨⟨s.heap.objs.size, [s.heap.objs.size, a], _, _, rfl, W, ⟨⟨_, Heap.get?_push_size _ rfl, rfl, rfl⟩, ⟨o, Heap.get?_push_of_some _ h1, h2, j, h3⟩⟩, get_size _, ⟨_, Heap.get?_push_size _ rfl⟩, ?_, ?_, ?_, ?_⟩, Keeps.push _ _⟩
      · intro b hb hbn
        simp only [List.mem_cons, List.not_mem_nil, or_false] at hb
        rcases hb with rfl | rfl
        · exact absurd rfl hbn
        · exact ⟨o, h1⟩
      · intro i v _ e
        exact h4.back (by simpa using e)
      · rintro i h ⟨⟨o, ho, hc, _⟩, _⟩; exact ⟨o, _, ho, hc, by decide⟩
      · intro _ b hb hbn
        simp only [List.mem_cons, List.not_mem_nil, or_false] at hb
        rcases hb with rfl | rfl
        · exact absurd rfl hbn
        · intro q; unfold hid at h1'; rw [if_pos q] at h1'; cases h1'
    · cases h
  · split at h
    · rename_i l hl
      cases h
      obtain ⟨ha, t, rfl⟩ := hx.str
      refine wpAny_pyIter_ascii (by simpa using ha) ?_
      have W := Walks.strAscii (prog := prog) (w := w) hh s.heap.objs.size ⟨l.toArray⟩ t
      have e : (⟨l.toArray⟩ : Str).cps.size = (l.map fun c => V.str [c]).length := by simp
      rw [e] at W
      refine ⟨⟨s.heap.objs.size, [s.heap.objs.size], _, _, rfl, W, ⟨_, Heap.get?_push_size _ rfl, rfl, rfl⟩, get_size _, ⟨_, Heap.get?_push_size _ rfl⟩, ?_, ?_, ?_, ?_⟩, Keeps.push _ _⟩
      · intro b hb hbn
        simp only [List.mem_cons, List.not_mem_nil, or_false] at hb
        exact absurd hb hbn
      · rintro i v _ ⟨c, u, e, rfl⟩
        simp only [List.getElem?_toArray] at e
        refine ⟨.str [c], by simp [e], ?_⟩
        simp only [Rep_q1, Rep_q2, Rep_q3, Rep_q4, Rep_q5, Rep_q6, Rep_q7, Rep_q8, Rep_q9]
        refine ⟨fun c' hc' => ?_, u, rfl⟩
        simp at hc'; subst hc'; exact ha _ (List.mem_of_getElem? e)
      · rintro i h ⟨o, ho, hc, _⟩; exact ⟨o, _, ho, hc, by decide⟩
      · intro _ b hb hbn
        simp only [List.mem_cons, List.not_mem_nil, or_false] at hb
        exact absurd hb hbn
    · cases h
  · split at h
    · rename_i a b c q
      cases h
      have hx' : Rep C (hid ms s.heap) (.range a b c) v := hx
      simp only [Rep_q1, Rep_q2, Rep_q3, Rep_q4, Rep_q5, Rep_q6, Rep_q7, Rep_q8, Rep_q9] at hx'
      obtain ⟨r, t, u, w', rfl, h1⟩ := hx'
      refine wpAny_pyIter_range (hid_get h1) (range_small q.1 q.2.1 q.2.2.1 q.2.2.2.1 q.2.2.2.2) ?_
      have W := Walks.range (prog := prog) (w := w) hh s.heap.objs.size a c (rangeL a b c).length
      rw [show (rangeL a b c).length = ((rangeL a b c).map V.int).length by rw [List.length_map]] at W
      refine ⟨⟨s.heap.objs.size, [s.heap.objs.size], _, _, rfl, W, ?_, get_size _, ⟨_, Heap.get?_push_size _ rfl⟩, ?_, ?_, ?_, ?_⟩, Keeps.push _ _⟩
      · dsimp only
        have e1 : a + ((0 : Nat) : Int) * c = a := by simp
        have e2 : ((((rangeL a b c).map V.int).length : Nat) : Int) - ((0 : Nat) : Int) = Builtin.Range.rangeSize a b c := by rw [rangeSize_eq q.2.2.1]; simp
        rw [e1, e2]
        exact Heap.get?_push_size s.heap rfl
      · intro b hb hbn
        simp only [List.mem_cons, List.not_mem_nil, or_false] at hb
        exact absurd hb hbn
      · rintro i v hi ⟨t, rfl⟩
        rw [List.length_map] at hi
        refine ⟨.int (a + i * c), ?_, by simp only [Rep_q1, Rep_q2, Rep_q3, Rep_q4, Rep_q5, Rep_q6, Rep_q7, Rep_q8, Rep_q9]; exact ⟨t, rfl⟩⟩
        rw [List.getElem?_map]
        unfold rangeL at hi ⊢
        rw [List.length_map, List.length_range] at hi
        simp [hi]
      · intro i h ho; exact ⟨_, _, ho, rfl, by decide⟩
      · intro _ b hb hbn
        simp only [List.mem_cons, List.not_mem_nil, or_false] at hb
        exact absurd hb hbn
    · cases h
  · cases h
end
end Mine
end
section
set_option maxRecDepth 100000
set_option backward.match.sparseCases false
namespace Mine
open PySem PySem.W PyProof.Rows PySem.Calls PySem.SeqAt

structure Gx where
  C : Addr
  cls : Str
  fv : List (Nat × Value)
  fns : List (Str × Nat)
  mes : List (Str × Nat)
  con : List (Str × Int)
  cat : List (Str × List Nat)

structure Cx where
  names : List (Str × NameKind)
  slots : List Str
  base : Nat
  own : Option Nat
  self : Bool

noncomputable def Cx.isOwn (cx : Cx) (i : Nat) : Bool := cx.own == some i || (cx.self && i == 0)

noncomputable def acc (cx : Cx) (i : Nat) (n : Str) : Bool := match cx.names.lookup n with
  | some .local => decide (cx.base ≤ i)
  | some .cell => cx.base == 0 || decide (i < cx.base)
  | _ => false

noncomputable def Cx.glob (cx : Cx) (n : Str) : Bool := cx.names.lookup n == some .globalImplicit && !(n == ("__debug__" : Str))
noncomputable def okN (n : Str) : Bool := !(n == ("__debug__" : Str))

noncomputable def constOk (c : Const) (v : V) : Bool := match c with
  | .int i => (match v with | .int j => i == j | _ => false)
  | .str s => (match v with | .str l => s.cps.toList == l && l.all (fun c => decide (c < 128)) | _ => false)
  | .bool a => (match v with | .bool b => a == b | _ => false)
  | .none => (match v with | .none => true | _ => false)
  | _ => false

noncomputable def biName : BI → Str
  | .len => Str.ofString "len" | .max2 => Str.ofString "max" | .min2 => Str.ofString "min" | .max1 => Str.ofString "max" | .min1 => Str.ofString "min"
  | .range1 => Str.ofString "range" | .range2 => Str.ofString "range" | .range3 => Str.ofString "range" | .sum => Str.ofString "sum"
  | .list => Str.ofString "list" | .tuple => Str.ofString "tuple" | .isBool => Str.ofString "isinstance"

noncomputable def plainO : Expr → Bool
  | .Call (.Name _ _) [] [] _ => false
  | _ => true
noncomputable def isSlice : Expr → Bool
  | .Slice .. => true
  | _ => false

/-- the scope of a comprehension as its frame bears it -/
noncomputable def relN (names : List (Str × NameKind)) : List (Str × NameKind) := names.map fun (n, k) => if k == .free then (n, .cell) else (n, k)

noncomputable def inner (cx : Cx) (sc : Scope) (tn : List Str) : Cx := { names := relN sc.names, slots := cx.slots ++ tn, base := cx.slots.length, own := cx.own, self := cx.self }

noncomputable def scOk (cx : Cx) (sc : Scope) : Bool := sc.kind == .function && sc.names.all fun p =>
  match p.2 with
  | .local => sc.names.lookup p.1 == some .local
  | .free => cx.names.lookup p.1 == some .cell && sc.names.lookup p.1 == some .free
  | .globalImplicit => true
  | _ => false

noncomputable def nmO : Expr → Option Str
  | .Name n _ => some n
  | _ => none
noncomputable def twoN (es : List Expr) : Option (List Str) := ar2 es fun x y => (nmO x).bind fun a => (nmO y).bind fun b => if a == b then none else some [a, b]
noncomputable def tgtNames (two : Bool) (t : Expr) : Option (List Str) := match t with
  | .Name n _ => if two then none else some [n]
  | .Tuple es _ _ => if two then twoN es else none
  | _ => none
theorem nmO_e {e : Expr} {n : Str} (h : nmO e = some n) : ∃ p, e = .Name n p := by
  cases e with
  | Name m p => cases h; exact ⟨p, rfl⟩
  | _ => exact no_e h

noncomputable def isLoc (sc : Scope) (n : Str) : Bool := sc.names.lookup n == some .local

noncomputable def isNon : X → Bool
  | .non => true
  | _ => false
noncomputable def isYes : X → Bool
  | .yes => true
  | _ => false

/-! shapes of the syntax, each with its rule: what holds of the shape holds of the tree -/
noncomputable def eName (e : Expr) (f : Str → Bool) : Bool := match e with
  | .Name n _ => f n
  | _ => false
noncomputable def eBin (e : Expr) (f : Expr → Operator → Expr → Bool) : Bool := match e with
  | .BinOp l op r _ => f l op r
  | _ => false
noncomputable def eList (e : Expr) (f : List Expr → Bool) : Bool := match e with
  | .List es _ => f es
  | _ => false
noncomputable def eTup (e : Expr) (f : List Expr → Bool) : Bool := match e with
  | .Tuple es _ _ => f es
  | _ => false
noncomputable def eUn (e : Expr) (f : UnaryOp → Expr → Bool) : Bool := match e with
  | .UnaryOp op x _ => f op x
  | _ => false
noncomputable def eBool (e : Expr) (f : BoolOp → List Expr → Bool) : Bool := match e with
  | .BoolOp op es _ => f op es
  | _ => false
noncomputable def eIf (e : Expr) (f : Expr → Expr → Expr → Bool) : Bool := match e with
  | .IfExp t x y _ => f t x y
  | _ => false
noncomputable def eCmp (e : Expr) (f : Expr → List CmpOp → List Expr → Bool) : Bool := match e with
  | .Compare l ops rs _ => f l ops rs
  | _ => false
noncomputable def eCal (e : Expr) (f : Expr → List Expr → List Keyword → Pos → Bool) : Bool := match e with
  | .Call fn es kw p => f fn es kw p
  | _ => false
noncomputable def eAttr (e : Expr) (f : Expr → Str → Pos → Bool) : Bool := match e with
  | .Attribute v a p => f v a p
  | _ => false
noncomputable def eSub (e : Expr) (f : Expr → Expr → Bool) : Bool := match e with
  | .Subscript v j _ => f v j
  | _ => false
noncomputable def eSlice (e : Expr) (f : Option Expr → Option Expr → Option Expr → Bool) : Bool := match e with
  | .Slice l u t _ => f l u t
  | _ => false
noncomputable def eLC (e : Expr) (f : Expr → List Comprehension → Scope → Bool) : Bool := match e with
  | .ListComp e' gs sc _ => f e' gs sc
  | _ => false
noncomputable def eConst (e : Expr) (f : Const → Bool) : Bool := match e with
  | .Constant c _ _ => f c
  | _ => false
noncomputable def one {α : Type} (l : List α) (f : α → Bool) : Bool := match l with
  | [x] => f x
  | _ => false
noncomputable def two {α : Type} (l : List α) (f : α → α → Bool) : Bool := match l with
  | [x, y] => f x y
  | _ => false
noncomputable def oPart (o : Option Expr) (b : Bool) (f : Expr → Bool) : Bool := match o with
  | none => b
  | some e => f e
noncomputable def lPart (l : List Expr) (b : Bool) (f : Expr → Bool) : Bool := match l with
  | [] => b
  | [e] => f e
  | _ => false
noncomputable def oSome {α : Type} (o : Option α) (f : α → Bool) : Bool := match o with
  | some x => f x
  | none => false

section
variable {e : Expr} {G : Expr → Prop}
@[elab_as_elim] theorem eName_c {f} (h : eName e f = true) (k : ∀ n p, f n = true → G (.Name n p)) : G e := by
  cases e with
  | Name n p => exact k n p h
  | _ => exact absurd h Bool.false_ne_true
@[elab_as_elim] theorem eBin_c {f} (h : eBin e f = true) (k : ∀ l op r p, f l op r = true → G (.BinOp l op r p)) : G e := by
  cases e with
  | BinOp l op r p => exact k l op r p h
  | _ => exact absurd h Bool.false_ne_true
@[elab_as_elim] theorem eList_c {f} (h : eList e f = true) (k : ∀ es p, f es = true → G (.List es p)) : G e := by
  cases e with
  | List es p => exact k es p h
  | _ => exact absurd h Bool.false_ne_true
@[elab_as_elim] theorem eTup_c {f} (h : eTup e f = true) (k : ∀ es j p, f es = true → G (.Tuple es j p)) : G e := by
  cases e with
  | Tuple es j p => exact k es j p h
  | _ => exact absurd h Bool.false_ne_true
@[elab_as_elim] theorem eUn_c {f} (h : eUn e f = true) (k : ∀ op x p, f op x = true → G (.UnaryOp op x p)) : G e := by
  cases e with
  | UnaryOp op x p => exact k op x p h
  | _ => exact absurd h Bool.false_ne_true
@[elab_as_elim] theorem eBool_c {f} (h : eBool e f = true) (k : ∀ op es p, f op es = true → G (.BoolOp op es p)) : G e := by
  cases e with
  | BoolOp op es p => exact k op es p h
  | _ => exact absurd h Bool.false_ne_true
@[elab_as_elim] theorem eIf_c {f} (h : eIf e f = true) (k : ∀ t x y p, f t x y = true → G (.IfExp t x y p)) : G e := by
  cases e with
  | IfExp t x y p => exact k t x y p h
  | _ => exact absurd h Bool.false_ne_true
@[elab_as_elim] theorem eCmp_c {f} (h : eCmp e f = true) (k : ∀ l ops rs p, f l ops rs = true → G (.Compare l ops rs p)) : G e := by
  cases e with
  | Compare l ops rs p => exact k l ops rs p h
  | _ => exact absurd h Bool.false_ne_true
@[elab_as_elim] theorem eCal_c {f} (h : eCal e f = true) (k : ∀ fn es kw p, f fn es kw p = true → G (.Call fn es kw p)) : G e := by
  cases e with
  | Call fn es kw p => exact k fn es kw p h
  | _ => exact absurd h Bool.false_ne_true
@[elab_as_elim] theorem eAttr_c {f} (h : eAttr e f = true) (k : ∀ v a p, f v a p = true → G (.Attribute v a p)) : G e := by
  cases e with
  | Attribute v a p => exact k v a p h
  | _ => exact absurd h Bool.false_ne_true
@[elab_as_elim] theorem eSub_c {f} (h : eSub e f = true) (k : ∀ v j p, f v j = true → G (.Subscript v j p)) : G e := by
  cases e with
  | Subscript v j p => exact k v j p h
  | _ => exact absurd h Bool.false_ne_true
@[elab_as_elim] theorem eSlice_c {f} (h : eSlice e f = true) (k : ∀ l u t p, f l u t = true → G (.Slice l u t p)) : G e := by
  cases e with
  | Slice l u t p => exact k l u t p h
  | _ => exact absurd h Bool.false_ne_true
@[elab_as_elim] theorem eLC_c {f} (h : eLC e f = true) (k : ∀ e' gs sc p, f e' gs sc = true → G (.ListComp e' gs sc p)) : G e := by
  cases e with
  | ListComp e' gs sc p => exact k e' gs sc p h
  | _ => exact absurd h Bool.false_ne_true
@[elab_as_elim] theorem eConst_c {f} (h : eConst e f = true) (k : ∀ c j p, f c = true → G (.Constant c j p)) : G e := by
  cases e with
  | Constant c j p => exact k c j p h
  | _ => exact absurd h Bool.false_ne_true
@[elab_as_elim] theorem one_c {α : Type} {l : List α} {f} {G : List α → Prop} (h : one l f = true) (k : ∀ x, f x = true → G [x]) : G l := by
  cases l with
  | nil => exact absurd h Bool.false_ne_true
  | cons x r => cases r with
    | nil => exact k x h
    | cons => exact absurd h Bool.false_ne_true
@[elab_as_elim] theorem two_c {α : Type} {l : List α} {f} {G : List α → Prop} (h : two l f = true) (k : ∀ x y, f x y = true → G [x, y]) : G l := by
  cases l with
  | nil => exact absurd h Bool.false_ne_true
  | cons x r => cases r with
    | nil => exact absurd h Bool.false_ne_true
    | cons y r => cases r with
      | nil => exact k x y h
      | cons => exact absurd h Bool.false_ne_true
@[elab_as_elim] theorem nil_c {α : Type} {l : List α} {G : List α → Prop} (h : l.isEmpty = true) (k : G []) : G l := by
  cases l with
  | nil => exact k
  | cons => exact absurd h Bool.false_ne_true
@[elab_as_elim] theorem oSome_c {α : Type} {o : Option α} {f} {G : Option α → Prop} (h : oSome o f = true) (k : ∀ x, f x = true → G (some x)) : G o := by
  cases o with
  | none => exact absurd h Bool.false_ne_true
  | some x => exact k x h
theorem and_c {a b : Bool} {G : Prop} (h : (a && b) = true) (k : a = true → b = true → G) : G := by
  rw [Bool.and_eq_true] at h; exact k h.1 h.2
@[elab_as_elim] theorem beq_c {α : Type} [DecidableEq α] {a b : α} {G : α → Prop} (h : (a == b) = true) (k : G a) : G b := (beq_iff_eq.mp h) ▸ k
end

noncomputable def conI (g : Gx) (n : Str) : V → Bool
  | .int i => g.con.lookup n == some i
  | _ => false
noncomputable def conS (g : Gx) (a : Str) : V → Bool
  | .str l => g.cat.lookup a == some l
  | _ => false
noncomputable def kOk (g : Gx) (cx : Cx) (v : V) (e : Expr) : Bool :=
  eConst e (constOk · v) || eName e (fun n => cx.glob n && conI g n v) || eAttr e (fun w a _ => eName w fun n => cx.glob n && n == g.cls && conS g a v)

mutual
noncomputable def chk (g : Gx) (o : Bool) (cx : Cx) : X → Expr → Bool
  | .k v, e => kOk g cx v e
  | .v i, e => eName e fun n => cx.slots[i]? == some n && acc cx i n && !cx.isOwn i && okN n
  | .own i, e => eName e fun n => o && cx.slots[i]? == some n && acc cx i n && okN n
  | .bin op a b, e => eBin e fun l op' r => op == op' && chk g true cx a l && chk g true cx b r
  | .repl as b, e => eBin e fun l op r => Operator.Mult == op && chk g false cx b r && eList l fun es => chks g false cx as es
  | .neg a, e => eUn e fun op x => UnaryOp.USub == op && chk g false cx a x
  | .no a, e => eUn e fun op x => UnaryOp.Not == op && chk g false cx a x
  | .and2 a b, e => eBool e fun op es => BoolOp.And == op && Mine.two es fun x y => chk g false cx a x && chk g false cx b y
  | .or2 a b, e => eBool e fun op es => BoolOp.Or == op && Mine.two es fun x y => chk g false cx a x && chk g false cx b y
  | .ite c a b, e => eIf e fun t x y => chk g false cx c t && chk g false cx a x && chk g false cx b y
  | .cmp op a b, e => eCmp e fun l ops rs => one ops fun op' => one rs fun r => op == op' && chk g true cx a l && chk g true cx b r && !behindInMarks op r
  | .bi f as, e => eCal e fun fn es kw _ => kw.isEmpty && eName fn fun n => biName f == n && cx.glob n && bif f == .isBool then Mine.two es fun x y => eName y fun b => Str.ofString "bool" == b && cx.glob b && chks g true cx as [x] else chks g true cx as es && !es.isEmpty
  | .fn f as, e => eCal e fun fn es kw _ => kw.isEmpty && eName fn fun n => cx.glob n && g.fns.lookup n == some f && chks g false cx as es && !es.isEmpty
  | .new as, e => eCal e fun fn es kw _ => kw.isEmpty && eName fn fun n => cx.glob n && g.cls == n && chks g false cx as es && !es.isEmpty
  | .me f x as, e => eCal e fun fn es kw pos => kw.isEmpty && eAttr fn fun v a apos => g.mes.lookup a == some f && chk g false cx x v && chks g false cx as es && plainO v && apos.endLine == pos.line && decide (es.length < 20)
  | .sm m x as, e => eCal e fun fn es kw pos => kw.isEmpty && eAttr fn fun v a apos => smN m == a && chk g false cx x v && chks g true cx as es && plainO v && apos.endLine == pos.line && decide (es.length < 20)
  | .fld x i, e => eAttr e fun v a _ => attrN[i]? == some a && chk g true cx x v && plainO v
  | .item x i, e => eSub e fun v j => chk g true cx x v && chk g false cx i j && !isSlice j
  | .sl x lo hi st, e => eSub e fun v j => chk g true cx x v && eSlice j fun l u t => oPart l (isNon lo) (fun e => chk g false cx lo e) && oPart u (isNon hi) (fun e => chk g false cx hi e) && oPart t (isNon st) (fun e => chk g false cx st e)
  | .list as, e => eList e fun es => chks g false cx as es
  | .tup as, e => eTup e fun es => chks g false cx as es
  | .comp elt tgt tw it c, e => eLC e fun e' gs sc => one gs fun q => q.is_async == 0 && cx.base == 0 && tgt == cx.slots.length && scOk cx sc && chk g true cx it q.iter &&
      oSome (tgtNames tw q.target) fun tn => tn.all (isLoc sc) && chk g false (inner cx sc tn) elt e' && lPart q.ifs (isYes c) fun c' => chk g false (inner cx sc tn) c c'
  | .ands as, e => eBool e fun op es => BoolOp.And == op && chks g false cx as es
  | .ors as, e => eBool e fun op es => BoolOp.Or == op && chks g false cx as es
  | .non, _ => false
  | .nil, _ => false
  | .cons _ _, _ => false
  | .yes, _ => false
noncomputable def chks (g : Gx) (o : Bool) (cx : Cx) : X → List Expr → Bool
  | .nil, es => es.isEmpty
  | .cons a r, es => match es with
    | e :: es => chk g o cx a e && chks g o cx r es
    | [] => false
  | _, _ => false
end
@[elab_as_elim] theorem chks_c {g : Gx} {o : Bool} {cx : Cx} {a r : X} {es : List Expr} {G : List Expr → Prop} (h : chks g o cx (.cons a r) es = true) (k : ∀ e es, chk g o cx a e = true → chks g o cx r es = true → G (e :: es)) : G es := by
  cases es with
  | nil => exact absurd h Bool.false_ne_true
  | cons e es => exact and_c (show (chk g o cx a e && chks g o cx r es) = true from h) (k e es)

noncomputable def chkP (g : Gx) (cx : Cx) (x : X) (oe : Option Expr) : Bool := match oe with
  | none => isNon x
  | some e => chk g false cx x e

structure GOK (K : Frag) (g : Gx) : Prop where
  con : ∀ x i, g.con.lookup x = some i → ∃ t, nsIn K mainGlobals x = some (some (.int i t))
  fns : ∀ x f, g.fns.lookup x = some f → ∃ u, g.fv.lookup f = some u ∧ nsIn K mainGlobals x = some (some u)
  cls : nsIn K mainGlobals g.cls = some (some (.ref g.C)) ∧ g.fv.lookup 0 = some (.ref g.C)
  keep : ∀ f u, g.fv.lookup f = some u → keepIn K u = true
  mes : ∀ x f, g.mes.lookup x = some f → ∃ fa, g.fv.lookup f = some (.ref fa) ∧ findIn K (.ref g.C) x = some (some (.ref fa)) ∧ typeIn K (.ref fa) = some (.type "function") ∧ x ∉ attrN
  get : findIn K (.ref g.C) "__getattribute__" = some (some (.builtin "object.__getattribute__")) ∧ findIn K (.ref g.C) "__getattr__" = some none
  dict : hasDictIn K g.C = true
  attr : ∀ n ∈ attrN, findIn K (.ref g.C) n = some none
  cat : ∀ x l, g.cat.lookup x = some l → ∃ mc t, readsIn K g.C mc = true ∧ findCls K (.ref g.C) mc x = some (.val (.str ⟨l.toArray⟩ t)) ∧ (∀ c ∈ l, c < 128)
  bi : ∀ f, nsIn K mainGlobals (biName f) = some none
  bool : nsIn K mainGlobals (Str.ofString "bool") = some none

structure Stb (B : Heap) (ms : List Addr) (h : Heap) : Prop where
  base : ∀ b o, B.get? b = some o → h.get? b = some o
  live : Live ms h
  low : ∀ a ∈ ms, B.get? a = none
theorem Stb.new {B : Heap} {ms : List Addr} {h : Heap} {a : Addr} (S : Stb B ms h) (e : h.get? a = none) : B.get? a = none := by
  cases q : B.get? a with
  | none => rfl
  | some o => rw [S.base a o q] at e; cases e
theorem Stb.cons {B : Heap} {ms : List Addr} {h : Heap} {a : Addr} {o : Obj} (S : Stb B ms h) (e : h.get? a = some o) (l : B.get? a = none) : Stb B (a :: ms) h :=
  ⟨S.base, fun b hb => (List.mem_cons.mp hb).elim (fun q => ⟨o, q ▸ e⟩) (S.live b), fun b hb => (List.mem_cons.mp hb).elim (fun q => q ▸ l) (S.low b)⟩
theorem Stb.keeps {B : Heap} {ms : List Addr} {h h' : Heap} (S : Stb B ms h) (k : ∀ b o, h.get? b = some o → h'.get? b = some o) : Stb B ms h' := ⟨fun b o e => k b o (S.base b o e), S.live.keeps k, S.low⟩

noncomputable def RL (o : Bool) (C : Addr) (ms : List Addr) (h : Heap) (x : V) (v : Value) : Prop := if o then Lo C ms h x v else Rep C (hid ms h) x v
theorem RL.keeps {o : Bool} {C : Addr} {ms : List Addr} {h h' : Heap} (k : ∀ b o, h.get? b = some o → h'.get? b = some o) {x : V} {v : Value} (r : RL o C ms h x v) : RL o C ms h' x v := by
  cases o
  · exact Rep.mono (hid_mono k) _ _ (show Rep C (hid ms h) x v from r)
  · exact Lo.keeps k (show Lo C ms h x v from r)
theorem RL.lo {o : Bool} {C : Addr} {ms : List Addr} {h : Heap} {x : V} {v : Value} (r : RL o C ms h x v) : Lo C ms h x v := by
  cases o
  · exact Rep.lo (show Rep C (hid ms h) x v from r)
  · exact (show Lo C ms h x v from r)
theorem Rep.rl {o : Bool} {C : Addr} {ms : List Addr} {h : Heap} {x : V} {v : Value} (r : Rep C (hid ms h) x v) : RL o C ms h x v := by
  cases o
  · exact r
  · exact r.lo

noncomputable def Bound (env : Env) (h : Heap) (n : Str) (v : Value) : Prop := match env.kindOf n with
  | some .local => ∃ m, h.Ns env.locals m ∧ m n = some v
  | some .cell => ∃ c, env.cells.lookup n = some c ∧ h.IsCell c (some v)
  | _ => False
theorem Bound.keeps {env : Env} {h h' : Heap} {n : Str} {v : Value} (k : ∀ b o, h.get? b = some o → h'.get? b = some o) (b : Bound env h n v) : Bound env h' n v := by
  unfold Bound at b ⊢
  split at b
  · obtain ⟨m, x, y⟩ := b; exact ⟨m, x.keeps k, y⟩
  · obtain ⟨c, x, y⟩ := b; exact ⟨c, x, y.keeps k⟩
  · exact b

structure EF (B : Heap) (C : Addr) (cx : Cx) (env : Env) (ms : List Addr) (h : Heap) (ρ : List V) : Prop where
  st : Stb B ms h
  kind : env.scope.kind = .function
  names : env.scope.names = cx.names
  glo : env.globals = mainGlobals
  bui : env.builtins = builtinsNs
  cel : ∀ n, cx.names.lookup n = some .cell → ∃ c, env.cells.lookup n = some c
  slots : ∀ i n x, cx.slots[i]? = some n → ρ[i]? = some x → (match x with | .undef => False | _ => True) → acc cx i n = true → ∃ v, Bound env h n v ∧ RL (cx.isOwn i) C ms h x v
theorem EF.keeps {B : Heap} {C : Addr} {cx : Cx} {env : Env} {ms : List Addr} {h h' : Heap} {ρ : List V} (E : EF B C cx env ms h ρ) (k : ∀ b o, h.get? b = some o → h'.get? b = some o) : EF B C cx env ms h' ρ where
  st := E.st.keeps k
  kind := E.kind
  names := E.names
  glo := E.glo
  bui := E.bui
  cel := E.cel
  slots := fun i n x a b c d => let ⟨v, h1, h2⟩ := E.slots i n x a b c d; ⟨v, h1.keeps k, h2.keeps k⟩

end Mine
end
section
set_option maxRecDepth 100000
set_option backward.match.sparseCases false
namespace Mine
open PySem PySem.W PyProof.Rows PySem.Calls PySem.SeqAt

noncomputable def fresh : X → Bool
  | .list _ => true
  | .bin .Add _ _ => true
  | .bi .list _ => true
  | .repl _ _ => true
  | .comp .. => true
  | _ => false

noncomputable def RLs (o : Bool) (C : Addr) (ms : List Addr) (h : Heap) (xs : List V) (vs : List Value) : Prop := if o then Los C ms h xs vs else Reps C (hid ms h) xs vs
theorem Reps.los {C : Addr} {ms : List Addr} {h : Heap} : ∀ {xs : List V} {vs : List Value}, Reps C (hid ms h) xs vs → Los C ms h xs vs
  | [], _, r => by simpa only [Reps_q1, Reps_q2, Los] using r
  | x :: xs, vs, r => by
    simp only [Reps_q1, Reps_q2] at r
    obtain ⟨v, vs', rfl, a, b⟩ := r
    exact ⟨v, vs', rfl, a.lo, b.los⟩
theorem RLs.los {o : Bool} {C : Addr} {ms : List Addr} {h : Heap} {xs : List V} {vs : List Value} (r : RLs o C ms h xs vs) : Los C ms h xs vs := by
  cases o
  · exact Reps.los (show Reps C (hid ms h) xs vs from r)
  · exact r
theorem RLs.nil {o : Bool} {C : Addr} {ms : List Addr} {h : Heap} : RLs o C ms h [] [] := by
  cases o
  · exact (Reps.nil : Reps C (hid ms h) [] [])
  · exact (rfl : ([] : List Value) = [])
theorem RLs.cons {o : Bool} {C : Addr} {ms : List Addr} {h : Heap} {x : V} {v : Value} {xs : List V} {vs : List Value} (a : RL o C ms h x v) (b : RLs o C ms h xs vs) : RLs o C ms h (x :: xs) (v :: vs) := by
  cases o
  · exact Reps.cons a b
  · exact ⟨v, vs, rfl, a, b⟩

structure Wd where
  prog : Program
  w : World
  K : Frag
  B : Heap
  g : Gx
  p : Program
  loose : List Str
  mg : Str → Option Value
  mb : Str → Option Value
  F : Nat → List V → Option V
  d : Nat

/-- the functions of F are called so -/
noncomputable def FOK (W : Wd) : Prop := ∀ f u zs z A ms s vs, W.g.fv.lookup f = some u → W.F f zs = some z → Reps W.g.C (hid ms s.heap) zs vs → Stb W.B ms s.heap → Rm A W.d →
  wpAny (model W.prog W.w) A (call u vs) (fun v s' => Keeps s s' ∧ Rep W.g.C (hid ms s'.heap) z v) (fun _ _ => False) s

structure WOK (W : Wd) : Prop where
  X : W.K.In W.B
  T : TopRead W.p W.loose W.mg W.mb W.B
  G : GOK W.K W.g
  f : FOK W

noncomputable def EvOK (W : Wd) (x : X) : Prop := ∀ o cx e env A ms s ρ z, chk W.g o cx x e = true → ev W.F ρ x = some z → EF W.B W.g.C cx env ms s.heap ρ → Rm A W.d →
  wpAny (model W.prog W.w) A (eval e env) (fun v s' => Keeps s s' ∧ RL o W.g.C ms s'.heap z v) (fun _ _ => False) s ∧
  (fresh x = true → ∀ l, z = .list l → EvN W.prog W.w A W.g.C ms (eval e env) l s)
noncomputable def EvsOK (W : Wd) (x : X) : Prop := ∀ o cx es env A ms s ρ zs, chks W.g o cx x es = true → evs W.F ρ x = some zs → EF W.B W.g.C cx env ms s.heap ρ → Rm A W.d →
  wpAny (model W.prog W.w) A (spliced (es.map fun e => (false, eval e env))) (fun vs s' => Keeps s s' ∧ RLs o W.g.C ms s'.heap zs vs) (fun _ _ => False) s
noncomputable def TstOK (W : Wd) (x : X) : Prop := ∀ cx e env A ms s ρ b, chk W.g false cx x e = true → tst W.F ρ x = some b → EF W.B W.g.C cx env ms s.heap ρ → Rm A W.d →
  Tst W.prog W.w A (isTrue e env (eval e env)) b s
noncomputable def TandsOK (W : Wd) (x : X) : Prop := ∀ cx es env A ms s ρ b, chks W.g false cx x es = true → tands W.F ρ x = some b → EF W.B W.g.C cx env ms s.heap ρ → Rm A W.d →
  Tst W.prog W.w A (allTrue .And es env) b s
noncomputable def TorsOK (W : Wd) (x : X) : Prop := ∀ cx es env A ms s ρ b, chks W.g false cx x es = true → tors W.F ρ x = some b → EF W.B W.g.C cx env ms s.heap ρ → Rm A W.d →
  Tst W.prog W.w A (allTrue .Or es env) b s

section
variable {prog : Program} {w : World} {A : Around} {C : Addr} {ms : List Addr} {s : Shared}

/-- run a tree that keeps all, then go on -/
theorem seqEv {α : Type} {M : Model} {t : Sem α} {P : α → Shared → Prop} {Q : α → Shared → Prop} {s : Shared}
    (h : wpAny M A t (fun v s' => Keeps s s' ∧ P v s') (fun _ _ => False) s) (k : ∀ v s', Keeps s s' → P v s' → Q v s') : wpAny M A t Q (fun _ _ => False) s :=
  wpAny_mono h (fun v s' q => k v s' q.1 q.2) fun _ _ e => e

theorem Evl.rl {t : Sem Value} {x : V} {o : Bool} (h : Evl prog w A C ms t x s) : wpAny (model prog w) A t (fun v s' => Keeps s s' ∧ RL o C ms s'.heap x v) (fun _ _ => False) s :=
  wpAny_mono h (fun v s' q => ⟨q.1, q.2.rl⟩) fun _ _ e => e

theorem after {α : Type} {t : Sem α} {P : α → Shared → Prop} {s s₁ : Shared} (k : Keeps s s₁) (h : wpAny (model prog w) A t (fun v s' => Keeps s₁ s' ∧ P v s') (fun _ _ => False) s₁) :
    wpAny (model prog w) A t (fun v s' => Keeps s s' ∧ P v s') (fun _ _ => False) s₁ := wpAny_mono h (fun _ _ q => ⟨Keeps.trans k q.1, q.2⟩) fun _ _ e => e
theorem afterN {t : Sem Value} {l : List V} {s s₁ : Shared} (k : Keeps s s₁) (h : EvN prog w A C ms t l s₁) :
    wpAny (model prog w) A t (fun v s' => Keeps s s' ∧ ∃ a vs n, v = .ref a ∧ s.heap.get? a = none ∧ s'.heap.get? a = some { cls := .type "list", data := .seq (List.toArray vs) n } ∧ Reps C (hid (a :: ms) s'.heap) l vs) (fun _ _ => False) s₁ :=
  wpAny_mono h (fun v s' q => by
    obtain ⟨k', a, vs, n, e1, e2, e3, e4⟩ := q
    refine ⟨Keeps.trans k k', a, vs, n, e1, ?_, e3, e4⟩
    cases e : s.heap.get? a with
    | none => rfl
    | some o => rw [Keeps.heap k _ _ e] at e2; cases e2) fun _ _ e => e
end

section
variable {W : Wd} (O : WOK W) {cx : Cx} {env : Env} {A : Around} {ms : List Addr} {s : Shared} {ρ : List V}

theorem kindOf_eq (E : EF W.B W.g.C cx env ms s.heap ρ) (n : Str) : env.kindOf n = cx.names.lookup n := by unfold Env.kindOf; rw [E.names]

theorem slot_name {i : Nat} {n : Str} {p : Pos} {z : V} (E : EF W.B W.g.C cx env ms s.heap ρ) (h1 : cx.slots[i]? = some n) (h2 : acc cx i n = true) (h3 : okN n = true) (hz : getV ρ i = some z) :
    wpAny (model W.prog W.w) A (eval (.Name n p) env) (fun v s' => Keeps s s' ∧ RL (cx.isOwn i) W.g.C ms s'.heap z v) (fun _ _ => False) s := by
  unfold getV at hz
  have hd : (n == ("__debug__" : Str)) = false := by unfold okN at h3; simpa using h3
  obtain ⟨x, hx, hne, rfl⟩ : ∃ x, ρ[i]? = some x ∧ (match x with | .undef => False | _ => True) ∧ z = x := by
    split at hz
    · cases hz
    · rename_i x hx _
      cases hz
      exact ⟨_, ‹_›, by split <;> simp_all, rfl⟩
    · cases hz
  obtain ⟨v, hb, hr⟩ := E.slots i n z h1 hx hne h2
  unfold Bound at hb
  split at hb
  · rename_i hk
    obtain ⟨m, hn, hm⟩ := hb
    exact wpAny_Name (wpAny_loadName_local E.kind hk hn hm ⟨Keeps.refl _, hr⟩) hd
  · rename_i hk
    obtain ⟨c, hc, hv⟩ := hb
    exact wpAny_Name (wpAny_loadName_cell E.kind hk hc hv ⟨Keeps.refl _, hr⟩) hd
  · exact hb.elim

theorem glob_facts {n : Str} (h : cx.glob n = true) : cx.names.lookup n = some .globalImplicit ∧ (n == ("__debug__" : Str)) = false := by
  unfold Cx.glob at h
  simp only [Bool.and_eq_true, beq_iff_eq, Bool.not_eq_true'] at h
  exact h
include O in
theorem glob_name {n : Str} {p : Pos} {v : Value} {Q : Value → Shared → Prop} (E : EF W.B W.g.C cx env ms s.heap ρ) (h : cx.glob n = true) (hv : nsIn W.K mainGlobals n = some (some v)) (q : Q v s) :
    wpAny (model W.prog W.w) A (eval (.Name n p) env) Q (fun _ _ => False) s := by
  obtain ⟨h1, h2⟩ := glob_facts h
  refine Name_function_global E.kind ((kindOf_eq E n).trans h1) (loadGlobal_global (mg := W.mg) ?_ (mg_of O.X O.T.g hv) q) h2
  rw [E.glo]; exact O.T.g.keeps E.st.base
theorem biBoot : ∀ f, bootBuiltins (biName f) = some (biF f) := by
  intro f; cases f <;> kernel_rfl
theorem biNot : ∀ f, biName f ≠ "__name__" := by
  intro f; cases f <;> decide +kernel
theorem boolBoot : bootBuiltins (Str.ofString "bool") = some (.type "bool") := by kernel_rfl
include O in
theorem bi_name {n : Str} {p : Pos} {v : Value} {Q : Value → Shared → Prop} (E : EF W.B W.g.C cx env ms s.heap ρ) (h : cx.glob n = true) (hn : nsIn W.K mainGlobals n = some none) (hv : bootBuiltins n = some v) (hne : n ≠ "__name__") (q : Q v s) :
    wpAny (model W.prog W.w) A (eval (.Name n p) env) Q (fun _ _ => False) s := by
  obtain ⟨h1, h2⟩ := glob_facts h
  refine Name_function_global E.kind ((kindOf_eq E n).trans h1) (loadGlobal_builtin (mg := W.mg) (mb := W.mb) ?_ (mg_none_of O.X O.T.g hn) ?_ ((O.T.builtins n hne).trans hv) q) h2
  · rw [E.glo]; exact O.T.g.keeps E.st.base
  · rw [E.bui]; exact O.T.b.keeps E.st.base

theorem chk_star {g : Gx} {o : Bool} {cx : Cx} {x : X} {e : Expr} {p : Pos} : chk g o cx x (.Starred e p) = false := by
  cases x <;> rfl
theorem chks_plain {g : Gx} {o : Bool} {cx : Cx} {env : Env} {pos : Pos} : ∀ {x : X} {es : List Expr}, chks g o cx x es = true → backTo pos (starEach es env) = es.map fun e => (false, eval e env) := by
  intro x es
  induction es generalizing x with
  | nil => intro _; rfl
  | cons e es ih =>
    intro h
    have h : ∃ a r, chk g o cx a e = true ∧ chks g o cx r es = true := by
      cases x with
      | cons a r => exact and_c (show (chk g o cx a e && chks g o cx r es) = true from h) fun h1 h2 => ⟨a, r, h1, h2⟩
      | _ => exact absurd h Bool.false_ne_true
    obtain ⟨a, r, h1, h2⟩ := h
    have ih' := ih h2
    have hs : starEach (e :: es) env = (false, eval e env) :: starEach es env := by
      cases e <;> first | rfl | exact absurd (chk_star.symm.trans h1) Bool.false_ne_true
    rw [hs]
    show (false, eval e env) :: backTo pos (starEach es env) = _
    rw [ih']; rfl

theorem evalArgs_list {M : Model} {f : Value} {es : List Expr} {Q : Args → Shared → Prop} {E : Value → Shared → Prop}
    (h : wpAny M A (spliced (es.map fun e => (false, eval e env))) (fun vs s' => Q ⟨vs, []⟩ s') E s) : wpAny M A (evalArgs f true (es.map fun e => (false, eval e env)) []) Q E s := by
  cases es with
  | nil =>
    unfold evalArgs
    show wpAny M A (spliced [] >>= _) Q E s
    refine wpAny_bind (wpAny_mono h (fun vs s' h' => ?_) fun _ _ x => x)
    exact wpAny_bind (wpAny_pure (wpAny_holding (wpAny_bind (wpAny_pure (wpAny_bind (wpAny_pure (wpAny_pure h')))))))
  | cons e es => exact evalArgs_plain h
theorem noStar (es : List Expr) : ((es.map fun e => (false, eval e env)).any (·.1) || ([] : List (Option Str × Sem Value)).any (·.1.isNone)) = false := by
  simp [List.any_map, Function.comp]
end
end Mine
end
section
set_option maxRecDepth 100000
set_option backward.match.sparseCases false
namespace Mine
open PySem PySem.W PyProof.Rows PySem.Calls PySem.SeqAt

section
variable {prog : Program} {w : World} {A : Around} {E : Value → Shared → Prop} {s : Shared} {env : Env}

theorem base_plain {v : Expr} {a : Str} {t : Sem Value} (h : plainO v = true) : attributeBase v a env t = t := by
  cases v with
  | Call fn as kw p => cases fn with
    | Name n q => cases as with
      | nil => cases kw with
        | nil => exact absurd h Bool.false_ne_true
        | cons => rfl
      | cons => rfl
    | _ => rfl
  | _ => rfl

theorem attr_any {v : Expr} {a : Str} {p : Pos} {Q : Value → Shared → Prop} (hp : plainO v = true)
    (h : wpAny (model prog w) A (eval v env) (fun o s₁ => wpAny (model prog w) A (getAttr o a true) Q E s₁) E s) : wpAny (model prog w) A (eval (.Attribute v a p) env) Q E s := by
  rw [arm_eval_Attribute, base_plain hp]
  refine wpAny_bind (wpAny_mono h (fun o s₁ h₁ => wpAny_bind (wpAny_standAt (wpAny_bind (wpAny_holding (wpAny_mono h₁ (fun r s₂ h₂ => ?_) fun _ _ x => x))))) fun _ _ x => x)
  exact wpAny_bind (wpAny_letTemporaryGo (wpAny_pure h₂))

theorem meth_any {v : Expr} {a : Str} {apos pos : Pos} {es : List Expr} {Q : Value → Shared → Prop} (hp : plainO v = true) (hline : (apos.endLine == pos.line) = true) (hlen : es.length < 20)
    (hpl : backTo pos (starEach es env) = es.map fun e => (false, eval e env))
    (h : wpAny (model prog w) A (eval v env) (fun ov s₁ => wpAny (model prog w) A (getMethod ov a (do return (← importBound v env).getD true)) (fun fb s₂ => wpAny (model prog w) A (callWith pos fb.1 fb.2 (es.map fun e => (false, eval e env)) []) Q E s₂) E s₁) E s) :
    wpAny (model prog w) A (eval (.Call (.Attribute v a apos) es [] pos) env) Q E s := by
  rw [arm_eval_Call, base_plain hp, hpl]
  refine wpAny_bind (wpAny_mono h (fun ov s₁ h₁ => wpAny_bind (wpAny_standAt ?_)) fun _ _ x => x)
  have hform : methodCallForm (es.length + ([] : List Keyword).length) (es.map fun e => (false, eval e env)) (backToKw pos (keywordEach [] env)) = true := by
    unfold methodCallForm
    simp only [List.all_map, Function.comp, Bool.not_false, List.all_eq_true, Bool.and_eq_true, decide_eq_true_eq]
    refine ⟨⟨by simp, by intro x hx; cases hx⟩, ?_⟩
    simp only [List.length_nil]
    have : (backToKw pos (keywordEach [] env)).isEmpty = true := rfl
    rw [this]; simp; lia
  have hpos : methodCallPos true v env apos pos = pure pos := by unfold methodCallPos; simp [hline]
  unfold methodCall
  rw [hform]
  refine wpAny_bind (wpAny_holding (wpAny_mono h₁ (fun fb s₂ h₂ => ?_) fun _ _ x => x))
  exact wpAny_bind (wpAny_of_eq hpos h₂)

theorem gip_tuple {o : Value} {T id : String} {Q : Bool → Shared → Prop} (hT : s.TypeIs o T) (hl : typeLookup (.type T) "__getitem__" = pure (some (.builtin id))) (q : Q false s) :
    wpAny (model prog w) A (getitemInPython o) Q E s := by
  rw [getitemInPython_of_ne hT.not_modules]
  refine wpAny_bind (wpAny_specialOf hT hl ?_)
  exact wpAny_pure q

theorem sub_any {v i : Expr} {p : Pos} {Q : Value → Shared → Prop}
    (h : wpAny (model prog w) A (eval v env) (fun o s₁ => wpAny (model prog w) A (eval i env) (fun j s₂ => (∃ T id, s₂.TypeIs o T ∧ typeLookup (.type T) "__getitem__" = pure (some (.builtin id))) ∧ wpAny (model prog w) A (getItem o j) Q E s₂) E s₁) E s) :
    wpAny (model prog w) A (eval (.Subscript v i p) env) Q E s := by
  rw [eval_Subscript]
  refine wpAny_bind (wpAny_mono h (fun o s₁ h₁ => wpAny_bind (wpAny_holding (wpAny_mono h₁ (fun j s₂ h₂ => wpAny_bind (wpAny_standAt ?_)) fun _ _ x => x))) fun _ _ x => x)
  obtain ⟨⟨T, id, hT, hl⟩, hg⟩ := h₂
  refine wpAny_bind (gip_tuple hT hl ?_)
  have fin : ∀ ops, wpAny (model prog w) A (operate ops (getItem o j)) (fun r s₃ => wpAny (model prog w) A (letTemporaryGo v o r >>= fun _ => pure r) Q E s₃) E s₂ := fun ops =>
    wpAny_operating (wpAny_mono hg (fun r s₃ h₃ => wpAny_bind (wpAny_letTemporaryGo (wpAny_pure h₃))) fun _ _ x => x)
  refine wpAny_bind ?_
  cases i with
  | Slice a b c d => cases c with
    | none => exact fin [j, o]
    | some c => exact fin [o, j]
  | _ => exact fin [o, j]

theorem lo_type {C : Addr} {ms : List Addr} {x z y : V} {v : Value} (hx : Lo C ms s.heap x v) (h : itemV x y = some z ∨ (∃ a b c, slV x a b c = some z)) :
    ∃ T id, s.TypeIs v T ∧ typeLookup (.type T) "__getitem__" = pure (some (.builtin id)) := by
  have key : (∃ l, x = .list l) ∨ (∃ l, x = .tup l) ∨ (∃ l, x = .str l) := by
    rcases h with h | ⟨a, b, c, h⟩
    · cases x with
      | list l => exact .inl ⟨l, rfl⟩
      | tup l => exact .inr (.inl ⟨l, rfl⟩)
      | str l => exact .inr (.inr ⟨l, rfl⟩)
      | _ => exact no_e h
    · unfold slV at h
      obtain ⟨lo, _, h⟩ := Option.bind_eq_some_iff.mp h
      obtain ⟨hi, _, h⟩ := Option.bind_eq_some_iff.mp h
      obtain ⟨st, _, h⟩ := Option.bind_eq_some_iff.mp h
      cases x with
      | list l => exact .inl ⟨l, rfl⟩
      | str l => exact .inr (.inr ⟨l, rfl⟩)
      | _ => exact no_e h
  rcases key with ⟨l, rfl⟩ | ⟨l, rfl⟩ | ⟨l, rfl⟩
  · obtain ⟨a, o, vs, n, rfl, h1, h2, h3, h4⟩ := hx.list
    exact ⟨"list", _, ⟨o, h1, h2⟩, slot_list_getitem.lookup⟩
  · have hx' : Rep C (hid ms s.heap) (.tup l) v := hx
    simp only [Rep_q1, Rep_q2, Rep_q3, Rep_q4, Rep_q5, Rep_q6, Rep_q7, Rep_q8, Rep_q9] at hx'
    obtain ⟨a, o, vs, n, rfl, h1, h2, h3, h4⟩ := hx'
    exact ⟨"tuple", _, ⟨o, hid_get h1, h2⟩, PySem.F.slot_tuple_getitem.lookup⟩
  · obtain ⟨_, t, rfl⟩ := hx.str
    exact ⟨"str", _, typeIs_str _ _ _, PySem.F.slot_str_getitem.lookup⟩
end

section
variable {W : Wd} (O : WOK W) {cx : Cx} {env : Env} {A : Around} {ms : List Addr} {s : Shared} {ρ : List V}

theorem constOk_c {c : Const} {v : V} {G : Const → V → Prop} (h : constOk c v = true) (k1 : ∀ i, G (.int i) (.int i)) (k2 : ∀ t : Str, (∀ c ∈ t.cps.toList, c < 128) → G (.str t) (.str t.cps.toList)) (k3 : ∀ b, G (.bool b) (.bool b)) (k4 : G .none .none) : G c v := by
  cases c with
  | int i => cases v with
    | int j => exact beq_iff_eq.mp (show (i == j) = true from h) ▸ k1 i
    | _ => exact absurd h Bool.false_ne_true
  | str t => cases v with
    | str l =>
      refine and_c (show (t.cps.toList == l && l.all (fun c => decide (c < 128))) = true from h) fun h1 h2 => ?_
      obtain rfl := beq_iff_eq.mp h1
      exact k2 t fun c hc => of_decide_eq_true (List.all_eq_true.mp h2 c hc)
    | _ => exact absurd h Bool.false_ne_true
  | bool a => cases v with
    | bool b => exact beq_iff_eq.mp (show (a == b) = true from h) ▸ k3 a
    | _ => exact absurd h Bool.false_ne_true
  | none => cases v with
    | none => exact k4
    | _ => exact absurd h Bool.false_ne_true
  | _ => exact absurd h Bool.false_ne_true
include O in
theorem k_ok (v : V) : EvOK W (.k v) := by
  intro o cx e env A ms s ρ z hc hz E R
  obtain rfl : v = z := Option.some.inj hz
  refine ⟨?_, fun h => by cases h⟩
  have hc : kOk W.g cx v e = true := hc
  unfold kOk at hc
  rcases Bool.or_eq_true_iff.mp hc with hc | hc
  · rcases Bool.or_eq_true_iff.mp hc with hc | hc
    · refine eConst_c hc fun c k p hc => ?_
      exact constOk_c (G := fun c v => wpAny (model W.prog W.w) A (eval (.Constant c k p) env) (fun u s' => Keeps s s' ∧ RL o W.g.C ms s'.heap v u) (fun _ _ => False) s) hc (fun i => wpAny_Constant_int ⟨Keeps.toks _ _, Rep.rl (Rep_q4.mpr ⟨_, rfl⟩)⟩) (fun t h => Constant_str ⟨Keeps.toks _ _, Rep.rl (Rep_q5.mpr ⟨h, _, rfl⟩)⟩)
        (fun b => wpAny_Constant_bool ⟨Keeps.refl _, Rep.rl (Rep_q3.mpr rfl)⟩) (wpAny_Constant_none ⟨Keeps.refl _, Rep.rl (Rep_q2.mpr rfl)⟩)
    · refine eName_c hc fun n p hc => and_c hc fun h1 h2 => ?_
      cases v with
      | int i =>
        obtain ⟨t, ht⟩ := O.G.con n i (beq_iff_eq.mp h2)
        exact glob_name O E h1 ht ⟨Keeps.refl _, Rep.rl (by simp only [Rep_q1, Rep_q2, Rep_q3, Rep_q4, Rep_q5, Rep_q6, Rep_q7, Rep_q8, Rep_q9]; exact ⟨_, rfl⟩)⟩
      | _ => exact absurd h2 Bool.false_ne_true
  · refine eAttr_c hc fun w a p' hc => eName_c hc fun n p hc => and_c hc fun hc h2 => and_c hc fun h1 h3 => ?_
    obtain rfl := beq_iff_eq.mp h3
    cases v with
    | str l =>
      obtain ⟨mc, t, g1, g2, g3⟩ := O.G.cat a l (beq_iff_eq.mp h2)
      refine attr_any rfl (glob_name O E h1 O.G.cls.1 ?_)
      exact cls_value (O.X.keeps E.st.base) g1 g2 rfl ⟨Keeps.toks _ _, Rep.rl (by simp only [Rep_q1, Rep_q2, Rep_q3, Rep_q4, Rep_q5, Rep_q6, Rep_q7, Rep_q8, Rep_q9]; exact ⟨g3, _, rfl⟩)⟩
    | _ => exact absurd h2 Bool.false_ne_true

theorem v_ok (i : Nat) : EvOK W (.v i) := by
  intro o cx e env A ms s ρ z hc hz E R
  refine ⟨?_, fun h => by cases h⟩
  refine eName_c hc fun n p hc => ?_
  simp only [Bool.and_eq_true, beq_iff_eq, Bool.not_eq_true'] at hc
  obtain ⟨⟨⟨h1, h2⟩, h3⟩, h4⟩ := hc
  refine seqEv (slot_name E h1 h2 h4 (by simpa only [ev_q1, ev_q2, ev_q3, ev_q4, ev_q5, ev_q6, ev_q7, ev_q8, ev_q9, ev_q10, ev_q11, ev_q12, ev_q13, ev_q14, ev_q15, ev_q16, ev_q17, ev_q18, ev_q19, ev_q20, ev_q21, ev_q22, ev_q23, ev_q24, ev_q25, ev_q26, ev_q27, ev_q28] using hz)) fun v s' k r => ⟨k, ?_⟩
  rw [h3] at r
  exact Rep.rl r
theorem own_ok (i : Nat) : EvOK W (.own i) := by
  intro o cx e env A ms s ρ z hc hz E R
  refine ⟨?_, fun h => by cases h⟩
  refine eName_c hc fun n p hc => ?_
  simp only [Bool.and_eq_true, beq_iff_eq] at hc
  obtain ⟨⟨⟨h0, h1⟩, h2⟩, h4⟩ := hc
  refine seqEv (slot_name E h1 h2 h4 (by simpa only [ev_q1, ev_q2, ev_q3, ev_q4, ev_q5, ev_q6, ev_q7, ev_q8, ev_q9, ev_q10, ev_q11, ev_q12, ev_q13, ev_q14, ev_q15, ev_q16, ev_q17, ev_q18, ev_q19, ev_q20, ev_q21, ev_q22, ev_q23, ev_q24, ev_q25, ev_q26, ev_q27, ev_q28] using hz)) fun v s' k r => ⟨k, ?_⟩
  rw [h0]; exact r.lo

theorem two_ops {a b : X} (ha : EvOK W a) (hb : EvOK W b) {o₁ o₂ : Bool} {l r : Expr} {x y : V} (E : EF W.B W.g.C cx env ms s.heap ρ) (R : Rm A W.d) (c1 : chk W.g o₁ cx a l = true) (c2 : chk W.g o₂ cx b r = true)
    (h1 : ev W.F ρ a = some x) (h2 : ev W.F ρ b = some y) {Q : Value → Value → Shared → Prop}
    (q : ∀ v u s', Keeps s s' → RL o₁ W.g.C ms s'.heap x v → RL o₂ W.g.C ms s'.heap y u → EF W.B W.g.C cx env ms s'.heap ρ → Q v u s') :
    wpAny (model W.prog W.w) A (eval l env) (fun v s₁ => wpAny (model W.prog W.w) A (eval r env) (fun u s₂ => Q v u s₂) (fun _ _ => False) s₁) (fun _ _ => False) s :=
  seqEv (ha _ _ _ _ _ _ _ _ _ c1 h1 E R).1 fun v s₁ k₁ r₁ =>
    seqEv (hb _ _ _ _ _ _ _ _ _ c2 h2 (E.keeps (Keeps.heap k₁)) R).1 fun u s₂ k₂ r₂ => q v u s₂ (Keeps.trans k₁ k₂) (r₁.keeps (Keeps.heap k₂)) r₂ ((E.keeps (Keeps.heap k₁)).keeps (Keeps.heap k₂))

theorem bin_ok {op : Operator} {a b : X} (ha : EvOK W a) (hb : EvOK W b) : EvOK W (.bin op a b) := by
  intro o cx e env A ms s ρ z hc hz E R
  simp only [ev_q1, ev_q2, ev_q3, ev_q4, ev_q5, ev_q6, ev_q7, ev_q8, ev_q9, ev_q10, ev_q11, ev_q12, ev_q13, ev_q14, ev_q15, ev_q16, ev_q17, ev_q18, ev_q19, ev_q20, ev_q21, ev_q22, ev_q23, ev_q24, ev_q25, ev_q26, ev_q27, ev_q28] at hz
  obtain ⟨x, h1, hz⟩ := Option.bind_eq_some_iff.mp hz
  obtain ⟨y, h2, hz⟩ := Option.bind_eq_some_iff.mp hz
  refine eBin_c hc fun l op' r p hc => ?_
  simp only [Bool.and_eq_true, beq_iff_eq] at hc
  obtain ⟨⟨rfl, c1⟩, c2⟩ := hc
  refine ⟨wpAny_BinOp (two_ops ha hb E R c1 c2 h1 h2 fun v u s' k r₁ r₂ E' => ?_), fun _ l' hl => wpAny_BinOp (two_ops ha hb E R c1 c2 h1 h2 fun v u s' k r₁ r₂ E' => ?_)⟩
  · exact after k (Evl.rl (binop_ok E'.st.live hz r₁.lo r₂.lo).1)
  · exact afterN k ((binop_ok E'.st.live hz r₁.lo r₂.lo).2 l' hl)

theorem cmp_core {op : CmpOp} {a b : X} (ha : EvOK W a) (hb : EvOK W b) {o : Bool} {e : Expr} {t : Bool} (hc : chk W.g o cx (.cmp op a b) e = true)
    (hz : (ev W.F ρ a).bind (fun x => (ev W.F ρ b).bind fun y => cmpop op x y) = some t) (E : EF W.B W.g.C cx env ms s.heap ρ) (R : Rm A W.d) :
    ∃ l r p, e = .Compare l [op] [r] p ∧ behindInMarks op r = false ∧
      wpAny (model W.prog W.w) A (eval l env) (fun v s₁ => wpAny (model W.prog W.w) A (eval r env) (fun u s₂ => wpAny (model W.prog W.w) A (compareOp op v u) (fun c s' => Keeps s s' ∧ c = .bool t) (fun _ _ => False) s₂) (fun _ _ => False) s₁) (fun _ _ => False) s := by
  obtain ⟨x, h1, hz⟩ := Option.bind_eq_some_iff.mp hz
  obtain ⟨y, h2, hz⟩ := Option.bind_eq_some_iff.mp hz
  refine eCmp_c hc fun l ops rs p hc => one_c hc fun op' hc => one_c hc fun r hc => ?_
  simp only [Bool.and_eq_true, beq_iff_eq, Bool.not_eq_true'] at hc
  obtain ⟨⟨⟨rfl, c1⟩, c2⟩, c3⟩ := hc
  exact ⟨l, r, p, rfl, c3, two_ops ha hb E R c1 c2 h1 h2 fun v u s' k r₁ r₂ E' => after k (cmpop_ok R hz r₁.lo r₂.lo)⟩

theorem cmp_ok {op : CmpOp} {a b : X} (ha : EvOK W a) (hb : EvOK W b) : EvOK W (.cmp op a b) := by
  intro o cx e env A ms s ρ z hc hz E R
  refine ⟨?_, fun h => by cases h⟩
  simp only [ev_q1, ev_q2, ev_q3, ev_q4, ev_q5, ev_q6, ev_q7, ev_q8, ev_q9, ev_q10, ev_q11, ev_q12, ev_q13, ev_q14, ev_q15, ev_q16, ev_q17, ev_q18, ev_q19, ev_q20, ev_q21, ev_q22, ev_q23, ev_q24, ev_q25, ev_q26, ev_q27, ev_q28] at hz
  have hz' : ∃ t, (ev W.F ρ a).bind (fun x => (ev W.F ρ b).bind fun y => cmpop op x y) = some t ∧ z = .bool t := by
    obtain ⟨x, h1, hz⟩ := Option.bind_eq_some_iff.mp hz
    obtain ⟨y, h2, hz⟩ := Option.bind_eq_some_iff.mp hz
    obtain ⟨t, h3, rfl⟩ := Option.map_eq_some_iff.mp hz
    exact ⟨t, by rw [h1, Option.bind_some, h2, Option.bind_some, h3], rfl⟩
  obtain ⟨t, hz', rfl⟩ := hz'
  obtain ⟨l, r, p, rfl, hm, h⟩ := cmp_core ha hb hc hz' E R
  refine wpAny_Compare1 (wpAny_mono h (fun v s₁ h₁ => wpAny_mono h₁ (fun u s₂ h₂ => wpAny_mono h₂ (fun c s₃ h₃ => ⟨h₃.1, ?_⟩) fun _ _ x => x) fun _ _ x => x) fun _ _ x => x) hm
  rw [h₃.2]; exact Rep.rl (by simp only [Rep_q1, Rep_q2, Rep_q3, Rep_q4, Rep_q5, Rep_q6, Rep_q7, Rep_q8, Rep_q9])
theorem cmp_tst {op : CmpOp} {a b : X} (ha : EvOK W a) (hb : EvOK W b) : TstOK W (.cmp op a b) := by
  intro cx e env A ms s ρ t hc hz E R
  simp only [tst_q1, tst_q2, tst_q3, tst_q4, tst_q5, tst_q6, tst_q7, tst_q8, tst_q9, tst_q10, tst_q11, tst_q12] at hz
  obtain ⟨l, r, p, rfl, hm, h⟩ := cmp_core ha hb hc hz E R
  refine wpAny_isTrue_Compare1 (wpAny_mono h (fun v s₁ h₁ => wpAny_mono h₁ (fun u s₂ h₂ => wpAny_mono h₂ (fun c s₃ h₃ => ?_) fun _ _ x => x) fun _ _ x => x) fun _ _ x => x) hm
  rw [h₃.2]; exact wpAny_truthy_bool ⟨h₃.1, rfl⟩

theorem neg_ok {a : X} (ha : EvOK W a) : EvOK W (.neg a) := by
  intro o cx e env A ms s ρ z hc hz E R
  refine ⟨?_, fun h => by cases h⟩
  simp only [ev_q1, ev_q2, ev_q3, ev_q4, ev_q5, ev_q6, ev_q7, ev_q8, ev_q9, ev_q10, ev_q11, ev_q12, ev_q13, ev_q14, ev_q15, ev_q16, ev_q17, ev_q18, ev_q19, ev_q20, ev_q21, ev_q22, ev_q23, ev_q24, ev_q25, ev_q26, ev_q27, ev_q28] at hz
  obtain ⟨x, h1, hz⟩ := Option.bind_eq_some_iff.mp hz
  refine eUn_c hc fun uo y p hc => and_c hc fun hu hc => beq_c hu ?_
  split at hz
  · rename_i i
    cases hz
    refine wpAny_UnaryOp (seqEv (ha _ _ _ _ _ _ _ _ _ hc h1 E R).1 fun v _ k r => ?_)
    obtain ⟨t, rfl⟩ := r.lo.int
    exact neg_int ⟨Keeps.trans k (Keeps.toks _ _), Rep.rl (by simp only [Rep_q1, Rep_q2, Rep_q3, Rep_q4, Rep_q5, Rep_q6, Rep_q7, Rep_q8, Rep_q9]; exact ⟨_, rfl⟩)⟩
  · cases hz
end
end Mine
end
section
set_option maxRecDepth 100000
set_option backward.match.sparseCases false
namespace Mine
open PySem PySem.W PyProof.Rows PySem.Calls PySem.SeqAt

section
variable {W : Wd} (O : WOK W) {cx : Cx} {env : Env} {A : Around} {ms : List Addr} {s : Shared} {ρ : List V}

theorem no_ok {a : X} (ha : EvOK W a) : EvOK W (.no a) := by
  intro o cx e env A ms s ρ z hc hz E R
  refine ⟨?_, fun h => by cases h⟩
  simp only [ev_q1, ev_q2, ev_q3, ev_q4, ev_q5, ev_q6, ev_q7, ev_q8, ev_q9, ev_q10, ev_q11, ev_q12, ev_q13, ev_q14, ev_q15, ev_q16, ev_q17, ev_q18, ev_q19, ev_q20, ev_q21, ev_q22, ev_q23, ev_q24, ev_q25, ev_q26, ev_q27, ev_q28] at hz
  obtain ⟨x, h1, hz⟩ := Option.bind_eq_some_iff.mp hz
  obtain ⟨t, h2, rfl⟩ := Option.map_eq_some_iff.mp hz
  refine eUn_c hc fun uo y p hc => and_c hc fun hu hc => ?_
  obtain rfl := beq_iff_eq.mp hu
  refine wpAny_UnaryOp (seqEv (ha _ _ _ _ _ _ _ _ _ hc h1 E R).1 fun v s₁ k r => ?_)
  refine not_of (seqEv (truthy_ok h2 r.lo) fun b s₂ k₂ hb => ?_)
  subst hb
  exact ⟨Keeps.trans k k₂, Rep.rl (by simp only [Rep_q1, Rep_q2, Rep_q3, Rep_q4, Rep_q5, Rep_q6, Rep_q7, Rep_q8, Rep_q9])⟩
theorem no_tst {a : X} (ha : TstOK W a) : TstOK W (.no a) := by
  intro cx e env A ms s ρ t hc hz E R
  simp only [tst_q1, tst_q2, tst_q3, tst_q4, tst_q5, tst_q6, tst_q7, tst_q8, tst_q9, tst_q10, tst_q11, tst_q12] at hz
  obtain ⟨b, h1, rfl⟩ := Option.map_eq_some_iff.mp hz
  refine eUn_c hc fun uo y p hc => and_c hc fun hu hc => ?_
  obtain rfl := beq_iff_eq.mp hu
  exact wpAny_isTrue_Not (seqEv (ha _ _ _ _ _ _ _ _ hc h1 E R) fun b' s₁ k hb => ⟨k, by rw [hb]⟩)

theorem and2_ok {a b : X} (ha : EvOK W a) (hb : EvOK W b) : EvOK W (.and2 a b) := by
  intro o cx e env A ms s ρ z hc hz E R
  refine ⟨?_, fun h => by cases h⟩
  simp only [ev_q1, ev_q2, ev_q3, ev_q4, ev_q5, ev_q6, ev_q7, ev_q8, ev_q9, ev_q10, ev_q11, ev_q12, ev_q13, ev_q14, ev_q15, ev_q16, ev_q17, ev_q18, ev_q19, ev_q20, ev_q21, ev_q22, ev_q23, ev_q24, ev_q25, ev_q26, ev_q27, ev_q28] at hz
  obtain ⟨x, h1, hz⟩ := Option.bind_eq_some_iff.mp hz
  obtain ⟨t, h2, hz⟩ := Option.bind_eq_some_iff.mp hz
  refine eBool_c hc fun bo es p hc => and_c hc fun hu hc => two_c hc fun x' y' hd => ?_
  obtain rfl := beq_iff_eq.mp hu
  have hc := hd
  rw [Bool.and_eq_true] at hc
  refine wpAny_And2 (seqEv (ha _ _ _ _ _ _ _ _ _ hc.1 h1 E R).1 fun v s₁ k r => seqEv (truthy_ok h2 r.lo) fun t' s₂ k₂ ht => ?_)
  subst ht
  have k' := Keeps.trans k k₂
  cases t' with
  | true => exact after k' (seqEv (hb false _ _ _ _ _ _ _ _ hc.2 hz (E.keeps (Keeps.heap k')) R).1 fun v s₃ k₃ r₃ => ⟨k₃, Rep.rl r₃⟩)
  | false =>
    cases hz
    exact ⟨k', (Rep.rl r).keeps (Keeps.heap k₂)⟩
theorem or2_ok {a b : X} (ha : EvOK W a) (hb : EvOK W b) : EvOK W (.or2 a b) := by
  intro o cx e env A ms s ρ z hc hz E R
  refine ⟨?_, fun h => by cases h⟩
  simp only [ev_q1, ev_q2, ev_q3, ev_q4, ev_q5, ev_q6, ev_q7, ev_q8, ev_q9, ev_q10, ev_q11, ev_q12, ev_q13, ev_q14, ev_q15, ev_q16, ev_q17, ev_q18, ev_q19, ev_q20, ev_q21, ev_q22, ev_q23, ev_q24, ev_q25, ev_q26, ev_q27, ev_q28] at hz
  obtain ⟨x, h1, hz⟩ := Option.bind_eq_some_iff.mp hz
  obtain ⟨t, h2, hz⟩ := Option.bind_eq_some_iff.mp hz
  refine eBool_c hc fun bo es p hc => and_c hc fun hu hc => two_c hc fun x' y' hd => ?_
  obtain rfl := beq_iff_eq.mp hu
  have hc := hd
  rw [Bool.and_eq_true] at hc
  refine wpAny_Or2 (seqEv (ha _ _ _ _ _ _ _ _ _ hc.1 h1 E R).1 fun v s₁ k r => seqEv (truthy_ok h2 r.lo) fun t' s₂ k₂ ht => ?_)
  subst ht
  have k' := Keeps.trans k k₂
  cases t' with
  | false => exact after k' (seqEv (hb false _ _ _ _ _ _ _ _ hc.2 hz (E.keeps (Keeps.heap k')) R).1 fun v s₃ k₃ r₃ => ⟨k₃, Rep.rl r₃⟩)
  | true =>
    cases hz
    exact ⟨k', (Rep.rl r).keeps (Keeps.heap k₂)⟩

theorem ite_ok {c a b : X} (hcx : TstOK W c) (ha : EvOK W a) (hb : EvOK W b) : EvOK W (.ite c a b) := by
  intro o cx e env A ms s ρ z hc hz E R
  refine ⟨?_, fun h => by cases h⟩
  simp only [ev_q1, ev_q2, ev_q3, ev_q4, ev_q5, ev_q6, ev_q7, ev_q8, ev_q9, ev_q10, ev_q11, ev_q12, ev_q13, ev_q14, ev_q15, ev_q16, ev_q17, ev_q18, ev_q19, ev_q20, ev_q21, ev_q22, ev_q23, ev_q24, ev_q25, ev_q26, ev_q27, ev_q28] at hz
  obtain ⟨t, h1, hz⟩ := Option.bind_eq_some_iff.mp hz
  refine eIf_c hc fun t' x' y' p hc => ?_
  simp only [Bool.and_eq_true] at hc
  refine wpAny_IfExp (seqEv (hcx _ _ _ _ _ _ _ _ hc.1.1 h1 E R) fun b' s₁ k hb' => ?_)
  subst hb'
  cases b' with
  | true => exact after k (seqEv (ha false _ _ _ _ _ _ _ _ hc.1.2 hz (E.keeps (Keeps.heap k)) R).1 fun v s₃ k₃ r₃ => ⟨k₃, Rep.rl r₃⟩)
  | false => exact after k (seqEv (hb false _ _ _ _ _ _ _ _ hc.2 hz (E.keeps (Keeps.heap k)) R).1 fun v s₃ k₃ r₃ => ⟨k₃, Rep.rl r₃⟩)
theorem ite_tst {c a b : X} (hcx : TstOK W c) (ha : TstOK W a) (hb : TstOK W b) : TstOK W (.ite c a b) := by
  intro cx e env A ms s ρ z hc hz E R
  simp only [tst_q1, tst_q2, tst_q3, tst_q4, tst_q5, tst_q6, tst_q7, tst_q8, tst_q9, tst_q10, tst_q11, tst_q12] at hz
  obtain ⟨t, h1, hz⟩ := Option.bind_eq_some_iff.mp hz
  refine eIf_c hc fun t' x' y' p hc => ?_
  simp only [Bool.and_eq_true] at hc
  show wpAny _ _ (PySem.isTrue _ _ _) _ _ _
  rw [arm_isTrue_IfExp]
  refine wpAny_bind (seqEv (hcx _ _ _ _ _ _ _ _ hc.1.1 h1 E R) fun b' s₁ k hb' => ?_)
  subst hb'
  cases b' with
  | true => exact after k (ha _ _ _ _ _ _ _ _ hc.1.2 hz (E.keeps (Keeps.heap k)) R)
  | false => exact after k (hb _ _ _ _ _ _ _ _ hc.2 hz (E.keeps (Keeps.heap k)) R)

theorem nil_evs : EvsOK W .nil := by
  intro o cx es env A ms s ρ zs hc hz E R
  simp only [evs_q1, evs_q2, Option.some.injEq] at hz
  subst hz
  refine nil_c hc ?_
  exact spliced_nil ⟨Keeps.refl _, RLs.nil⟩
theorem cons_evs {a r : X} (ha : EvOK W a) (hr : EvsOK W r) : EvsOK W (.cons a r) := by
  intro o cx es env A ms s ρ zs hc hz E R
  simp only [evs_q1, evs_q2] at hz
  obtain ⟨x, h1, hz⟩ := Option.bind_eq_some_iff.mp hz
  obtain ⟨xs, h2, rfl⟩ := Option.map_eq_some_iff.mp hz
  refine chks_c hc fun e es c1 c2 => ?_
  refine spliced_cons (seqEv (ha _ _ _ _ _ _ _ _ _ c1 h1 E R).1 fun v s₁ k r₁ => seqEv (hr _ _ _ _ _ _ _ _ _ c2 h2 (E.keeps (Keeps.heap k)) R) fun vs s₂ k₂ r₂ => ?_)
  exact ⟨Keeps.trans k k₂, RLs.cons (r₁.keeps (Keeps.heap k₂)) r₂⟩

theorem list_ok {as : X} (h : EvsOK W as) : EvOK W (.list as) := by
  intro o cx e env A ms s ρ z hc hz E R
  simp only [ev_q1, ev_q2, ev_q3, ev_q4, ev_q5, ev_q6, ev_q7, ev_q8, ev_q9, ev_q10, ev_q11, ev_q12, ev_q13, ev_q14, ev_q15, ev_q16, ev_q17, ev_q18, ev_q19, ev_q20, ev_q21, ev_q22, ev_q23, ev_q24, ev_q25, ev_q26, ev_q27, ev_q28] at hz
  obtain ⟨xs, h1, hz⟩ := Option.bind_eq_some_iff.mp hz
  split at hz
  · rename_i hl
    cases hz
    refine eList_c hc fun es p hc => ?_
    have core : EvN W.prog W.w A W.g.C ms (eval (.List es p) env) xs s := by
      rw [show EvN W.prog W.w A W.g.C ms (eval (.List es p) env) xs s = wpAny (model W.prog W.w) A (eval (.List es p) env) _ _ s from rfl, arm_eval_List, chks_plain hc]
      refine wpAny_bind (wpAny_standAt (wpAny_bind (seqEv (h _ _ _ _ _ _ _ _ _ hc h1 E R) fun vs s₁ k r => ?_)))
      exact afterN k (newList_ok r hl)
    exact ⟨Evl.rl (core.ev E.st.live), fun _ l e => by cases e; exact core⟩
  · cases hz
theorem tup_ok {as : X} (h : EvsOK W as) : EvOK W (.tup as) := by
  intro o cx e env A ms s ρ z hc hz E R
  refine ⟨?_, fun h => by cases h⟩
  simp only [ev_q1, ev_q2, ev_q3, ev_q4, ev_q5, ev_q6, ev_q7, ev_q8, ev_q9, ev_q10, ev_q11, ev_q12, ev_q13, ev_q14, ev_q15, ev_q16, ev_q17, ev_q18, ev_q19, ev_q20, ev_q21, ev_q22, ev_q23, ev_q24, ev_q25, ev_q26, ev_q27, ev_q28] at hz
  obtain ⟨xs, h1, hz⟩ := Option.bind_eq_some_iff.mp hz
  split at hz
  · rename_i hl
    cases hz
    refine eTup_c hc fun es k p hc => ?_
    rw [arm_eval_Tuple, chks_plain hc]
    refine wpAny_bind (wpAny_standAt (wpAny_bind (seqEv (h _ _ _ _ _ _ _ _ _ hc h1 E R) fun vs s₁ k r => ?_)))
    exact after k (Evl.rl (newTuple_ok (E.st.live.keeps (Keeps.heap k)) r hl))
  · cases hz

theorem repl_ok {as b : X} (h : EvsOK W as) (hb : EvOK W b) : EvOK W (.repl as b) := by
  intro o cx e env A ms s ρ z hc hz E R
  simp only [ev_q1, ev_q2, ev_q3, ev_q4, ev_q5, ev_q6, ev_q7, ev_q8, ev_q9, ev_q10, ev_q11, ev_q12, ev_q13, ev_q14, ev_q15, ev_q16, ev_q17, ev_q18, ev_q19, ev_q20, ev_q21, ev_q22, ev_q23, ev_q24, ev_q25, ev_q26, ev_q27, ev_q28] at hz
  obtain ⟨xs, h1, hz⟩ := Option.bind_eq_some_iff.mp hz
  obtain ⟨y, h2, hz⟩ := Option.bind_eq_some_iff.mp hz
  split at hz
  · rename_i n
    split at hz
    · rename_i hl
      cases hz
      refine eBin_c hc fun l op r p' hc => and_c hc fun hc c1 => and_c hc fun hu c2 => eList_c c1 fun es p c1 => ?_
      obtain rfl := beq_iff_eq.mp hu
      skip
      have core : EvN W.prog W.w A W.g.C ms (eval (.BinOp (.List es p) .Mult r p') env) (Mine.rep n.toNat xs) s := by
        refine wpAny_BinOp ?_
        rw [arm_eval_List, chks_plain c1]
        refine wpAny_bind (wpAny_standAt (wpAny_bind (seqEv (h _ _ _ _ _ _ _ _ _ c1 h1 E R) fun vs s₁ k r₁ => ?_)))
        have r₁ : Reps W.g.C (hid ms s₁.heap) xs vs := r₁
        have E₁ := E.keeps (Keeps.heap k)
        refine wpAny_newList ?_ (by rw [r₁.length]; exact Nat.le_trans hl.1 (by decide))
        have kp := Keeps.push s₁ { cls := .type "list", data := .seq vs.toArray }
        have k1 := Keeps.trans k kp
        have E₂ := E₁.keeps (Keeps.heap kp)
        refine seqEv (hb _ _ _ _ _ _ _ _ _ c2 h2 E₂ R).1 fun u s₃ k₃ r₃ => ?_
        obtain ⟨t, rfl⟩ := r₃.lo.int
        refine afterN (Keeps.trans k1 k₃) (repeat_ok (k := 0) (Keeps.heap k₃ _ _ (Heap.get?_push_size _ rfl)) ?_ hl.2.1 hl.2.2)
        exact Reps.mono (hid_mono (Keeps.heap (Keeps.trans kp k₃))) _ _ r₁
      exact ⟨Evl.rl (core.ev E.st.live), fun _ l e => by cases e; exact core⟩
    · cases hz
  · cases hz

theorem item_ok {a i : X} (ha : EvOK W a) (hi : EvOK W i) : EvOK W (.item a i) := by
  intro o cx e env A ms s ρ z hc hz E R
  refine ⟨?_, fun h => by cases h⟩
  simp only [ev_q1, ev_q2, ev_q3, ev_q4, ev_q5, ev_q6, ev_q7, ev_q8, ev_q9, ev_q10, ev_q11, ev_q12, ev_q13, ev_q14, ev_q15, ev_q16, ev_q17, ev_q18, ev_q19, ev_q20, ev_q21, ev_q22, ev_q23, ev_q24, ev_q25, ev_q26, ev_q27, ev_q28] at hz
  obtain ⟨x, h1, hz⟩ := Option.bind_eq_some_iff.mp hz
  obtain ⟨y, h2, hz⟩ := Option.bind_eq_some_iff.mp hz
  refine eSub_c hc fun v j p hc => ?_
  simp only [Bool.and_eq_true] at hc
  exact sub_any (two_ops ha hi E R hc.1.1 hc.1.2 h1 h2 fun v u s' k r₁ r₂ E' => ⟨lo_type r₁.lo (.inl hz), after k (Evl.rl (itemV_ok hz r₁.lo r₂.lo))⟩)

end

section
variable {W : Wd} (O : WOK W) {cx : Cx} {env : Env} {A : Around} {ms : List Addr} {s : Shared} {ρ : List V}

theorem ents_find {C : Addr} {g : View} : ∀ {l : List V} {ns : List Str} {es : List DictEntry} {i : Nat} {n : Str} {x : V}, ns.Nodup → Ents C g l ns es → ns[i]? = some n → l[i]? = some x →
    ∃ e, es.find? (·.key.isStr n) = some e ∧ Rep C g x e.val
  | [], _, _, i, _, _, _, _, _, e => by simp at e
  | y :: ys, ns, es, i, n, x, hn, h, h1, h2 => by
    simp only [Ents_q1, Ents_q2] at h
    obtain ⟨m, ns', e, es', rfl, rfl, ⟨t, hk⟩, hr, h⟩ := h
    obtain ⟨hm, hn⟩ := List.nodup_cons.mp hn
    cases i with
    | zero =>
      simp at h1 h2; subst h1 h2
      refine ⟨e, ?_, hr⟩
      rw [List.find?_cons]
      simp [hk, Value.isStr]
    | succ i =>
      simp at h1 h2
      obtain ⟨e', f1, f2⟩ := ents_find hn h h1 h2
      refine ⟨e', ?_, f2⟩
      rw [List.find?_cons]
      have this : (m == n) = false := by
        simp only [beq_eq_false_iff_ne]; intro q; subst q; exact hm (List.mem_of_getElem? h1)
      have q : e.key.isStr n = false := by rw [hk]; exact this
      rw [q]
      exact f1
theorem ents_miss {C : Addr} {g : View} : ∀ {l : List V} {ns : List Str} {es : List DictEntry} {n : Str}, n ∉ ns → Ents C g l ns es → es.find? (·.key.isStr n) = none ∧ es.any (·.refKey) = false
  | [], _, _, _, _, h => by simp only [Ents_q1, Ents_q2] at h; subst h; simp
  | y :: ys, ns, es, n, hn, h => by
    simp only [Ents_q1, Ents_q2] at h
    obtain ⟨m, ns', e, es', rfl, rfl, ⟨t, hk⟩, hr, h⟩ := h
    obtain ⟨f1, f2⟩ := ents_miss (fun q => hn (List.mem_cons_of_mem _ q)) h
    have this : (m == n) = false := by
      simp only [beq_eq_false_iff_ne]; intro q; subst q; exact hn (by simp)
    have q : e.key.isStr n = false := by rw [hk]; exact this
    refine ⟨?_, ?_⟩
    · rw [List.find?_cons, q]; exact f1
    · rw [List.any_cons, f2]; simp [DictEntry.refKey, hk]
theorem attrN_nodup : attrN.Nodup := by decide +kernel

theorem rep_handed {C : Addr} {g : View} {x : V} {v : Value} (r : Rep C g x v) : handedIn v = true := by
  cases x <;> simp only [Rep_q1, Rep_q2, Rep_q3, Rep_q4, Rep_q5, Rep_q6, Rep_q7, Rep_q8, Rep_q9] at r
  · subst r; rfl
  · subst r; rfl
  · obtain ⟨t, rfl⟩ := r; rfl
  · obtain ⟨_, t, rfl⟩ := r; rfl
  · obtain ⟨a, _, _, _, rfl, _⟩ := r; rfl
  · obtain ⟨a, _, _, _, rfl, _⟩ := r; rfl
  · obtain ⟨a, _, _, _, rfl, _⟩ := r; rfl
  · obtain ⟨a, _, _, _, rfl, _⟩ := r; rfl

theorem inst_at {C x dx : Addr} {es : List DictEntry} {n : Nat} {h : Heap} (h1 : h.get? x = some (instObj C dx)) (h2 : h.get? dx = some { cls := .type "dict", data := .dict (List.toArray es) n }) :
    InstAt h x (instObj C dx) C (some (dictOf es n)) := ⟨h1, rfl, rfl, h2⟩

include O in
theorem fld_ok {a : X} {i : Nat} (ha : EvOK W a) : EvOK W (.fld a i) := by
  intro o cx e env A ms s ρ z hc hz E R
  refine ⟨?_, fun h => by cases h⟩
  simp only [ev_q1, ev_q2, ev_q3, ev_q4, ev_q5, ev_q6, ev_q7, ev_q8, ev_q9, ev_q10, ev_q11, ev_q12, ev_q13, ev_q14, ev_q15, ev_q16, ev_q17, ev_q18, ev_q19, ev_q20, ev_q21, ev_q22, ev_q23, ev_q24, ev_q25, ev_q26, ev_q27, ev_q28] at hz
  obtain ⟨x, h1, hz⟩ := Option.bind_eq_some_iff.mp hz
  refine eAttr_c hc fun v n p hc => ?_
  simp only [Bool.and_eq_true, beq_iff_eq] at hc
  obtain ⟨⟨c1, c2⟩, c3⟩ := hc
  split at hz
  · rename_i l
    refine attr_any c3 (seqEv (ha _ _ _ _ _ _ _ _ _ c2 h1 E R).1 fun ov s₁ k r => ?_)
    obtain ⟨x', dx, es, m, rfl, g1, g2, g3⟩ := (show Lo W.g.C ms s₁.heap (.inst l) ov from r.lo)
    obtain ⟨en, f1, f2⟩ := ents_find attrN_nodup g3 c1 hz
    have hl : lookIn n (dictOf es m) = some (some en.val) := by
      unfold lookIn
      dsimp only
      rw [f1]
    have E₁ := E.keeps (Keeps.heap k)
    refine get_value (O.X.keeps E₁.st.base) (inst_at g1 g2) O.G.get.1 (findObj_own O.G.dict (O.G.attr n (List.mem_of_getElem? c1)) rfl hl) (rep_handed f2) ?_
    exact ⟨Keeps.trans k (Keeps.toks _ _), Rep.rl f2⟩
  · cases hz

end
end Mine
end
section
set_option maxRecDepth 100000
set_option backward.match.sparseCases false
namespace Mine
open PySem PySem.W PyProof.Rows PySem.Calls PySem.SeqAt

section
variable {W : Wd} (O : WOK W) {cx : Cx} {env : Env} {A : Around} {ms : List Addr} {s : Shared} {ρ : List V}

theorem non_ok : EvOK W .non := by
  intro o cx e env A ms s ρ z hc
  exact absurd hc Bool.false_ne_true

theorem p_ev {x : X} (hx : EvOK W x) {oe : Option Expr} {z : V} (hc : chkP W.g cx x oe = true) (hz : ev W.F ρ x = some z) (E : EF W.B W.g.C cx env ms s.heap ρ) (R : Rm A W.d) :
    wpAny (model W.prog W.w) A (evalPart oe env) (fun v s' => Keeps s s' ∧ Rep W.g.C (hid ms s'.heap) z v) (fun _ _ => False) s := by
  cases oe with
  | none =>
    have hc : isNon x = true := hc
    cases x with
    | non =>
      obtain rfl : V.none = z := Option.some.inj hz
      exact evalPart_none_step ⟨Keeps.refl _, (rfl : Value.none = .none)⟩
    | _ => exact absurd hc Bool.false_ne_true
  | some e => exact evalPart_some_step (hx _ _ _ _ _ _ _ _ _ (show chk W.g false cx x e = true from hc) hz E R).1

theorem sl_core {a lo hi st : X} (ha : EvOK W a) (hl : EvOK W lo) (hh : EvOK W hi) (hs : EvOK W st) {o : Bool} {e : Expr} {z : V} (hc : chk W.g o cx (.sl a lo hi st) e = true)
    (hz : ((ev W.F ρ a).bind fun x => (ev W.F ρ lo).bind fun l => (ev W.F ρ hi).bind fun h => (ev W.F ρ st).bind fun s => slV x l h s) = some z) (E : EF W.B W.g.C cx env ms s.heap ρ) (R : Rm A W.d) :
    Evl W.prog W.w A W.g.C ms (eval e env) z s := by
  obtain ⟨x, h1, hz⟩ := Option.bind_eq_some_iff.mp hz
  obtain ⟨l, h2, hz⟩ := Option.bind_eq_some_iff.mp hz
  obtain ⟨h, h3, hz⟩ := Option.bind_eq_some_iff.mp hz
  obtain ⟨t, h4, hz⟩ := Option.bind_eq_some_iff.mp hz
  refine eSub_c hc fun v j p' hc => and_c hc fun c1 hc => eSlice_c hc fun le ue te p hc => ?_
  simp only [Bool.and_eq_true] at hc
  obtain ⟨⟨c2, c3⟩, c4⟩ := hc
  refine sub_any (seqEv (ha _ _ _ _ _ _ _ _ _ c1 h1 E R).1 fun ov s₁ k₁ r₁ => wpAny_Slice ?_)
  have E₁ := E.keeps (Keeps.heap k₁)
  refine seqEv (p_ev hl (oe := le) c2 h2 E₁ R) fun lv s₂ k₂ r₂ => ?_
  have E₂ := E₁.keeps (Keeps.heap k₂)
  refine seqEv (p_ev hh c3 h3 E₂ R) fun hv s₃ k₃ r₃ => ?_
  have E₃ := E₂.keeps (Keeps.heap k₃)
  refine seqEv (p_ev hs c4 h4 E₃ R) fun tv s₄ k₄ r₄ => ?_
  have E₄ := E₃.keeps (Keeps.heap k₄)
  have kp := Keeps.push s₄ { cls := .type "slice", data := .fields #[lv, hv, tv] }
  have ka := Keeps.trans k₁ (Keeps.trans k₂ (Keeps.trans k₃ (Keeps.trans k₄ kp)))
  have r₁' := (r₁.keeps (Keeps.heap (Keeps.trans k₂ (Keeps.trans k₃ (Keeps.trans k₄ kp))))).lo
  refine ⟨lo_type (y := .none) r₁' (.inr ⟨_, _, _, hz⟩), after ka ?_⟩
  unfold slV at hz
  obtain ⟨pl, g1, hz⟩ := Option.bind_eq_some_iff.mp hz
  obtain ⟨ph, g2, hz⟩ := Option.bind_eq_some_iff.mp hz
  obtain ⟨pt, g3, hz⟩ := Option.bind_eq_some_iff.mp hz
  have q1 := part_ok g1 r₂.lo
  have q2 := part_ok g2 r₃.lo
  have q3 := part_ok g3 r₄.lo
  have hsl := Heap.IsSliceOf.new s₄.heap lv hv tv
  split at hz
  · split at hz
    · rename_i hq
      cases hz
      obtain ⟨la, lo', vs, n, rfl, f1, f2, f3, f4⟩ := r₁'.list
      have core : ∀ l', Reps W.g.C (hid ms (s₄.heap.push { cls := .type "slice", data := .fields #[lv, hv, tv] })) l' vs → l'.length ≤ lim → EvN W.prog W.w A W.g.C ms (getItem (.ref la) (.ref s₄.heap.objs.size)) (pick l' pl ph pt) { s₄ with heap := s₄.heap.push { cls := .type "slice", data := .fields #[lv, hv, tv] } } := by
        intro l' f4 hq1
        refine wpAny_getItem_list_slice ⟨lo', f1, f2, n, f3⟩ hsl q1.1 q2.1 q3.1 hq.2 ?_ ?_
        · refine ⟨Keeps.push _ _, _, pick vs pl ph pt, 0, rfl, get_size _, ?_, ?_⟩
          · rw [slicePick_list]; exact Heap.get?_push_size _ rfl
          · exact Reps.mono (hid_cons (get_size _) fun _ _ e => Heap.get?_push_of_some _ e) _ _ (pick_reps f4 pl ph pt)
        · rw [List.size_toArray, f4.length]; exact Nat.le_trans hq1 (by decide)
      exact (core _ f4 hq.1).ev (E₄.st.live.keeps (Keeps.heap kp))
    · cases hz
  · rename_i l'
    split at hz
    · rename_i hq
      cases hz
      obtain ⟨f1, tk, rfl⟩ := r₁'.str
      obtain ⟨q, rfl, hq'⟩ := q3.2
      cases q with
      | some _ => simp at hq'
      | none => exact str_slice_ok f1 hq hsl q1.2 q2.2
    · cases hz
  · cases hz
theorem sl_ok {a lo hi st : X} (ha : EvOK W a) (hl : EvOK W lo) (hh : EvOK W hi) (hs : EvOK W st) : EvOK W (.sl a lo hi st) := by
  intro o cx e env A ms s ρ z hc hz E R
  refine ⟨?_, fun h => by cases h⟩
  simp only [ev_q1, ev_q2, ev_q3, ev_q4, ev_q5, ev_q6, ev_q7, ev_q8, ev_q9, ev_q10, ev_q11, ev_q12, ev_q13, ev_q14, ev_q15, ev_q16, ev_q17, ev_q18, ev_q19, ev_q20, ev_q21, ev_q22, ev_q23, ev_q24, ev_q25, ev_q26, ev_q27, ev_q28] at hz
  exact Evl.rl (sl_core ha hl hh hs hc hz E R)
theorem sl_tst {a lo hi st : X} (ha : EvOK W a) (hl : EvOK W lo) (hh : EvOK W hi) (hs : EvOK W st) : TstOK W (.sl a lo hi st) := by
  intro cx e env A ms s ρ b hc hz E R
  simp only [tst_q1, tst_q2, tst_q3, tst_q4, tst_q5, tst_q6, tst_q7, tst_q8, tst_q9, tst_q10, tst_q11, tst_q12] at hz
  obtain ⟨z, h1, h2⟩ := Option.bind_eq_some_iff.mp hz
  refine eSub_c hc fun v i p hc => ?_
  refine wpAny_isTrue_value ?_
  exact seqEv (sl_core (o := false) (cx := cx) (e := .Subscript v i p) ha hl hh hs hc h1 E R) fun v s₁ k r => after k (truthy_ok h2 r.lo)

theorem callB {M : Model} {pos : Pos} {f : BI} {args : List (Bool × Sem Value)} {Q : Value → Shared → Prop} {E : Value → Shared → Prop} (hplain : (args.any (·.1) || ([] : List (Option Str × Sem Value)).any (·.1.isNone)) = false)
    (h : wpAny M A (evalArgs (biF f) true args []) (fun a s₁ => True ∧ wpAny M A (call (biF f) ([] ++ a.pos) a.kw) Q E s₁) E s) : wpAny M A (callWith pos (biF f) [] args []) Q E s :=
  callWith_of (P := fun _ => True) hplain (fun _ _ => ⟨.machine, .inr (.inl rfl), by cases f <;> exact Looks.of_pure rfl⟩) h

theorem chks_one {g : Gx} {o : Bool} {as : X} {x : Expr} (h : chks g o cx as [x] = true) : ∃ u, as = .cons u .nil ∧ chk g o cx u x = true := by
  cases as with
  | cons u r =>
    refine and_c (show (chk g o cx u x && chks g o cx r []) = true from h) fun c5 c6 => ?_
    cases r with
    | nil => exact ⟨u, rfl, c5⟩
    | _ => exact absurd c6 Bool.false_ne_true
  | _ => exact absurd h Bool.false_ne_true
theorem star2 {g : Gx} {o : Bool} {u : X} {x : Expr} {b : Str} {p q : Pos} (h : chk g o cx u x = true) : backTo p (starEach [x, .Name b q] env) = [x, .Name b q].map fun e => (false, eval e env) := by
  cases x <;> first | rfl | exact absurd (chk_star.symm.trans h) Bool.false_ne_true
include O in
theorem bi_core {f : BI} {as : X} (h : EvsOK W as) (hu : ∀ u r, as = .cons u r → EvOK W u) {o : Bool} {e : Expr} {z : V} (hc : chk W.g o cx (.bi f as) e = true) (hz : (evs W.F ρ as).bind (biV f) = some z) (E : EF W.B W.g.C cx env ms s.heap ρ) (R : Rm A W.d) :
    Evl W.prog W.w A W.g.C ms (eval e env) z s ∧ (∀ l, f = .list → z = .list l → EvN W.prog W.w A W.g.C ms (eval e env) l s) := by
  obtain ⟨xs, h1, hz2⟩ := Option.bind_eq_some_iff.mp hz
  clear hz
  refine eCal_c hc fun fn es kw p' hc => and_c hc fun hk hc => nil_c hk (eName_c hc fun n p hc => and_c hc fun hc c2 => and_c hc fun hn c1 => ?_)
  obtain rfl := beq_iff_eq.mp hn
  cases hf : (f == BI.isBool) with
  | true =>
    rw [hf] at c2
    obtain rfl := beq_iff_eq.mp hf
    refine ⟨?_, fun l hl => by cases hl⟩
    refine two_c c2 fun x y c2 => eName_c c2 fun b p'' c2 => and_c c2 fun c2 c4 => and_c c2 fun hb c3 => ?_
    obtain rfl := beq_iff_eq.mp hb
    obtain ⟨u, rfl, c5⟩ := chks_one c4
    obtain ⟨x1, g1, h1⟩ := Option.bind_eq_some_iff.mp h1
    obtain ⟨xr, g2, rfl⟩ := Option.map_eq_some_iff.mp h1
    obtain rfl : [] = xr := Option.some.inj g2
    refine wpAny_Call_Name_kw (bi_name O E c1 (O.G.bi .isBool) (biBoot .isBool) (biNot .isBool) ?_)
    rw [star2 c5]
    refine callB (noStar _) (evalArgs_list (spliced_cons ?_))
    refine seqEv (hu u _ rfl _ _ _ _ _ _ _ _ _ c5 g1 E R).1 fun v s₁ k r => ?_
    have E₁ := E.keeps (Keeps.heap k)
    refine spliced_cons (bi_name O E₁ c3 O.G.bool boolBoot (by decide +kernel) (spliced_nil ⟨trivial, ?_⟩))
    exact after k (isBool_ok hz2 r.lo)
  | false =>
    rw [hf] at c2
    have hf : f ≠ BI.isBool := fun e => by rw [e] at hf; exact absurd hf (by decide)
    have c3 : chks W.g true cx as es = true := (Bool.and_eq_true_iff.mp c2).1
    have road : ∀ Q : Value → Shared → Prop, (∀ vs s', Keeps s s' → Los W.g.C ms s'.heap xs vs → wpAny (model W.prog W.w) A (call (biF f) vs) Q (fun _ _ => False) s') → wpAny (model W.prog W.w) A (eval (.Call (.Name (biName f) p) es [] p') env) Q (fun _ _ => False) s := by
      intro Q q
      refine wpAny_Call_Name_kw (bi_name O E c1 (O.G.bi f) (biBoot f) (biNot f) ?_)
      rw [chks_plain c3]
      refine callB (noStar es) (evalArgs_list (seqEv (h _ _ _ _ _ _ _ _ _ c3 h1 E R) fun vs s₁ k r => ⟨trivial, ?_⟩))
      exact q vs s₁ k r.los
    refine ⟨road _ fun vs s' k r => after k (bi_ok R.hd (E.st.live.keeps (Keeps.heap k)) hf hz2 r).1, fun l hl hzl => road _ fun vs s' k r => afterN k ((bi_ok R.hd (E.st.live.keeps (Keeps.heap k)) hf hz2 r).2 l hl hzl)⟩
include O in
theorem bi_ev {f : BI} {as : X} (h : EvsOK W as) (hu : ∀ u r, as = .cons u r → EvOK W u) : EvOK W (.bi f as) := by
  intro o cx e env A ms s ρ z hc hz E R
  simp only [ev_q1, ev_q2, ev_q3, ev_q4, ev_q5, ev_q6, ev_q7, ev_q8, ev_q9, ev_q10, ev_q11, ev_q12, ev_q13, ev_q14, ev_q15, ev_q16, ev_q17, ev_q18, ev_q19, ev_q20, ev_q21, ev_q22, ev_q23, ev_q24, ev_q25, ev_q26, ev_q27, ev_q28] at hz
  have q := bi_core O h hu hc hz E R
  refine ⟨Evl.rl q.1, fun hf l hl => q.2 l ?_ hl⟩
  cases f <;> first | rfl | cases hf
include O in
theorem bi_tst {f : BI} {as : X} (h : EvsOK W as) (hu : ∀ u r, as = .cons u r → EvOK W u) : TstOK W (.bi f as) := by
  intro cx e env A ms s ρ b hc hz E R
  simp only [tst_q1, tst_q2, tst_q3, tst_q4, tst_q5, tst_q6, tst_q7, tst_q8, tst_q9, tst_q10, tst_q11, tst_q12] at hz
  obtain ⟨z, h1, h2⟩ := Option.bind_eq_some_iff.mp hz
  refine eCal_c hc fun fn es kw p' hc => ?_
  exact wpAny_isTrue_value (seqEv (bi_core (o := false) (cx := cx) (e := .Call fn es kw p') O h hu hc h1 E R).1 fun v s₁ k r => after k (truthy_ok h2 r.lo))

theorem v_tst (i : Nat) : TstOK W (.v i) := by
  intro cx e env A ms s ρ b hc hz E R
  simp only [tst_q1, tst_q2, tst_q3, tst_q4, tst_q5, tst_q6, tst_q7, tst_q8, tst_q9, tst_q10, tst_q11, tst_q12] at hz
  obtain ⟨z, h1, h2⟩ := Option.bind_eq_some_iff.mp hz
  refine eName_c hc fun n p hc => ?_
  refine wpAny_isTrue_value (seqEv (v_ok i false cx (.Name n p) _ _ _ _ _ _ hc (by simp only [ev_q1, ev_q2, ev_q3, ev_q4, ev_q5, ev_q6, ev_q7, ev_q8, ev_q9, ev_q10, ev_q11, ev_q12, ev_q13, ev_q14, ev_q15, ev_q16, ev_q17, ev_q18, ev_q19, ev_q20, ev_q21, ev_q22, ev_q23, ev_q24, ev_q25, ev_q26, ev_q27, ev_q28]; exact h1) E R).1 fun v s₁ k r => after k (truthy_ok h2 r.lo))
include O in
theorem fld_tst {a : X} {i : Nat} (ha : EvOK W a) : TstOK W (.fld a i) := by
  intro cx e env A ms s ρ b hc hz E R
  simp only [tst_q1, tst_q2, tst_q3, tst_q4, tst_q5, tst_q6, tst_q7, tst_q8, tst_q9, tst_q10, tst_q11, tst_q12] at hz
  obtain ⟨z, h1, h2⟩ := Option.bind_eq_some_iff.mp hz
  refine eAttr_c hc fun v n p hc => ?_
  refine wpAny_isTrue_value (seqEv (fld_ok O ha false cx (.Attribute v n p) _ _ _ _ _ _ hc (by simp only [ev_q1, ev_q2, ev_q3, ev_q4, ev_q5, ev_q6, ev_q7, ev_q8, ev_q9, ev_q10, ev_q11, ev_q12, ev_q13, ev_q14, ev_q15, ev_q16, ev_q17, ev_q18, ev_q19, ev_q20, ev_q21, ev_q22, ev_q23, ev_q24, ev_q25, ev_q26, ev_q27, ev_q28]; exact h1) E R).1 fun v s₁ k r => after k (truthy_ok h2 r.lo))

/-- a call of a function or of the class -/
theorem callK {M : Model} {K : Frag} {pos : Pos} {f : Value} {first : List Value} {args : List (Bool × Sem Value)} {Q : Value → Shared → Prop} {E : Value → Shared → Prop} (hplain : (args.any (·.1) || ([] : List (Option Str × Sem Value)).any (·.1.isNone)) = false) (hk : keepIn K f = true)
    (h : wpAny M A (evalArgs f true args []) (fun a s₁ => K.In s₁.heap ∧ wpAny M A (call f (first ++ a.pos) a.kw) Q E s₁) E s) : wpAny M A (callWith pos f first args []) Q E s :=
  callWith_of (P := K.In) hplain (keeps_K hk) h

include O in
theorem fn_go {f : Nat} {u : Value} {n : Str} {p p' : Pos} {es : List Expr} {as : X} {o : Bool} {z : V} (h : EvsOK W as) (c1 : cx.glob n = true) (c3 : chks W.g false cx as es = true)
    (hu : W.g.fv.lookup f = some u) (hv : nsIn W.K mainGlobals n = some (some u)) (hz : (evs W.F ρ as).bind (W.F f) = some z) (E : EF W.B W.g.C cx env ms s.heap ρ) (R : Rm A W.d) :
    wpAny (model W.prog W.w) A (eval (.Call (.Name n p) es [] p') env) (fun v s' => Keeps s s' ∧ RL o W.g.C ms s'.heap z v) (fun _ _ => False) s := by
  obtain ⟨xs, h1, hz2⟩ := Option.bind_eq_some_iff.mp hz
  refine wpAny_Call_Name_kw (glob_name O E c1 hv ?_)
  rw [chks_plain c3]
  refine callK (noStar es) (O.G.keep _ _ hu) (evalArgs_list (seqEv (h _ _ _ _ _ _ _ _ _ c3 h1 E R) fun vs s₁ k r => ?_))
  have E₁ := E.keeps (Keeps.heap k)
  exact ⟨O.X.keeps E₁.st.base, after k (Evl.rl (O.f f u xs z A ms s₁ vs hu hz2 r E₁.st R))⟩
include O in
theorem fn_ev {f : Nat} {as : X} (h : EvsOK W as) : EvOK W (.fn f as) := by
  intro o cx e env A ms s ρ z hc hz E R
  refine ⟨?_, fun h => by cases h⟩
  simp only [ev_q1, ev_q2, ev_q3, ev_q4, ev_q5, ev_q6, ev_q7, ev_q8, ev_q9, ev_q10, ev_q11, ev_q12, ev_q13, ev_q14, ev_q15, ev_q16, ev_q17, ev_q18, ev_q19, ev_q20, ev_q21, ev_q22, ev_q23, ev_q24, ev_q25, ev_q26, ev_q27, ev_q28] at hz
  refine eCal_c hc fun fn es kw p' hc => and_c hc fun hk hc => nil_c hk (eName_c hc fun n p hc => ?_)
  simp only [Bool.and_eq_true, beq_iff_eq] at hc
  obtain ⟨⟨⟨c1, c2⟩, c3⟩, c4⟩ := hc
  obtain ⟨u, hu, hv⟩ := O.G.fns _ _ c2
  exact fn_go O h c1 c3 hu hv hz E R
include O in
theorem fn_tst {f : Nat} {as : X} (h : EvsOK W as) : TstOK W (.fn f as) := by
  intro cx e env A ms s ρ b hc hz E R
  simp only [tst_q1, tst_q2, tst_q3, tst_q4, tst_q5, tst_q6, tst_q7, tst_q8, tst_q9, tst_q10, tst_q11, tst_q12] at hz
  obtain ⟨z, h1, h2⟩ := Option.bind_eq_some_iff.mp hz
  refine eCal_c hc fun fn es kw p' hc => ?_
  refine wpAny_isTrue_value (seqEv (fn_ev O h false cx (.Call fn es kw p') _ _ _ _ _ _ hc (by simp only [ev_q1, ev_q2, ev_q3, ev_q4, ev_q5, ev_q6, ev_q7, ev_q8, ev_q9, ev_q10, ev_q11, ev_q12, ev_q13, ev_q14, ev_q15, ev_q16, ev_q17, ev_q18, ev_q19, ev_q20, ev_q21, ev_q22, ev_q23, ev_q24, ev_q25, ev_q26, ev_q27, ev_q28]; exact h1) E R).1 fun v s₁ k r => after k (truthy_ok h2 r.lo))
include O in
theorem new_ev {as : X} (h : EvsOK W as) : EvOK W (.new as) := by
  intro o cx e env A ms s ρ z hc hz E R
  refine ⟨?_, fun h => by cases h⟩
  simp only [ev_q1, ev_q2, ev_q3, ev_q4, ev_q5, ev_q6, ev_q7, ev_q8, ev_q9, ev_q10, ev_q11, ev_q12, ev_q13, ev_q14, ev_q15, ev_q16, ev_q17, ev_q18, ev_q19, ev_q20, ev_q21, ev_q22, ev_q23, ev_q24, ev_q25, ev_q26, ev_q27, ev_q28] at hz
  refine eCal_c hc fun fn es kw p' hc => and_c hc fun hk hc => nil_c hk (eName_c hc fun n p hc => ?_)
  simp only [Bool.and_eq_true, beq_iff_eq] at hc
  obtain ⟨⟨⟨c1, rfl⟩, c3⟩, c4⟩ := hc
  exact fn_go O h c1 c3 O.G.cls.2 O.G.cls.1 hz E R

include O in
theorem me_core {f : Nat} {a as : X} (ha : EvOK W a) (h : EvsOK W as) {o : Bool} {e : Expr} {z : V} (hc : chk W.g o cx (.me f a as) e = true)
    (hz : ((ev W.F ρ a).bind fun x => (evs W.F ρ as).bind fun xs => meV W.F f x xs) = some z) (E : EF W.B W.g.C cx env ms s.heap ρ) (R : Rm A W.d) :
    Evl W.prog W.w A W.g.C ms (eval e env) z s := by
  obtain ⟨x, h1, hz1⟩ := Option.bind_eq_some_iff.mp hz
  obtain ⟨xs, h2, hz2⟩ := Option.bind_eq_some_iff.mp hz1
  refine eCal_c hc fun fn es kw pos hc => and_c hc fun hk hc => nil_c hk (eAttr_c hc fun v n apos hc => ?_)
  simp only [Bool.and_eq_true, beq_iff_eq, decide_eq_true_eq] at hc
  obtain ⟨⟨⟨⟨⟨c1, c2⟩, c3⟩, c4⟩, c5⟩, c6⟩ := hc
  obtain ⟨fa, g1, g2, g3, g4⟩ := O.G.mes _ _ c1
  refine meth_any c4 (by rw [c5]; simp) c6 (chks_plain c3) (seqEv (ha _ _ _ _ _ _ _ _ _ c2 h1 E R).1 fun ov s₁ k r => ?_)
  have r : Rep W.g.C (hid ms s₁.heap) x ov := r
  have E₁ := E.keeps (Keeps.heap k)
  unfold meV at hz2
  split at hz2
  · rename_i l _
    obtain ⟨x', dx, en, m, rfl, q1, q2, q3⟩ := (show Lo W.g.C ms s₁.heap (.inst l) ov from r.lo)
    obtain ⟨f1, f2⟩ := ents_miss g4 q3
    have hl : shadowIn (some (dictOf en m)) n = some false := by
      unfold shadowIn lookIn
      dsimp only
      rw [f1]
      dsimp only
      rw [f2]
      rfl
    refine method_fn (O.X.keeps E₁.st.base) (inst_at q1 q2) O.G.get.1 O.G.get.2 g2 g3 hl ?_
    refine callK (noStar es) (O.G.keep _ _ g1) (evalArgs_list (seqEv (h _ _ _ _ _ _ _ _ _ c3 h2 E₁ R) fun vs s₂ k₂ r₂ => ?_))
    have E₂ := E₁.keeps (Keeps.heap k₂)
    exact ⟨O.X.keeps E₂.st.base, after (Keeps.trans k k₂) (O.f f _ _ z A ms s₂ _ g1 hz2 (Reps.cons (Rep.mono (hid_mono (Keeps.heap k₂)) _ _ r) r₂) E₂.st R)⟩
  · cases hz2
include O in
theorem me_ev {f : Nat} {a as : X} (ha : EvOK W a) (h : EvsOK W as) : EvOK W (.me f a as) := by
  intro o cx e env A ms s ρ z hc hz E R
  refine ⟨?_, fun h => by cases h⟩
  simp only [ev_q1, ev_q2, ev_q3, ev_q4, ev_q5, ev_q6, ev_q7, ev_q8, ev_q9, ev_q10, ev_q11, ev_q12, ev_q13, ev_q14, ev_q15, ev_q16, ev_q17, ev_q18, ev_q19, ev_q20, ev_q21, ev_q22, ev_q23, ev_q24, ev_q25, ev_q26, ev_q27, ev_q28] at hz
  exact Evl.rl (me_core O ha h hc hz E R)
include O in
theorem me_tst {f : Nat} {a as : X} (ha : EvOK W a) (h : EvsOK W as) : TstOK W (.me f a as) := by
  intro cx e env A ms s ρ b hc hz E R
  simp only [tst_q1, tst_q2, tst_q3, tst_q4, tst_q5, tst_q6, tst_q7, tst_q8, tst_q9, tst_q10, tst_q11, tst_q12] at hz
  obtain ⟨z, h1, h2⟩ := Option.bind_eq_some_iff.mp hz
  refine eCal_c hc fun fn es kw p' hc => ?_
  exact wpAny_isTrue_value (seqEv (me_core (o := false) (cx := cx) (e := .Call fn es kw p') O ha h hc h1 E R) fun v s₁ k r => after k (truthy_ok h2 r.lo))

theorem callS {M : Model} {pos : Pos} {f : SM} {first : List Value} {args : List (Bool × Sem Value)} {Q : Value → Shared → Prop} {E : Value → Shared → Prop} (hplain : (args.any (·.1) || ([] : List (Option Str × Sem Value)).any (·.1.isNone)) = false)
    (h : wpAny M A (evalArgs (smF f) true args []) (fun a s₁ => True ∧ wpAny M A (call (smF f) (first ++ a.pos) a.kw) Q E s₁) E s) : wpAny M A (callWith pos (smF f) first args []) Q E s :=
  callWith_of (P := fun _ => True) hplain (fun _ _ => ⟨.machine, .inr (.inl rfl), by cases f <;> exact Looks.of_pure rfl⟩) h
theorem smV_str {m : SM} {x z : V} {xs : List V} (h : smV m x xs = some z) : ∃ l, x = .str l := by
  have e : ∀ {f : List Nat → Option V}, s1 x f = some z → ∃ l, x = .str l := fun h => let ⟨l, e, _⟩ := s1_e h; ⟨l, e⟩
  cases m
  · exact e h
  · exact e h
  · exact e h
  · exact e h
theorem sm_ev {m : SM} {a as : X} (ha : EvOK W a) (h : EvsOK W as) : EvOK W (.sm m a as) := by
  intro o cx e env A ms s ρ z hc hz E R
  refine ⟨?_, fun h => by cases h⟩
  simp only [ev_q1, ev_q2, ev_q3, ev_q4, ev_q5, ev_q6, ev_q7, ev_q8, ev_q9, ev_q10, ev_q11, ev_q12, ev_q13, ev_q14, ev_q15, ev_q16, ev_q17, ev_q18, ev_q19, ev_q20, ev_q21, ev_q22, ev_q23, ev_q24, ev_q25, ev_q26, ev_q27, ev_q28] at hz
  obtain ⟨x, h1, hz1⟩ := Option.bind_eq_some_iff.mp hz
  obtain ⟨xs, h2, hz2⟩ := Option.bind_eq_some_iff.mp hz1
  refine eCal_c hc fun fn es kw pos hc => and_c hc fun hk hc => nil_c hk (eAttr_c hc fun v n apos hc => ?_)
  simp only [Bool.and_eq_true, beq_iff_eq, decide_eq_true_eq] at hc
  obtain ⟨⟨⟨⟨⟨rfl, c2⟩, c3⟩, c4⟩, c5⟩, c6⟩ := hc
  refine meth_any c4 (by rw [c5]; simp) c6 (chks_plain c3) (seqEv (ha _ _ _ _ _ _ _ _ _ c2 h1 E R).1 fun ov s₁ k r => ?_)
  have r : Rep W.g.C (hid ms s₁.heap) x ov := r
  have E₁ := E.keeps (Keeps.heap k)
  obtain ⟨l, rfl⟩ := smV_str hz2
  obtain ⟨hl, t, rfl⟩ := r.lo.str
  have go : ∀ Q : Value × List Value → Shared → Prop, Q (smF m, [.str ⟨l.toArray⟩ t]) s₁ → wpAny (model W.prog W.w) A (getMethod (.str ⟨l.toArray⟩ t) (smN m) (do return (← importBound v env).getD true)) Q (fun _ _ => False) s₁ := by
    intro Q q
    cases m
    · exact GM.join q
    · exact GM.split q
    · exact GM.lower q
    · exact GM.count q
  refine go _ ?_
  refine callS (noStar es) (evalArgs_list (seqEv (h _ _ _ _ _ _ _ _ _ c3 h2 E₁ R) fun vs s₂ k₂ r₂ => ⟨trivial, ?_⟩))
  have E₂ := E₁.keeps (Keeps.heap k₂)
  exact after (Keeps.trans k k₂) (Evl.rl (smV_ok E₂.st.live hz2 (Lo.keeps (Keeps.heap k₂) r.lo) r₂.los))
end
end Mine
end
section
set_option maxRecDepth 100000
set_option backward.match.sparseCases false
namespace Mine
open PySem PySem.W PyProof.Rows PySem.Calls PySem.SeqAt

theorem iter_len {x : V} {xs : List V} (h : iterItems x = some xs) : xs.length ≤ lim := by
  unfold iterItems at h
  split at h
  · split at h <;> first | (cases h; assumption) | cases h
  · split at h <;> first | (cases h; assumption) | cases h
  · split at h
    · rename_i hl; cases h; rw [List.length_map]; exact hl
    · cases h
  · split at h
    · rename_i hl; cases h; rw [List.length_map]; exact hl.2.2.2.2
    · cases h
  · cases h

theorem Lo.view {C : Addr} {ms ms' : List Addr} {h h' : Heap} (k : ∀ b o, h.get? b = some o → h'.get? b = some o) (v : VLe (hid ms h) (hid ms' h')) {x : V} {u : Value} (r : Lo C ms h x u) : Lo C ms' h' x u := by
  cases x with
  | list l =>
    obtain ⟨a, o, vs, n, e1, e2, e3, e4, e5⟩ := r
    exact ⟨a, o, vs, n, e1, k _ _ e2, e3, e4, Reps.mono v _ _ e5⟩
  | inst l =>
    obtain ⟨a, o, vs, n, e1, e2, e3, e4⟩ := r
    exact ⟨a, o, vs, n, e1, k _ _ e2, k _ _ e3, Ents.mono v _ _ _ e4⟩
  | _ => exact Rep.mono v _ _ r
theorem RL.view {o : Bool} {C : Addr} {ms ms' : List Addr} {h h' : Heap} (k : ∀ b o, h.get? b = some o → h'.get? b = some o) (v : VLe (hid ms h) (hid ms' h')) {x : V} {u : Value} (r : RL o C ms h x u) : RL o C ms' h' x u := by
  cases o
  · exact Rep.mono v _ _ (show Rep C (hid ms h) x u from r)
  · exact Lo.view k v (show Lo C ms h x u from r)

/-- a longer list of hidden addresses, all new -/
theorem hid_new {ms ex : List Addr} {h h' : Heap} (n : ∀ a ∈ ex, h.get? a = none) (k : ∀ b o, h.get? b = some o → h'.get? b = some o) : VLe (hid ms h) (hid (ex ++ ms) h') := fun b o e => by
  have e' := hid_get e
  unfold hid at e ⊢
  split at e
  · cases e
  · rename_i q
    rw [if_neg]
    · exact k _ _ e'
    · intro p
      rcases List.mem_append.mp p with p | p
      · rw [n _ p] at e'; cases e'
      · exact q p
theorem hid_but {ms : List Addr} {h h' : Heap} (k : ∀ b o, b ∉ ms → h.get? b = some o → h'.get? b = some o) : VLe (hid ms h) (hid ms h') := fun b o e => by
  unfold hid at e ⊢
  split at e
  · cases e
  · rename_i q; rw [if_neg q]; exact k _ _ q e

theorem closure_go {env : Env} : ∀ (l : List (Str × NameKind)) (acc : List (Str × Addr)), (∀ n k, (n, k) ∈ l → k = .free → ∃ c, env.cells.lookup n = some c) → (∀ n c, acc.lookup n = some c → env.cells.lookup n = some c) →
    ∃ cl, (forIn l acc fun (x : Str × NameKind) (r : List (Str × Addr)) => (do
      let cs := r
      if (x.2 == NameKind.free) = true then do
        let a ← cellOf env x.1
        let cs := (x.1, a) :: cs
        pure (ForInStep.yield cs)
      else do
        pure (ForInStep.yield cs) : Sem (ForInStep (List (Str × Addr))))) = pure cl ∧ (∀ n c, cl.lookup n = some c → env.cells.lookup n = some c) ∧
      (∀ n, (acc.lookup n).isSome = true ∨ (n, NameKind.free) ∈ l → (cl.lookup n).isSome = true)
  | [], acc, _, ha => ⟨acc, rfl, ha, fun n h => h.elim id fun h => by cases h⟩
  | (n, k) :: l, acc, hl, ha => by
    rw [List.forIn_cons]
    by_cases hk : k = .free
    · subst hk
      obtain ⟨c, hc⟩ := hl n .free (by simp) rfl
      obtain ⟨cl, h1, h2, h3⟩ := closure_go l ((n, c) :: acc) (fun m k q => hl m k (by simp [q])) (fun m d e => by
        rw [List.lookup_cons] at e
        split at e
        · rename_i q
          cases e
          rw [show m = n from beq_iff_eq.mp q]; exact hc
        · exact ha m d e)
      refine ⟨cl, ?_, h2, ?_⟩
      · have : cellOf env n = pure c := by unfold cellOf; rw [hc]
        simp only [beq_self_eq_true, if_true, this]
        exact h1
      · intro m h
        refine h3 m ?_
        rcases h with h | h
        · left
          rw [List.lookup_cons]
          split
          · rfl
          · exact h
        · rcases List.mem_cons.mp h with h | h
          · cases h
            left; rw [List.lookup_cons, beq_self_eq_true]; rfl
          · exact .inr h
    · have hk' : (k == NameKind.free) = false := by simpa using hk
      obtain ⟨cl, h1, h2, h3⟩ := closure_go l acc (fun m k q => hl m k (by simp [q])) ha
      refine ⟨cl, ?_, h2, ?_⟩
      · simp only [hk', Bool.false_eq_true, if_false]
        exact h1
      · intro m h
        refine h3 m ?_
        rcases h with h | h
        · exact .inl h
        · rcases List.mem_cons.mp h with h | h
          · cases h; exact absurd rfl hk
          · exact .inr h
theorem closure_ok {scope : Scope} {env : Env} (h : ∀ n k, (n, k) ∈ scope.names → k = .free → ∃ c, env.cells.lookup n = some c) :
    ∃ cl, closureFor scope env = pure cl ∧ ∀ n, (n, NameKind.free) ∈ scope.names → cl.lookup n = env.cells.lookup n := by
  obtain ⟨cl, h1, h2, h3⟩ := closure_go (env := env) scope.names [] h (fun n c e => by simp at e)
  refine ⟨cl, ?_, fun n hn => ?_⟩
  · unfold closureFor
    exact congrArg (fun t => t >>= fun x => (pure x : Sem (List (Str × Addr)))) h1
  · obtain ⟨c, hc⟩ := Option.isSome_iff_exists.mp (h3 n (.inr hn))
    rw [hc, h2 n c hc]

section
variable {W : Wd} (O : WOK W) {cx : Cx} {env : Env} {A : Around} {ms : List Addr} {s s₁ s₂ : Shared} {ρ : List V}

theorem chk_set {g : Gx} {o : Bool} {cx : Cx} {x : X} {es : List Expr} {k : Nat} {p : Pos} : chk g o cx x (.Set es k p) = false := by
  cases x <;> rfl
theorem folded_id {g : Gx} {o : Bool} {x : X} {e : Expr} (h : chk g o cx x e = true) (v : Value) : foldedSetIterable e env v = pure v := by
  cases e <;> first | rfl | exact absurd (chk_set.symm.trans h) Bool.false_ne_true

theorem lookup_relN : ∀ {l : List (Str × NameKind)} {n : Str}, (relN l).lookup n = (l.lookup n).map fun k => if k == .free then .cell else k
  | [], n => rfl
  | (m, k) :: l, n => by
    have ih := lookup_relN (l := l) (n := n)
    have e : relN ((m, k) :: l) = (m, if k == .free then .cell else k) :: relN l := by cases k <;> rfl
    rw [e, List.lookup_cons, List.lookup_cons]
    cases n == m
    · exact ih
    · rfl
theorem lookup_mem {α : Type} : ∀ {l : List (Str × α)} {n : Str} {k : α}, l.lookup n = some k → (n, k) ∈ l
  | (m, k') :: l, n, k, h => by
    rw [List.lookup_cons] at h
    split at h
    · rename_i q; cases h; rw [show n = m from beq_iff_eq.mp q]; simp
    · exact List.mem_cons_of_mem _ (lookup_mem h)

structure Sc (cx : Cx) (sc : Scope) : Prop where
  kind : sc.kind = .function
  loc : ∀ y ∈ sc.names, y.2 = .local → sc.names.lookup y.1 = some .local
  free : ∀ n k, (n, k) ∈ sc.names → k = .free → cx.names.lookup n = some .cell ∧ sc.names.lookup n = some .free
  cell : ∀ y ∈ sc.names, y.2 ≠ .cell
theorem sc_of {sc : Scope} (h : scOk cx sc = true) : Sc cx sc := by
  unfold scOk at h
  simp only [Bool.and_eq_true, beq_iff_eq, List.all_eq_true] at h
  obtain ⟨h1, h2⟩ := h
  refine ⟨h1, ?_, ?_, ?_⟩
  · rintro ⟨n, k⟩ hy rfl
    have := h2 _ hy
    simpa using this
  · rintro n k hy rfl
    have := h2 _ hy
    simpa using this
  · rintro ⟨n, k⟩ hy rfl
    have := h2 _ hy
    simp at this
theorem relabel_names {sc : Scope} (E : EF W.B W.g.C cx env ms s.heap ρ) (S : Sc cx sc) : (relabel sc env).names = relN sc.names := by
  unfold relabel relN
  refine List.map_congr_left ?_
  rintro ⟨n, k⟩ hy
  by_cases hk : k = .free
  · subst hk
    have := (S.free _ _ hy rfl).1
    have hc : env.kindOf n = some .cell := (kindOf_eq E n).trans this
    simp [hc, E.kind]
  · have hk' : (k == NameKind.free) = false := by simpa using hk
    simp [hk']

theorem ef_inner {sc : Scope} {tn : List Str} {cl : List (Str × Addr)} {Ca : Addr} {ms' : List Addr} {h' : Heap} {m' : Str → Option Value} {ρ' : List V} (E : EF W.B W.g.C cx env ms s₁.heap ρ) (S : Sc cx sc) (hb : cx.base = 0)
    (ht : tn.all (isLoc sc) = true) (hcl : ∀ n, (n, NameKind.free) ∈ sc.names → cl.lookup n = env.cells.lookup n)
    (hs : Stb W.B ms' h') (k : ∀ b o, s₁.heap.get? b = some o → h'.get? b = some o) (vw : VLe (hid ms s₁.heap) (hid ms' h')) (hn : h'.Ns Ca m')
    (h1 : ∀ (i : Nat) (x : V), i < cx.slots.length → ρ'[i]? = some x → (match x with | .undef => False | _ => True) → ρ[i]? = some x)
    (h2 : ∀ (j : Nat) (n : Str) (x : V), tn[j]? = some n → ρ'[cx.slots.length + j]? = some x → ∃ v, m' n = some v ∧ Rep W.g.C (hid ms' h') x v) :
    EF W.B W.g.C (inner cx sc tn) (compEnvC sc cl Ca env) ms' h' ρ' := by
  have hnames : (compEnvC sc cl Ca env).scope.names = relN sc.names := relabel_names E S
  have hk : ∀ n, (compEnvC sc cl Ca env).kindOf n = (relN sc.names).lookup n := fun n => by unfold Env.kindOf; rw [hnames]
  have isfree : ∀ n, (relN sc.names).lookup n = some .cell → (n, NameKind.free) ∈ sc.names := by
    intro n e
    rw [lookup_relN] at e
    obtain ⟨k, e1, e2⟩ := Option.map_eq_some_iff.mp e
    have hm := lookup_mem e1
    cases k <;> simp at e2 <;> first | exact hm | exact absurd rfl (S.cell _ hm)
  have loc : ∀ n, n ∈ tn → (relN sc.names).lookup n = some .local := by
    intro n hn
    have := List.all_eq_true.mp ht n hn
    unfold isLoc at this
    rw [lookup_relN, beq_iff_eq.mp this]; rfl
  refine ⟨hs, S.kind, hnames, E.glo, E.bui, ?_, ?_⟩
  · intro n e
    have hf := isfree n e
    show ∃ c, cl.lookup n = some c
    rw [hcl n hf]
    exact E.cel n (S.free n _ hf rfl).1
  · intro i n x e1 e2 e3 e4
    have e1 : (cx.slots ++ tn)[i]? = some n := e1
    unfold acc at e4
    have out : ∀ (q : (relN sc.names).lookup n = some .cell) (hi : i < cx.slots.length), ∃ v, Bound (compEnvC sc cl Ca env) h' n v ∧ RL ((inner cx sc tn).isOwn i) W.g.C ms' h' x v := by
      intro q hi
      have hf := isfree n q
      have hc := (S.free n _ hf rfl).1
      rw [List.getElem?_append_left hi] at e1
      obtain ⟨v, hv, hr⟩ := E.slots i n x e1 (h1 i x hi e2 e3) e3 (by unfold acc; rw [hc, hb]; rfl)
      refine ⟨v, ?_, RL.view k vw hr⟩
      unfold Bound at hv ⊢
      rw [hk, q]
      rw [kindOf_eq E, hc] at hv
      obtain ⟨c, hc1, hc2⟩ := hv
      exact ⟨c, (hcl n hf).trans hc1, hc2.keeps k⟩
    have inn : ∀ (j : Nat), i = cx.slots.length + j → ∃ v, Bound (compEnvC sc cl Ca env) h' n v ∧ RL ((inner cx sc tn).isOwn i) W.g.C ms' h' x v := by
      rintro j rfl
      rw [List.getElem?_append_right (Nat.le_add_right _ _), Nat.add_sub_cancel_left] at e1
      obtain ⟨v, hv, hr⟩ := h2 j n x e1 e2
      refine ⟨v, ?_, Rep.rl hr⟩
      unfold Bound
      rw [hk, loc n (List.mem_of_getElem? e1)]
      exact ⟨m', hn, hv⟩
    split at e4
    · have hi : cx.slots.length ≤ i := of_decide_eq_true e4
      exact inn (i - cx.slots.length) (by grind)
    · rename_i q
      by_cases hi : i < cx.slots.length
      · exact out q hi
      · exact inn (i - cx.slots.length) (by grind)
    · cases e4
end
end Mine
end
section
set_option maxRecDepth 100000
set_option backward.match.sparseCases false
namespace Mine
open PySem PySem.W PyProof.Rows PySem.Calls PySem.SeqAt

section
variable {prog : Program} {w : World} {A : Around} {E : Value → Shared → Prop} {R : Result → Shared → Prop} {s : Shared}

set_option backward.match.sparseCases true in
theorem own_go {target : Expr} {I : Addr} {v : Value} {Q : Unit → Shared → Prop} (h : NoOwn s.heap I) (q : Q () s) : wpAny (model prog w) A (letOwnedTupleGo target (.ref I) v) Q E s := by
  obtain ⟨o, T, h1, h2, h3⟩ := h
  have go : ∀ a, wpAny (model prog w) A (load I >>= fun o => match o.cls, o.data with
    | .type n, .fields vs =>
      if ["enumerate", "zip", "dict_itemiterator", "dict_reverseitemiterator", "odict_iterator", "itertools.zip_longest", "itertools.pairwise"].contains n && vs[0]? == some (rawInt a) then do
        rule "for.unpacks-the-owned-tuple"
        updateField I 0 .none
      else pure ()
    | _, _ => pure ()) Q E s := by
    intro a
    refine wpAny_bind (wpAny_load h1 ?_)
    rw [h2]
    split
    · rename_i n vs e1 e2
      cases e1
      rw [h3]
      exact wpAny_pure q
    · exact wpAny_pure q
  cases target with
  | Tuple es k p => cases v with
    | ref a => exact go a
    | _ => exact wpAny_pure q
  | List es p => cases v with
    | ref a => exact go a
    | _ => exact wpAny_pure q
  | _ => exact wpAny_pure q

theorem comp_loop {elt target iter : Expr} {ifs : List Expr} {scope : Scope} {pos : Pos} {it acc : Value} {env : Env} (I : Nat → Shared → Prop)
    (turn : ∀ n s, I n s → wpAny (model prog w) A (pyNext it) (fun r s₁ => match r with
      | none => R (.ok .next) s₁
      | some v => wpAny (model prog w) A (letOwnedTupleGo target it v) (fun _ s₁ => wpAny (model prog w) A (assign target env v) (fun _ s₂ =>
          wpAny (model prog w) A (forIn ifs true fun c r => if r = true then do let ok ← isTrue c env (eval c env); pure (ForInStep.yield ok) else pure (ForInStep.yield r)) (fun ok s₃ =>
            if ok = true then wpAny (model prog w) A (eval elt env) (fun x s₄ =>
              wpAny (model prog w) A (call (.builtin "list.append") [acc, x]) (fun _ s₅ => ∃ m, m < n ∧ I m s₅) (fun _ _ => False) s₄) (fun _ _ => False) s₃
            else ∃ m, m < n ∧ I m s₃) (fun _ _ => False) s₂) (fun _ _ => False) s₁) (fun _ _ => False) s₁) (fun _ _ => False) s)
    (n : Nat) (h : I n s) :
    codeAny (model prog w) A (.compLoop (.ListComp elt [⟨target, iter, ifs, 0⟩] scope pos) 0 it acc env) R s := by
  refine codeAny_loop rfl I (fun n s hI => ?_) n h
  show wpAny _ A ((compTurn (.ListComp elt [⟨target, iter, ifs, 0⟩] scope pos) 0 it acc env).onRaise (fun x => do noteFrame x env; theTreesLotGoes x)) _ _ s
  refine wpAny_noted ?_
  refine wpAny_mono (E := fun _ _ => False) ?_ (fun _ _ q => q) fun _ _ f => f.elim
  rw [compTurn_list]
  refine wpAny_bind (wpAny_standAt (wpAny_bind (wpAny_mono (turn n s hI) (fun r s₁ h₁ => ?_) fun _ _ h' => h')))
  cases r with
  | none => exact wpAny_pure h₁
  | some v =>
    refine wpAny_bind (wpAny_mono h₁ (fun _ s₁ h₁ => ?_) fun _ _ h' => h')
    refine wpAny_bind (wpAny_mono h₁ (fun _ s₂ h₂ => wpAny_bind (wpAny_mono h₂ (fun ok s₃ h₃ => ?_) fun _ _ h' => h')) fun _ _ h' => h')
    cases ok with
    | false => exact wpAny_pure ⟨rfl, h₃⟩
    | true =>
      exact wpAny_bind (wpAny_bind (wpAny_mono h₃ (fun x s₄ h₄ => wpAny_bind (wpAny_mono h₄ (fun _ s₅ h₅ => wpAny_pure (wpAny_pure ⟨rfl, h₅⟩)) fun _ _ h' => h')) fun _ _ h' => h'))
end

section
variable {prog : Program} {w : World} {A : Around} {s : Shared}

theorem set_at {α : Type} {l : List α} {i : Nat} {x y : α} (h : (l.set i y)[i]? = some x) : x = y := by
  rw [List.getElem?_set] at h
  simp only [if_true] at h
  split at h
  · cases h; rfl
  · cases h
theorem bindT_low {tgt : Nat} {two : Bool} {y : V} {ρ₀ ρ' : List V} (h : bindT tgt two y ρ₀ = some ρ') {i : Nat} (hi : i < tgt) : ρ'[i]? = ρ₀[i]? := by
  unfold bindT at h
  split at h
  · split at h
    · cases h
      rw [List.getElem?_set_ne (by omega), List.getElem?_set_ne (by grind)]
    · cases h
  · cases h
    rw [List.getElem?_set_ne (by lia)]

theorem tgt_ok {C : Addr} {t : Expr} {tn : List Str} {two : Bool} {cenv : Env} {tgt : Nat} {m : Str → Option Value} {ms' : List Addr} {y : V} {v : Value} {ρ₀ ρ' : List V} (ht : tgtNames two t = some tn) (hl : ∀ n ∈ tn, cenv.kindOf n = some .local)
    (hk : cenv.scope.kind = .function) (hh : A.handled = none) (hn : s.heap.Ns cenv.locals m) (hC : cenv.locals ∈ ms') (r : Rep C (hid ms' s.heap) y v) (hb : bindT tgt two y ρ₀ = some ρ') :
    wpAny (model prog w) A (assign t cenv v) (fun _ s' => ∃ h' tk m', s' = { s with heap := h', toks := tk } ∧ h'.Ns cenv.locals m' ∧ (∀ b o, b ≠ cenv.locals → s.heap.get? b = some o → h'.get? b = some o) ∧
      (∀ (j : Nat) (n : Str) (x : V), tn[j]? = some n → ρ'[tgt + j]? = some x → ∃ v, m' n = some v ∧ Rep C (hid ms' h') x v)) (fun _ _ => False) s := by
  have hp : (cenv.scope.kind == .class || (cenv.scope.kind == .module && cenv.locals != cenv.globals)) = false := by rw [hk]; rfl
  cases t with
  | Name n p =>
    refine ifn_e (show (if two = true then none else some [n]) = some tn from ht) fun h2 ht => ?_
    cases ht
    have h2 : two = false := by simpa using h2
    subst h2
    have hb : some (ρ₀.set tgt y) = some ρ' := hb
    cases hb
    refine wpAny_assign_Name (wpAny_storeName_local (hl n (by simp)) hn (fun h' hn' hs' => ?_) hp)
    refine ⟨h', _, _, rfl, hn', fun b o hb e => hs'.extBut b o hb e, ?_⟩
    intro j n' x e1 e2
    have hj : j = 0 := by
      cases j with
      | zero => rfl
      | succ j => simp at e1
    subst hj
    simp at e1; subst e1
    rw [Nat.add_zero] at e2
    obtain rfl := set_at e2
    exact ⟨v, by simp, by rw [hid_same hC hs']; exact r⟩
  | Tuple es k p =>
    refine if_e (show (if two = true then twoN es else none) = some tn from ht) fun h2 ht => ?_
    obtain ⟨xa, xb, rfl, ht⟩ := ar2_e ht
    obtain ⟨n1, e1, ht⟩ := Option.bind_eq_some_iff.mp ht
    obtain ⟨n2, e2, ht⟩ := Option.bind_eq_some_iff.mp ht
    obtain ⟨p1, rfl⟩ := nmO_e e1
    obtain ⟨p2, rfl⟩ := nmO_e e2
    refine ifn_e ht fun hne ht => ?_
    cases ht
    have hne : n1 ≠ n2 := by simpa using hne
    subst h2
    clear e1 e2
    unfold bindT at hb
    rw [if_pos rfl] at hb
    split at hb
    · rename_i a b
      cases hb
      simp only [Rep_q1, Rep_q2, Rep_q3, Rep_q4, Rep_q5, Rep_q6, Rep_q7, Rep_q8, Rep_q9] at r
      obtain ⟨ta, o, vs, z, rfl, e1, e2, e3, e4⟩ := r
      simp only [Reps_q1, Reps_q2] at e4
      obtain ⟨v1, _, rfl, r1, v2, _, rfl, r2, rfl⟩ := e4
      refine wpAny_assign_Tuple (items := #[v1, v2]) hh ⟨o, hid_get e1, e2, z, e3⟩ rfl rfl fun h₁ he => ?_
      have k₁ : ∀ b o, s.heap.get? b = some o → h₁.get? b = some o := fun b o e => he b o (Nat.ne_of_lt (Heap.lt_size e)) e
      show wpAny _ _ (assignInOrder [assign (.Name n1 p1) cenv, assign (.Name n2 p2) cenv] [v1, v2]) _ _ _
      refine wpAny_assignInOrder_more (wpAny_assign_Name (wpAny_storeName_local (hl n1 (by simp)) (hn.keeps k₁) (fun h₂ hn₂ hs₂ => ?_) hp))
      refine wpAny_assignInOrder_more (wpAny_assign_Name (wpAny_storeName_local (hl n2 (by simp)) hn₂ (fun h₃ hn₃ hs₃ => ?_) hp))
      refine wpAny_assignInOrder_none ⟨h₃, _, _, rfl, hn₃, fun b o hb e => hs₃.extBut b o hb (hs₂.extBut b o hb (k₁ b o e)), ?_⟩
      have vw : VLe (hid ms' s.heap) (hid ms' h₃) := by
        rw [hid_same hC hs₃, hid_same hC hs₂]; exact hid_mono k₁
      intro j n' x f1 f2
      match j, f1, f2 with
      | 0, f1, f2 =>
        simp at f1; subst f1
        rw [Nat.add_zero, List.getElem?_set_ne (by grind)] at f2
        obtain rfl := set_at f2
        exact ⟨v1, by simp [hne], Rep.mono vw _ _ r1⟩
      | 1, f1, f2 =>
        simp at f1; subst f1
        obtain rfl := set_at f2
        exact ⟨v2, by simp, Rep.mono vw _ _ r2⟩
      | j + 2, f1, f2 => simp at f1
    · cases hb
  | _ => exact no_e ht
end
end Mine
end
section
set_option maxRecDepth 100000
set_option backward.match.sparseCases false
namespace Mine
open PySem PySem.W PyProof.Rows PySem.Calls PySem.SeqAt

structure CompIn (W : Wd) (cx : Cx) (elt c : X) (two : Bool) (e' t : Expr) (ifs : List Expr) (sc : Scope) (tn : List Str) : Prop where
  base : cx.base = 0
  scp : Sc cx sc
  tgt : tgtNames two t = some tn
  loc : tn.all (isLoc sc) = true
  elt : chk W.g false (inner cx sc tn) elt e' = true
  ifs : (ifs = [] ∧ c = .yes) ∨ ∃ c', ifs = [c'] ∧ chk W.g false (inner cx sc tn) c c' = true

section
variable {W : Wd} (O : WOK W) {cx : Cx} {env : Env} {A : Around} {ms : List Addr} {s₁ s₂ : Shared} {ρ : List V}

noncomputable abbrev cF (W : Wd) (ρ : List V) (tgt : Nat) (two : Bool) (c : X) : V → Option Bool := fun y => (bindT tgt two y (ρ ++ [.undef, .undef])).bind fun ρ' => tst W.F ρ' c
noncomputable abbrev eF (W : Wd) (ρ : List V) (tgt : Nat) (two : Bool) (e : X) : V → Option V := fun y => (bindT tgt two y (ρ ++ [.undef, .undef])).bind fun ρ' => ev W.F ρ' e

theorem turn_lt {i n : Nat} (h : i < n) : n + 1 - (i + 1) < n + 1 - i := by lia
/-- what holds at the head of the loop of a comprehension -/
inductive CInv (C : Addr) (L : List Addr) (s₁ : Shared) (St : Nat → Heap → Prop) (D Ca : Addr) (xs zs : List V) (go : List V → Option (List V)) : Nat → Shared → Prop
  | mk (h' : Heap) (tk : Nat) (m' : Str → Option Value) (i : Nat) (acc : List V) (vs : List Value) (n : Nat) (rest : List V) (hst : St i h') (hd : h'.get? D = some { cls := .type "list", data := .seq (List.toArray vs) n })
    (hr : Reps C (hid L h') acc vs) (hns : h'.Ns Ca m') (hi : i ≤ xs.length) (hgo : go (xs.drop i) = some rest) (hzs : zs = acc ++ rest) (hk : ∀ b o, s₁.heap.get? b = some o → h'.get? b = some o) (hal : acc.length ≤ i) :
    CInv C L s₁ St D Ca xs zs go (xs.length + 1 - i) { s₁ with heap := h', toks := tk }

theorem comp_run {elt c : X} (he : EvOK W elt) (hcd : TstOK W c) {two : Bool} {e' t iter : Expr} {ifs : List Expr} {sc : Scope} {tn : List Str} {pos : Pos} {fl : Prop} {it : Value} {xs zs : List V} {cl : List (Str × Addr)}
    (H : CompIn W cx elt c two e' t ifs sc tn) (E : EF W.B W.g.C cx env ms s₁.heap ρ) (R : Rm A W.d) (N : Iter W.prog W.w A W.g.C ms s₁ fl xs it s₂) (hx : xs.length ≤ lim)
    (hz : compGo (cF W ρ cx.slots.length two c) (eF W ρ cx.slots.length two elt) xs = some zs) (hcl : ∀ n, (n, NameKind.free) ∈ sc.names → cl.lookup n = env.cells.lookup n)
    {RR : Value → Addr → Result → Shared → Prop}
    (hRR : ∀ D Ca I h' tk m' vs n, s₁.heap.get? D = none → s₁.heap.get? Ca = none → s₁.heap.get? I = none → D ≠ Ca → h'.Ns Ca m' → h'.get? D = some { cls := .type "list", data := .seq (List.toArray vs) n } →
      Reps W.g.C (hid (D :: Ca :: I :: ms) h') zs vs → (∀ b o, s₁.heap.get? b = some o → h'.get? b = some o) → RR (.ref D) Ca (.ok .next) { s₁ with heap := h', toks := tk }) :
    wpAny (model W.prog W.w) A (newList []) (fun acc s₃ => wpAny (model W.prog W.w) A (newFunctionEnv sc env.globals cl [] env.qual none .none (some env)) (fun cenv s₄ =>
      codeAny (model W.prog W.w) A (.compStart (.ListComp e' [⟨t, iter, ifs, 0⟩] sc pos) 0 it acc { cenv with scope := relabel sc env }) (RR acc cenv.locals) s₄) (fun _ _ => False) s₃) (fun _ _ => False) s₂ := by
  obtain ⟨⟨I, fp, P, St, rfl, Wk, st0, hI, ⟨oI, hoI⟩, hfp, hP, hown, _⟩, kN⟩ := N
  refine wpAny_newObj_type (wpAny_newFunctionEnv H.scp.cell (by intro y hy; simp at hy) (fun h₁ hns₁ hsb₁ => ?_) H.scp.kind)
  dsimp only at hns₁ hsb₁ ⊢
  obtain ⟨H2', tk2, rfl, kH⟩ := kN
  dsimp only at hns₁ hsb₁ hoI st0 ⊢
  generalize hD : H2'.objs.size = D at hns₁ hsb₁ ⊢
  generalize hH2 : H2'.push { cls := .type "list", dict := none, data := .seq ([] : List Value).toArray } = H2 at hns₁ hsb₁ ⊢
  have hC : H2.objs.size = D + 1 := by rw [← hH2, Heap.size_push, hD]
  generalize hCa : H2.objs.size = Ca at hns₁ hsb₁ hC ⊢
  have hDC : D ≠ Ca := by rw [hC]; exact Nat.ne_of_lt (Nat.lt_succ_self _)
  have below : ∀ b, b < D → b ≠ Ca ∧ b ≠ D := fun b hb => ⟨by rw [hC]; exact Nat.ne_of_lt (Nat.lt_succ_of_lt hb), Nat.ne_of_lt hb⟩
  have lt2 : ∀ {b o}, H2'.get? b = some o → b < D := fun e => hD ▸ Heap.lt_size e
  have old : ∀ b o, H2'.get? b = some o → h₁.get? b = some o := fun b o e => hsb₁.extBut b o (below b (lt2 e)).1 (Heap.get?_push_of_some _ (hH2 ▸ Heap.get?_push_of_some _ e))
  have fresh1 : ∀ a, D ≤ a → s₁.heap.get? a = none := fun a ha => by
    cases e : s₁.heap.get? a with
    | none => rfl
    | some o' => exact absurd (lt2 (kH _ _ e)) (Nat.not_lt.mpr ha)
  have nD := fresh1 D (Nat.le_refl _)
  have nC := fresh1 Ca (by rw [hC]; exact Nat.le_succ _)
  have hID : I ≠ D := (below I (lt2 hoI)).2
  have hIC : I ≠ Ca := (below I (lt2 hoI)).1
  have notS : ∀ {b o}, s₁.heap.get? b = some o → b ≠ D ∧ b ≠ Ca ∧ b ≠ I := fun {b o} e => ⟨fun q => (by rw [q, nD] at e; cases e), fun q => (by rw [q, nC] at e; cases e), fun q => (by rw [q, hI] at e; cases e)⟩
  have fpN : ∀ b ∈ fp, b ≠ D ∧ b ≠ Ca := fun b hb => by
    by_cases q : b = I
    · subst q; exact ⟨hID, hIC⟩
    · obtain ⟨o, ho⟩ := hfp b hb q; exact ⟨(notS ho).1, (notS ho).2.1⟩
  have hacc : h₁.get? D = some { cls := .type "list", data := .seq (List.toArray ([] : List Value)) } := hsb₁.extBut _ _ hDC (Heap.get?_push_of_some _ (hH2 ▸ hD ▸ Heap.get?_push_size _ rfl))
  have st1 : St 0 h₁ := Wk.frame _ _ _ st0 fun b _ o e => old b o e
  have hk : ∀ n ∈ tn, (compEnvC sc cl Ca env).kindOf n = some .local := by
    intro n hn
    have := List.all_eq_true.mp H.loc n hn
    unfold isLoc at this
    unfold Env.kindOf
    rw [show (compEnvC sc cl Ca env).scope.names = relN sc.names from relabel_names E H.scp, lookup_relN, beq_iff_eq.mp this]; rfl
  have loop : ∀ s₃ : Shared, s₃ = { s₁ with heap := h₁, toks := tk2 + ([] : List (Str × Value)).length } →
      codeAny (model W.prog W.w) A (.compLoop (.ListComp e' [⟨t, iter, ifs, 0⟩] sc pos) 0 (.ref I) (.ref D) (compEnvC sc cl Ca env)) (RR (.ref D) Ca) s₃ := by
    rintro s₃ rfl
    refine comp_loop (CInv W.g.C (D :: Ca :: I :: ms) s₁ St D Ca xs zs (compGo (cF W ρ cx.slots.length two c) (eF W ρ cx.slots.length two elt)))
      ?_ (xs.length + 1) (CInv.mk (D := D) (Ca := Ca) h₁ _ _ 0 [] [] 0 zs st1 hacc Reps.nil hns₁ (Nat.zero_le _) hz rfl (fun b o e => old b o (kH b o e)) (Nat.le_refl 0))
    rintro k s' ⟨h', tk, m', i, acc, vs, n, rest, hst, hd, hr, hns, hi, hgo, hzs, hk1, hal⟩
    by_cases hlt : i < xs.length
    · refine Wk.item i _ _ _ hlt hst fun v h₂ tk₂ hPv hst₂ hk₂ => ?_
      obtain ⟨x, hxi, rx⟩ := hP i v hlt hPv
      have k2 : ∀ b o, b ≠ I → h'.get? b = some o → h₂.get? b = some o := fun b o hb e => hk₂ b o (by simpa using hb) e
      have k2s : ∀ b o, s₁.heap.get? b = some o → h₂.get? b = some o := fun b o e => k2 b o (notS e).2.2 (hk1 b o e)
      have rx2 : Rep W.g.C (hid (D :: Ca :: I :: ms) h₂) x v := Rep.mono (hid_new (ex := [D, Ca, I]) (by simp [nD, nC, hI]) k2s) _ _ rx
      rw [List.drop_eq_getElem_cons hlt] at hgo
      have hxe : xs[i] = x := by rw [List.getElem?_eq_getElem hlt] at hxi; exact Option.some.inj hxi
      rw [hxe] at hgo
      simp only [compGo_q1, compGo_q2] at hgo
      obtain ⟨b, hb1, hgo⟩ := Option.bind_eq_some_iff.mp hgo
      obtain ⟨ρ', hb2, hb3⟩ := Option.bind_eq_some_iff.mp hb1
      refine own_go (hown _ _ hst₂) ?_
      have hns2 : h₂.Ns Ca m' := hns.at' fun o e => k2 Ca o (Ne.symm hIC) e
      refine wpAny_mono (tgt_ok (s := { s₁ with heap := h₂, toks := tk₂ }) (cenv := compEnvC sc cl Ca env) (ms' := D :: Ca :: I :: ms) H.tgt hk H.scp.kind R.hd hns2 (by show Ca ∈ _; simp) rx2 hb2) (fun _ s₃ h₃' => ?_) fun _ _ f => f
      obtain ⟨h₃, tk₃, m₃, rfl, hns3, k3, ht3⟩ := h₃'
      have k3 : ∀ b o, b ≠ Ca → h₂.get? b = some o → h₃.get? b = some o := k3
      have k3s : ∀ b o, s₁.heap.get? b = some o → h₃.get? b = some o := fun b o e => k3 b o (notS e).2.1 (k2s b o e)
      have hns3 : h₃.Ns Ca m₃ := hns3
      have hst₃ : St (i + 1) h₃ := Wk.frame _ _ _ hst₂ fun b hb o e => k3 b o (fpN b hb).2 e
      have hd₃ : h₃.get? D = some { cls := .type "list", data := .seq (List.toArray vs) n } := k3 _ _ hDC (k2 _ _ (Ne.symm hID) hd)
      have hr₃ : Reps W.g.C (hid (D :: Ca :: I :: ms) h₃) acc vs := Reps.mono (hid_but fun b o hb e => k3 b o (fun q => hb (by simp [q])) (k2 b o (fun q => hb (by simp [q])) e)) _ _ hr
      have hstb : Stb W.B (D :: Ca :: I :: ms) h₃ := by
        obtain ⟨oC, _, _, hoC, _⟩ := hns3
        obtain ⟨oI, _, hoI, _⟩ := hown _ _ hst₃
        exact (((E.st.keeps k3s).cons hoI (E.st.new hI)).cons hoC (E.st.new nC)).cons hd₃ (E.st.new nD)
      have Ei : EF W.B W.g.C (inner cx sc tn) (compEnvC sc cl Ca env) (D :: Ca :: I :: ms) h₃ ρ' := by
        refine ef_inner E H.scp H.base H.loc hcl hstb k3s (hid_new (ex := [D, Ca, I]) (by simp [nD, nC, hI]) k3s) hns3 ?_ ht3
        intro j y hj hy hu
        rw [bindT_low hb2 hj] at hy
        by_cases q : j < ρ.length
        · rwa [List.getElem?_append_left q] at hy
        · rw [List.getElem?_append_right (by lia)] at hy
          have : y = .undef := by
            match j - ρ.length, hy with
            | 0, hy => simp at hy; exact hy.symm
            | 1, hy => simp at hy; exact hy.symm
            | _ + 2, hy => simp at hy
          subst this; exact hu.elim
      have tests : wpAny (model W.prog W.w) A (forIn ifs true fun c r => if r = true then do let ok ← isTrue c (compEnvC sc cl Ca env) (eval c (compEnvC sc cl Ca env)); pure (ForInStep.yield ok) else pure (ForInStep.yield r))
          (fun ok s₄ => Keeps { s₁ with heap := h₃, toks := tk₃ } s₄ ∧ ok = b) (fun _ _ => False) { s₁ with heap := h₃, toks := tk₃ } := by
        rcases H.ifs with ⟨rfl, rfl⟩ | ⟨c', rfl, hc'⟩
        · simp only [tst_q1, tst_q2, tst_q3, tst_q4, tst_q5, tst_q6, tst_q7, tst_q8, tst_q9, tst_q10, tst_q11, tst_q12, Option.some.injEq] at hb3
          exact wpAny_tests_nil ⟨Keeps.refl _, hb3⟩
        · exact wpAny_tests_one (hcd _ _ _ _ _ _ _ _ hc' hb3 Ei R)
      refine seqEv tests fun ok s₄ k₄ hok => ?_
      subst hok
      have E4 := Ei.keeps (Keeps.heap k₄)
      obtain ⟨h₄, tk₄, rfl, k4⟩ := k₄
      have k4 : ∀ b o, h₃.get? b = some o → h₄.get? b = some o := k4
      have E4 : EF W.B W.g.C (inner cx sc tn) (compEnvC sc cl Ca env) (D :: Ca :: I :: ms) h₄ ρ' := E4
      have hst₄ : St (i + 1) h₄ := Wk.frame _ _ _ hst₃ fun b _ o e => k4 b o e
      have hr₄ : Reps W.g.C (hid (D :: Ca :: I :: ms) h₄) acc vs := Reps.mono (hid_mono k4) _ _ hr₃
      cases ok with
      | false =>
        simp only [Bool.false_eq_true, if_false] at hgo ⊢
        exact ⟨_, turn_lt hlt, .mk h₄ tk₄ m₃ (i + 1) acc vs n rest hst₄ (k4 _ _ hd₃) hr₄ (hns3.keeps k4) hlt hgo hzs (fun b o e => k4 b o (k3s b o e)) (Nat.le_succ_of_le hal)⟩
      | true =>
        simp only [if_true] at hgo ⊢
        obtain ⟨z, hz1, hgo⟩ := Option.bind_eq_some_iff.mp hgo
        obtain ⟨rest', hgo2, rfl⟩ := Option.map_eq_some_iff.mp hgo
        obtain ⟨ρ'', hb4, hz1⟩ := Option.bind_eq_some_iff.mp hz1
        rw [hb2] at hb4; cases hb4
        refine seqEv (s := { s₁ with heap := h₄, toks := tk₄ }) (he _ _ _ _ _ _ _ _ _ H.elt hz1 E4 R).1 fun u s₅ k₅ r₅ => ?_
        obtain ⟨h₅, tk₅, rfl, k5⟩ := k₅
        have k5 : ∀ b o, h₄.get? b = some o → h₅.get? b = some o := k5
        have r₅ : Rep W.g.C (hid (D :: Ca :: I :: ms) h₅) z u := r₅
        refine wpAny_list_append_plain ⟨n, k5 _ _ (k4 _ _ hd₃)⟩ (fun h₆ hl₆ hs₆ => ?_) ?_
        · obtain ⟨n', hd₆⟩ := hl₆
          rw [List.push_toArray] at hd₆
          have sm : hid (D :: Ca :: I :: ms) h₆ = hid (D :: Ca :: I :: ms) h₅ := hid_same (by simp) hs₆
          refine ⟨_, turn_lt hlt, .mk h₆ tk₅ m₃ (i + 1) (acc ++ [z]) (vs ++ [u]) n' rest' ?_ hd₆ ?_ ?_ hlt hgo2 ?_ ?_ ?_⟩
          · exact Wk.frame _ _ _ hst₄ fun b hb o e => hs₆.extBut b o (fpN b hb).1 (k5 b o e)
          · rw [sm]
            exact Reps.append (Reps.mono (hid_mono k5) _ _ hr₄) (Reps.cons r₅ Reps.nil)
          · exact ((hns3.keeps k4).keeps k5).sameBut hs₆ (Ne.symm hDC)
          · rw [hzs]; simp
          · exact fun b o e => hs₆.extBut b o (notS e).1 (k5 b o (k4 b o (k3s b o e)))
          · rw [List.length_append, List.length_singleton]; exact Nat.succ_le_succ hal
        · rw [List.size_toArray, hr.length]
          have : lim ≤ sizeLine := by decide
          lia
    · have hin : i = xs.length := by grind
      subst hin
      refine Wk.done _ _ _ hst fun h₂ tk₂ hk₂ => ?_
      have k2 : ∀ b o, b ≠ I → h'.get? b = some o → h₂.get? b = some o := fun b o hb e => hk₂ b o (by simpa using hb) e
      rw [List.drop_length] at hgo
      simp only [compGo_q1, compGo_q2, Option.some.injEq] at hgo
      subst hgo
      rw [List.append_nil] at hzs
      subst hzs
      refine hRR D Ca I h₂ tk₂ m' vs n nD nC hI hDC (hns.at' fun o e => k2 Ca o (Ne.symm hIC) e) (k2 _ _ (Ne.symm hID) hd) (Reps.mono (hid_but fun b o hb e => k2 b o (fun q => hb (by simp [q])) e) _ _ hr) fun b o e => k2 b o (notS e).2.2 (hk1 b o e)
  exact codeAny_compStart_list (loop _ rfl) (Wk.self 0 _ _ _ st1 (loop _ rfl))
end
end Mine
end
section
set_option maxRecDepth 100000
set_option backward.match.sparseCases false
namespace Mine
open PySem PySem.W PyProof.Rows PySem.Calls PySem.SeqAt

section
variable {W : Wd} (O : WOK W) {cx : Cx} {env : Env} {A : Around} {ms : List Addr} {s : Shared} {ρ : List V}

@[elab_as_elim] theorem comp_in {elt c it : X} {tgt : Nat} {two o : Bool} {e : Expr} {P : Expr → Prop} (h : chk W.g o cx (.comp elt tgt two it c) e = true)
    (k : ∀ e' t i ifs sc p tn, tgt = cx.slots.length → chk W.g true cx it i = true → CompIn W cx elt c two e' t ifs sc tn → P (.ListComp e' [⟨t, i, ifs, 0⟩] sc p)) : P e := by
  refine eLC_c h fun e' gs sc p h => one_c h fun q h => and_c h fun h h5 => and_c h fun h h4 => and_c h fun h h3 => and_c h fun h h2 => and_c h fun h0 h1 => ?_
  obtain ⟨t, i, ifs, a⟩ := q
  obtain rfl : a = 0 := beq_iff_eq.mp h0
  cases htn : tgtNames two t with
  | none => rw [htn] at h5; exact absurd h5 Bool.false_ne_true
  | some tn =>
    rw [htn] at h5
    refine and_c h5 fun h h8 => and_c h fun h6 h7 => k e' t i ifs sc p tn (beq_iff_eq.mp h2) h4 ⟨beq_iff_eq.mp h1, sc_of h3, htn, h6, h7, ?_⟩
    cases ifs with
    | nil =>
      refine .inl ⟨rfl, ?_⟩
      cases c <;> first | rfl | exact absurd h8 Bool.false_ne_true
    | cons c' r =>
      cases r with
      | nil => exact .inr ⟨c', rfl, h8⟩
      | cons => exact absurd h8 Bool.false_ne_true

theorem comp_wp {elt c it : X} {two : Bool} (he : EvOK W elt) (hcd : TstOK W c) (hit : EvOK W it) {e' t i : Expr} {ifs : List Expr} {sc : Scope} {p pos : Pos} {tn : List Str} {z : V}
    (hz : ev W.F ρ (.comp elt cx.slots.length two it c) = some z) (hi : chk W.g true cx it i = true) (H : CompIn W cx elt c two e' t ifs sc tn) (E : EF W.B W.g.C cx env ms s.heap ρ) (R : Rm A W.d)
    {use : Option (Value → Sem Unit)} {Q : Value → Shared → Prop}
    (hRR : ∀ zs D Ca I h' tk m' vs n, z = .list zs → s.heap.get? D = none → s.heap.get? Ca = none → s.heap.get? I = none → D ≠ Ca → h'.Ns Ca m' → h'.get? D = some { cls := .type "list", data := .seq (List.toArray vs) n } →
      Reps W.g.C (hid (D :: Ca :: I :: ms) h') zs vs → (∀ b o, s.heap.get? b = some o → h'.get? b = some o) → compPost (model W.prog W.w) A (fun _ _ => False) use Q (.ref D) Ca (.ok .next) { s with heap := h', toks := tk }) :
    wpAny (model W.prog W.w) A (comprehension (.ListComp e' [⟨t, i, ifs, 0⟩] sc p) sc env pos (newList []) false (eval i env) use) Q (fun _ _ => False) s := by
  simp only [ev_q1, ev_q2, ev_q3, ev_q4, ev_q5, ev_q6, ev_q7, ev_q8, ev_q9, ev_q10, ev_q11, ev_q12, ev_q13, ev_q14, ev_q15, ev_q16, ev_q17, ev_q18, ev_q19, ev_q20, ev_q21, ev_q22, ev_q23, ev_q24, ev_q25, ev_q26, ev_q27, ev_q28] at hz
  obtain ⟨x, hx, hz⟩ := Option.bind_eq_some_iff.mp hz
  obtain ⟨xs, hxs, hz⟩ := Option.bind_eq_some_iff.mp hz
  obtain ⟨zs, hzs, rfl⟩ := Option.map_eq_some_iff.mp hz
  obtain ⟨cl, hcl1, hcl2⟩ := closure_ok (scope := sc) (env := env) fun n k hm hk => E.cel n (H.scp.free n k hm hk).1
  refine wpAny_comprehension_free (use := use) (cl := cl) rfl (folded_id hi) hcl1 H.scp.kind H.scp.loc (seqEv (hit _ _ _ _ _ _ _ _ _ hi hx E R).1 fun xv s₁ k₁ r₁ => ?_)
  have E₁ := E.keeps (Keeps.heap k₁)
  refine wpAny_mono (iter_ok R.hd hxs r₁.lo) (fun itv s₂ N => ?_) fun _ _ f => f
  refine comp_run he hcd H E₁ R N (iter_len hxs) hzs hcl2 (RR := fun acc C => compPost (model W.prog W.w) A (fun _ _ => False) use Q acc C) ?_
  intro D Ca I h' tk m' vs n nD nC nI hDC hns hd hr hk
  have k := Keeps.heap k₁
  have none_of : ∀ a, s₁.heap.get? a = none → s.heap.get? a = none := fun a ha => by
    cases q : s.heap.get? a with
    | none => rfl
    | some o => rw [k a o q] at ha; cases ha
  obtain ⟨h₁, tk₁, rfl, _⟩ := k₁
  exact hRR zs D Ca I h' tk m' vs n rfl (none_of _ nD) (none_of _ nC) (none_of _ nI) hDC hns hd hr fun b o e => hk b o (k b o e)

theorem comp_core {elt c it : X} {tgt : Nat} {two o : Bool} {e : Expr} (he : EvOK W elt) (hcd : TstOK W c) (hit : EvOK W it) {z : V} (hc : chk W.g o cx (.comp elt tgt two it c) e = true) (hz : ev W.F ρ (.comp elt tgt two it c) = some z)
    (E : EF W.B W.g.C cx env ms s.heap ρ) (R : Rm A W.d) : ∃ l, z = .list l ∧ EvN W.prog W.w A W.g.C ms (eval e env) l s := by
  refine comp_in hc fun e' t i ifs sc p tn htgt hi H => ?_
  subst htgt
  have hl : ∃ l, z = .list l := by
    simp only [ev_q1, ev_q2, ev_q3, ev_q4, ev_q5, ev_q6, ev_q7, ev_q8, ev_q9, ev_q10, ev_q11, ev_q12, ev_q13, ev_q14, ev_q15, ev_q16, ev_q17, ev_q18, ev_q19, ev_q20, ev_q21, ev_q22, ev_q23, ev_q24, ev_q25, ev_q26, ev_q27, ev_q28] at hz
    obtain ⟨x, hx, hz⟩ := Option.bind_eq_some_iff.mp hz
    obtain ⟨xs, hxs, hz⟩ := Option.bind_eq_some_iff.mp hz
    obtain ⟨zs, hzs, rfl⟩ := Option.map_eq_some_iff.mp hz
    exact ⟨zs, rfl⟩
  obtain ⟨l, rfl⟩ := hl
  refine ⟨l, rfl, ?_⟩
  show wpAny _ _ (eval (.ListComp e' [⟨t, i, ifs, 0⟩] sc p) env) _ _ _
  rw [eval_ListComp]
  refine comp_wp he hcd hit hz hi H E R (use := none) ?_
  intro zs D Ca I h' tk m' vs n hzl nD nC nI hDC hns hd hr hk
  cases hzl
  refine ⟨m', hns, fun h'' hs'' => ⟨⟨h'', tk, rfl, fun b o e => hs''.extBut b o (fun q => by rw [q, nC] at e; cases e) (hk b o e)⟩, D, vs, n, rfl, nD, hs''.extBut _ _ hDC hd, ?_⟩⟩
  refine Reps.mono ?_ _ _ hr
  have e1 : hid (D :: Ca :: I :: ms) h'' = hid (D :: Ca :: I :: ms) h' := hid_same (by simp) hs''
  rw [← e1]
  exact hid_sub fun a ha => by
    rcases List.mem_cons.mp ha with rfl | ha
    · simp
    · simp [ha]
theorem comp_ev {elt c it : X} {tgt : Nat} {two : Bool} (he : EvOK W elt) (hcd : TstOK W c) (hit : EvOK W it) : EvOK W (.comp elt tgt two it c) := by
  intro o cx e env A ms s ρ z hc hz E R
  obtain ⟨l, rfl, h⟩ := comp_core he hcd hit hc hz E R
  exact ⟨Evl.rl (h.ev E.st.live), fun _ l' e => by cases e; exact h⟩

theorem yes_tst : TstOK W .yes := by
  intro cx e env A ms s ρ b hc
  exact absurd hc Bool.false_ne_true
theorem nil_ands : TandsOK W .nil := by
  intro cx es env A ms s ρ b hc hz E R
  simp only [tands_q1, tands_q2, Option.some.injEq] at hz
  subst hz
  refine nil_c hc ?_
  exact wpAny_pure ⟨Keeps.refl _, rfl⟩
theorem nil_ors : TorsOK W .nil := by
  intro cx es env A ms s ρ b hc hz E R
  simp only [tors_q1, tors_q2, Option.some.injEq] at hz
  subst hz
  refine nil_c hc ?_
  exact wpAny_pure ⟨Keeps.refl _, rfl⟩

theorem cons_ands {a r : X} (ha : TstOK W a) (hr : TandsOK W r) : TandsOK W (.cons a r) := by
  intro cx es env A ms s ρ b hc hz E R
  simp only [tands_q1, tands_q2] at hz
  obtain ⟨t, h1, hz⟩ := Option.bind_eq_some_iff.mp hz
  refine chks_c hc fun e es c1 c2 => ?_
  · show wpAny _ _ (allTrue _ _ _) _ _ _
    rw [arm_allTrue_cons]
    refine wpAny_bind (seqEv (ha _ _ _ _ _ _ _ _ c1 h1 E R) fun t' s₁ k ht => ?_)
    subst ht
    cases t' with
    | true => exact after k (hr _ _ _ _ _ _ _ _ c2 hz (E.keeps (Keeps.heap k)) R)
    | false => cases hz; exact wpAny_pure ⟨k, rfl⟩
theorem cons_ors {a r : X} (ha : TstOK W a) (hr : TorsOK W r) : TorsOK W (.cons a r) := by
  intro cx es env A ms s ρ b hc hz E R
  simp only [tors_q1, tors_q2] at hz
  obtain ⟨t, h1, hz⟩ := Option.bind_eq_some_iff.mp hz
  refine chks_c hc fun e es c1 c2 => ?_
  · show wpAny _ _ (allTrue _ _ _) _ _ _
    rw [arm_allTrue_cons]
    refine wpAny_bind (seqEv (ha _ _ _ _ _ _ _ _ c1 h1 E R) fun t' s₁ k ht => ?_)
    subst ht
    cases t' with
    | false => exact after k (hr _ _ _ _ _ _ _ _ c2 hz (E.keeps (Keeps.heap k)) R)
    | true => cases hz; exact wpAny_pure ⟨k, rfl⟩
theorem ands_tst {as : X} (h : TandsOK W as) : TstOK W (.ands as) := by
  intro cx e env A ms s ρ b hc hz E R
  simp only [tst_q1, tst_q2, tst_q3, tst_q4, tst_q5, tst_q6, tst_q7, tst_q8, tst_q9, tst_q10, tst_q11, tst_q12] at hz
  refine eBool_c hc fun bo es p hc => and_c hc fun hu hd => ?_
  obtain rfl := beq_iff_eq.mp hu
  exact h _ _ _ _ _ _ _ _ hd hz E R
theorem ors_tst {as : X} (h : TorsOK W as) : TstOK W (.ors as) := by
  intro cx e env A ms s ρ b hc hz E R
  simp only [tst_q1, tst_q2, tst_q3, tst_q4, tst_q5, tst_q6, tst_q7, tst_q8, tst_q9, tst_q10, tst_q11, tst_q12] at hz
  refine eBool_c hc fun bo es p hc => and_c hc fun hu hd => ?_
  obtain rfl := beq_iff_eq.mp hu
  exact h _ _ _ _ _ _ _ _ hd hz E R

theorem ev_no {x : X} (h : ∀ ρ, ev W.F ρ x = none) : EvOK W x := by
  intro o cx e env A ms s ρ z hc hz; rw [h] at hz; cases hz
theorem evs_no {x : X} (h : ∀ ρ, evs W.F ρ x = none) : EvsOK W x := by
  intro o cx e env A ms s ρ z hc hz; rw [h] at hz; cases hz
theorem tst_no {x : X} (h : ∀ ρ, tst W.F ρ x = none) : TstOK W x := by
  intro cx e env A ms s ρ z hc hz; rw [h] at hz; cases hz
theorem tands_no {x : X} (h : ∀ ρ, tands W.F ρ x = none) : TandsOK W x := by
  intro cx e env A ms s ρ z hc hz; rw [h] at hz; cases hz
theorem tors_no {x : X} (h : ∀ ρ, tors W.F ρ x = none) : TorsOK W x := by
  intro cx e env A ms s ρ z hc hz; rw [h] at hz; cases hz

structure AllOK (W : Wd) (x : X) : Prop where
  e : EvOK W x
  s : EvsOK W x
  t : TstOK W x
  a : TandsOK W x
  o : TorsOK W x
  h : ∀ u r, x = .cons u r → EvOK W u

include O in
theorem all_ok (x : X) : AllOK W x := by
  induction x with
  | nil => exact ⟨ev_no fun _ => rfl, nil_evs, tst_no fun _ => rfl, nil_ands, nil_ors, fun _ _ h => by cases h⟩
  | cons a r ha hr => exact ⟨ev_no fun _ => rfl, cons_evs ha.e hr.s, tst_no fun _ => rfl, cons_ands ha.t hr.a, cons_ors ha.t hr.o, fun _ _ h => by cases h; exact ha.e⟩
  | k v => exact ⟨k_ok O v, evs_no fun _ => rfl, tst_no fun _ => rfl, tands_no fun _ => rfl, tors_no fun _ => rfl, fun _ _ h => by cases h⟩
  | v i => exact ⟨v_ok i, evs_no fun _ => rfl, v_tst i, tands_no fun _ => rfl, tors_no fun _ => rfl, fun _ _ h => by cases h⟩
  | own i => exact ⟨own_ok i, evs_no fun _ => rfl, tst_no fun _ => rfl, tands_no fun _ => rfl, tors_no fun _ => rfl, fun _ _ h => by cases h⟩
  | bin op a b ha hb => exact ⟨bin_ok ha.e hb.e, evs_no fun _ => rfl, tst_no fun _ => rfl, tands_no fun _ => rfl, tors_no fun _ => rfl, fun _ _ h => by cases h⟩
  | repl as b ha hb => exact ⟨repl_ok ha.s hb.e, evs_no fun _ => rfl, tst_no fun _ => rfl, tands_no fun _ => rfl, tors_no fun _ => rfl, fun _ _ h => by cases h⟩
  | neg a ha => exact ⟨neg_ok ha.e, evs_no fun _ => rfl, tst_no fun _ => rfl, tands_no fun _ => rfl, tors_no fun _ => rfl, fun _ _ h => by cases h⟩
  | no a ha => exact ⟨no_ok ha.e, evs_no fun _ => rfl, no_tst ha.t, tands_no fun _ => rfl, tors_no fun _ => rfl, fun _ _ h => by cases h⟩
  | and2 a b ha hb => exact ⟨and2_ok ha.e hb.e, evs_no fun _ => rfl, tst_no fun _ => rfl, tands_no fun _ => rfl, tors_no fun _ => rfl, fun _ _ h => by cases h⟩
  | or2 a b ha hb => exact ⟨or2_ok ha.e hb.e, evs_no fun _ => rfl, tst_no fun _ => rfl, tands_no fun _ => rfl, tors_no fun _ => rfl, fun _ _ h => by cases h⟩
  | ite c a b hc ha hb => exact ⟨ite_ok hc.t ha.e hb.e, evs_no fun _ => rfl, ite_tst hc.t ha.t hb.t, tands_no fun _ => rfl, tors_no fun _ => rfl, fun _ _ h => by cases h⟩
  | cmp op a b ha hb => exact ⟨cmp_ok ha.e hb.e, evs_no fun _ => rfl, cmp_tst ha.e hb.e, tands_no fun _ => rfl, tors_no fun _ => rfl, fun _ _ h => by cases h⟩
  | bi f as ha => exact ⟨bi_ev O ha.s ha.h, evs_no fun _ => rfl, bi_tst O ha.s ha.h, tands_no fun _ => rfl, tors_no fun _ => rfl, fun _ _ h => by cases h⟩
  | fn f as ha => exact ⟨fn_ev O ha.s, evs_no fun _ => rfl, fn_tst O ha.s, tands_no fun _ => rfl, tors_no fun _ => rfl, fun _ _ h => by cases h⟩
  | new as ha => exact ⟨new_ev O ha.s, evs_no fun _ => rfl, tst_no fun _ => rfl, tands_no fun _ => rfl, tors_no fun _ => rfl, fun _ _ h => by cases h⟩
  | me f o as ho ha => exact ⟨me_ev O ho.e ha.s, evs_no fun _ => rfl, me_tst O ho.e ha.s, tands_no fun _ => rfl, tors_no fun _ => rfl, fun _ _ h => by cases h⟩
  | sm m o as ho ha => exact ⟨sm_ev ho.e ha.s, evs_no fun _ => rfl, tst_no fun _ => rfl, tands_no fun _ => rfl, tors_no fun _ => rfl, fun _ _ h => by cases h⟩
  | fld o i ho => exact ⟨fld_ok O ho.e, evs_no fun _ => rfl, fld_tst O ho.e, tands_no fun _ => rfl, tors_no fun _ => rfl, fun _ _ h => by cases h⟩
  | item o i ho hi => exact ⟨item_ok ho.e hi.e, evs_no fun _ => rfl, tst_no fun _ => rfl, tands_no fun _ => rfl, tors_no fun _ => rfl, fun _ _ h => by cases h⟩
  | sl o l h t ho hl hh ht => exact ⟨sl_ok ho.e hl.e hh.e ht.e, evs_no fun _ => rfl, sl_tst ho.e hl.e hh.e ht.e, tands_no fun _ => rfl, tors_no fun _ => rfl, fun _ _ h => by cases h⟩
  | non => exact ⟨non_ok, evs_no fun _ => rfl, tst_no fun _ => rfl, tands_no fun _ => rfl, tors_no fun _ => rfl, fun _ _ h => by cases h⟩
  | list as ha => exact ⟨list_ok ha.s, evs_no fun _ => rfl, tst_no fun _ => rfl, tands_no fun _ => rfl, tors_no fun _ => rfl, fun _ _ h => by cases h⟩
  | tup as ha => exact ⟨tup_ok ha.s, evs_no fun _ => rfl, tst_no fun _ => rfl, tands_no fun _ => rfl, tors_no fun _ => rfl, fun _ _ h => by cases h⟩
  | comp e t two it c he hi hc => exact ⟨comp_ev he.e hc.t hi.e, evs_no fun _ => rfl, tst_no fun _ => rfl, tands_no fun _ => rfl, tors_no fun _ => rfl, fun _ _ h => by cases h⟩
  | yes => exact ⟨ev_no fun _ => rfl, evs_no fun _ => rfl, yes_tst, tands_no fun _ => rfl, tors_no fun _ => rfl, fun _ _ h => by cases h⟩
  | ands as ha => exact ⟨ev_no fun _ => rfl, evs_no fun _ => rfl, ands_tst ha.a, tands_no fun _ => rfl, tors_no fun _ => rfl, fun _ _ h => by cases h⟩
  | ors as ha => exact ⟨ev_no fun _ => rfl, evs_no fun _ => rfl, ors_tst ha.o, tands_no fun _ => rfl, tors_no fun _ => rfl, fun _ _ h => by cases h⟩
end
end Mine
end
section
set_option maxRecDepth 100000
set_option backward.match.sparseCases false
namespace Mine
open PySem PySem.W PyProof.Rows PySem.Calls PySem.SeqAt

noncomputable def OwnAt (C : Addr) (v₀ : View) (L : Addr) (sf : Bool) (ms : List Addr) (h : Heap) : V → Value → Prop
  | .list l, v => ∃ a vs k, v = .ref a ∧ a ∈ ms ∧ v₀ a = none ∧ h.get? a = some { cls := .type "list", data := .seq (List.toArray vs) k } ∧ Reps C (hid ms h) l vs
  | .inst l, v => sf = true ∧ ∃ x dx es k, (v = .ref x ∧ x + 1 = L) ∧ x ∈ ms ∧ dx ∈ ms ∧ v₀ x = none ∧ v₀ dx = none ∧ dx ≠ L ∧ h.get? x = some (instObj C dx) ∧ h.get? dx = some { cls := .type "dict", data := .dict (List.toArray es) k } ∧ Ents C (hid ms h) l attrN es
  | _, _ => False
theorem OwnAt.lo {C : Addr} {v₀ : View} {L : Addr} {sf : Bool} {ms : List Addr} {h : Heap} {x : V} {v : Value} (r : OwnAt C v₀ L sf ms h x v) : Lo C ms h x v := by
  cases x with
  | list l => obtain ⟨a, vs, k, e1, _, _, e2, e3⟩ := r; exact ⟨a, _, vs, k, e1, e2, rfl, rfl, e3⟩
  | inst l => obtain ⟨_, x, dx, es, k, e1, _, _, _, _, _, e2, e3, e4⟩ := r; exact ⟨x, dx, es, k, e1.1, e2, e3, e4⟩
  | _ => exact r.elim
theorem OwnAt.view {C : Addr} {v₀ : View} {L : Addr} {sf : Bool} {ms ms' : List Addr} {h h' : Heap} (sub : ∀ a ∈ ms, a ∈ ms') (v : VLe (hid ms h) (hid ms' h')) {x : V} {u : Value} (r : OwnAt C v₀ L sf ms h x u)
    (k : ∀ b o, h.get? b = some o → b ≠ L → (∀ w, o.data ≠ .cell w) → h'.get? b = some o) (hL : ∃ m, h.Ns L m) : OwnAt C v₀ L sf ms' h' x u := by
  cases x with
  | list l =>
    obtain ⟨a, vs, n, e1, e2, e3, e4, e5⟩ := r
    refine ⟨a, vs, n, e1, sub _ e2, e3, k _ _ e4 ?_ (by simp), Reps.mono v _ _ e5⟩
    rintro rfl
    obtain ⟨m, o, es, ep, ho, hd, _⟩ := hL
    rw [e4] at ho; cases ho; cases hd
  | inst l =>
    obtain ⟨e0, x, dx, es, n, e1, e2, e3, e4, e5, e6, e7, e8, e9⟩ := r
    refine ⟨e0, x, dx, es, n, e1, sub _ e2, sub _ e3, e4, e5, e6, k _ _ e7 ?_ (by simp), k _ _ e8 e6 (by simp), Ents.mono v _ _ _ e9⟩
    rintro rfl
    obtain ⟨m, o, es, ep, ho, hd, _⟩ := hL
    rw [e7] at ho; cases ho; cases hd
  | _ => exact r.elim

noncomputable def notU (x : V) : Prop := match x with | .undef => False | _ => True

noncomputable def Shape (cx : Cx) (i : Nat) (x : V) : Prop := (cx.own = some i → ∃ l, x = .list l) ∧ ((cx.self && i == 0) = true → ∃ l, x = .inst l)

structure FS (W : Wd) (cx : Cx) (env : Env) (v₀ : View) (ms₀ ms : List Addr) (h : Heap) (ρ : List V) : Prop where
  st : Stb W.B ms h
  kind : env.scope.kind = .function
  names : env.scope.names = cx.names
  glo : env.globals = mainGlobals
  bui : env.builtins = builtinsNs
  cel : ∀ n, cx.names.lookup n = some .cell → ∃ c, env.cells.lookup n = some c
  slots : ∀ i n x, cx.slots[i]? = some n → ρ[i]? = some x → notU x → acc cx i n = true → ∃ v, Bound env h n v ∧ (cx.isOwn i = true → OwnAt W.g.C v₀ env.locals cx.self ms h x v) ∧ (cx.isOwn i = false → Rep W.g.C (hid ms h) x v)
  shape : ∀ i x, ρ[i]? = some x → notU x → Shape cx i x
  nd : cx.slots.Nodup
  keep : ∀ b o, v₀ b = some o → h.get? b = some o
  sub : ∀ a ∈ ms₀, a ∈ ms
  live0 : ∀ a ∈ ms₀, ∃ o, v₀ a = some o
  ns : env.locals ∈ ms ∧ v₀ env.locals = none ∧ ∃ m, h.Ns env.locals m
  cells : ∀ n c, env.cells.lookup n = some c → c ∈ ms ∧ v₀ c = none ∧ ∃ v, h.IsCell c v
  inj : ∀ n n' c, env.cells.lookup n = some c → env.cells.lookup n' = some c → n = n'

section
variable {W : Wd} {cx : Cx} {env : Env} {v₀ : View} {h h' : Heap} {ms₀ ms : List Addr} {ρ : List V}

theorem FS.ef (F : FS W cx env v₀ ms₀ ms h ρ) : EF W.B W.g.C cx env ms h ρ where
  st := F.st
  kind := F.kind
  names := F.names
  glo := F.glo
  bui := F.bui
  cel := F.cel
  slots := fun i n x a b c d => by
    obtain ⟨v, h1, h2, h3⟩ := F.slots i n x a b c d
    refine ⟨v, h1, ?_⟩
    cases e : cx.isOwn i with
    | true => exact (h2 e).lo
    | false => exact Rep.rl (h3 e)
theorem FS.keeps (F : FS W cx env v₀ ms₀ ms h ρ) (k : ∀ b o, h.get? b = some o → h'.get? b = some o) : FS W cx env v₀ ms₀ ms h' ρ where
  st := F.st.keeps k
  kind := F.kind
  names := F.names
  glo := F.glo
  bui := F.bui
  cel := F.cel
  slots := fun i n x a b c d => by
    obtain ⟨v, h1, h2, h3⟩ := F.slots i n x a b c d
    exact ⟨v, h1.keeps k, fun e => (h2 e).view (fun _ q => q) (hid_mono k) (fun b o e _ _ => k b o e) F.ns.2.2, fun e => Rep.mono (hid_mono k) _ _ (h3 e)⟩
  shape := F.shape
  nd := F.nd
  keep := fun b o e => k b o (F.keep b o e)
  sub := F.sub
  live0 := F.live0
  ns := ⟨F.ns.1, F.ns.2.1, let ⟨m, hm⟩ := F.ns.2.2; ⟨m, hm.keeps k⟩⟩
  cells := fun n c e => let ⟨a, b, v, hv⟩ := F.cells n c e; ⟨a, b, v, hv.keeps k⟩
  inj := F.inj

/-- hide one more address, new to the callers -/
theorem FS.hide (F : FS W cx env v₀ ms₀ ms h ρ) {a : Addr} (ha : h.get? a = none) (k : ∀ b o, h.get? b = some o → h'.get? b = some o) (hl : ∃ o, h'.get? a = some o) : FS W cx env v₀ ms₀ (a :: ms) h' ρ where
  st := by
    refine ⟨fun b o e => k b o (F.st.base b o e), ?_, ?_⟩
    · intro b hb
      rcases List.mem_cons.mp hb with rfl | hb
      · exact hl
      · obtain ⟨o, e⟩ := F.st.live b hb; exact ⟨o, k _ _ e⟩
    · intro b hb
      rcases List.mem_cons.mp hb with rfl | hb
      · cases q : W.B.get? b with
        | none => rfl
        | some o => rw [F.st.base b o q] at ha; cases ha
      · exact F.st.low b hb
  kind := F.kind
  names := F.names
  glo := F.glo
  bui := F.bui
  cel := F.cel
  slots := fun i n x e1 b c d => by
    obtain ⟨v, h1, h2, h3⟩ := F.slots i n x e1 b c d
    exact ⟨v, h1.keeps k, fun e => (h2 e).view (fun _ q => List.mem_cons_of_mem _ q) (hid_cons ha k) (fun b o e _ _ => k b o e) F.ns.2.2, fun e => Rep.mono (hid_cons ha k) _ _ (h3 e)⟩
  shape := F.shape
  nd := F.nd
  keep := fun b o e => k b o (F.keep b o e)
  sub := fun b hb => List.mem_cons_of_mem _ (F.sub b hb)
  live0 := F.live0
  ns := ⟨List.mem_cons_of_mem _ F.ns.1, F.ns.2.1, let ⟨m, hm⟩ := F.ns.2.2; ⟨m, hm.keeps k⟩⟩
  cells := fun n c e => let ⟨a, b, v, hv⟩ := F.cells n c e; ⟨List.mem_cons_of_mem _ a, b, v, hv.keeps k⟩
  inj := F.inj

theorem FS.new0 (F : FS W cx env v₀ ms₀ ms h ρ) {a : Addr} (ha : h.get? a = none) : v₀ a = none := by
  cases q : v₀ a with
  | none => rfl
  | some o => rw [F.keep a o q] at ha; cases ha

theorem slot_inj (F : FS W cx env v₀ ms₀ ms h ρ) {i j : Nat} {n : Str} (h1 : cx.slots[i]? = some n) (h2 : cx.slots[j]? = some n) : i = j := by
  have hi : i < cx.slots.length := by
    rcases Nat.lt_or_ge i cx.slots.length with q | q
    · exact q
    · rw [List.getElem?_eq_none q] at h1; cases h1
  exact (List.getElem?_inj hi F.nd).mp (h1.trans h2.symm)
end
end Mine
end
section
set_option maxRecDepth 100000
set_option backward.match.sparseCases false
namespace Mine
open PySem PySem.W PyProof.Rows PySem.Calls PySem.SeqAt

section
variable {W : Wd} {cx : Cx} {env : Env} {v₀ : View} {h h' : Heap} {ms₀ ms : List Addr} {ρ : List V}

theorem FS.upd (F : FS W cx env v₀ ms₀ ms h ρ) {b : Addr} (hb : b ∈ ms) (h0 : v₀ b = none) (hs : Heap.SameBut b h h') (hl : ∃ o, h'.get? b = some o) (hn : ∃ m, h'.Ns env.locals m)
    (hc : ∀ n c, env.cells.lookup n = some c → ∃ v, h'.IsCell c v) {ρ' : List V} (hsh : ∀ i x, ρ'[i]? = some x → notU x → Shape cx i x)
    (hρ : ∀ i n x, cx.slots[i]? = some n → ρ'[i]? = some x → notU x → acc cx i n = true → ∃ v, Bound env h' n v ∧ (cx.isOwn i = true → OwnAt W.g.C v₀ env.locals cx.self ms h' x v) ∧ (cx.isOwn i = false → Rep W.g.C (hid ms h) x v)) : FS W cx env v₀ ms₀ ms h' ρ' where
  st := by
    refine ⟨fun a o e => hs.extBut a o ?_ (F.st.base a o e), ?_, F.st.low⟩
    · rintro rfl; rw [F.st.low _ hb] at e; cases e
    · intro a ha
      by_cases q : a = b
      · subst q; exact hl
      · obtain ⟨o, e⟩ := F.st.live a ha; exact ⟨o, hs.extBut _ _ q e⟩
  kind := F.kind
  names := F.names
  glo := F.glo
  bui := F.bui
  cel := F.cel
  slots := fun i n x e1 b c d => by
    obtain ⟨v, h1, h2, h3⟩ := hρ i n x e1 b c d
    exact ⟨v, h1, h2, fun e => by rw [hid_same hb hs]; exact h3 e⟩
  shape := hsh
  nd := F.nd
  keep := fun a o e => hs.extBut a o (by rintro rfl; rw [h0] at e; cases e) (F.keep a o e)
  sub := F.sub
  live0 := F.live0
  ns := ⟨F.ns.1, F.ns.2.1, hn⟩
  cells := fun n c e => let ⟨a, b, _⟩ := F.cells n c e; ⟨a, b, hc n c e⟩
  inj := F.inj

/-- hide more addresses, all new -/
theorem FS.hides (F : FS W cx env v₀ ms₀ ms h ρ) {ex : List Addr} (ha : ∀ a ∈ ex, h.get? a = none) (k : ∀ b o, h.get? b = some o → h'.get? b = some o) (hl : ∀ a ∈ ex, ∃ o, h'.get? a = some o) : FS W cx env v₀ ms₀ (ex ++ ms) h' ρ where
  st := by
    refine ⟨fun b o e => k b o (F.st.base b o e), ?_, ?_⟩
    · intro b hb
      rcases List.mem_append.mp hb with hb | hb
      · exact hl b hb
      · obtain ⟨o, e⟩ := F.st.live b hb; exact ⟨o, k _ _ e⟩
    · intro b hb
      rcases List.mem_append.mp hb with hb | hb
      · cases q : W.B.get? b with
        | none => rfl
        | some o => have := ha b hb; rw [F.st.base b o q] at this; cases this
      · exact F.st.low b hb
  kind := F.kind
  names := F.names
  glo := F.glo
  bui := F.bui
  cel := F.cel
  slots := fun i n x e1 b c d => by
    obtain ⟨v, h1, h2, h3⟩ := F.slots i n x e1 b c d
    exact ⟨v, h1.keeps k, fun e => (h2 e).view (fun _ q => List.mem_append_right _ q) (hid_new ha k) (fun b o e _ _ => k b o e) F.ns.2.2, fun e => Rep.mono (hid_new ha k) _ _ (h3 e)⟩
  shape := F.shape
  nd := F.nd
  keep := fun b o e => k b o (F.keep b o e)
  sub := fun b hb => List.mem_append_right _ (F.sub b hb)
  live0 := F.live0
  ns := ⟨List.mem_append_right _ F.ns.1, F.ns.2.1, let ⟨m, hm⟩ := F.ns.2.2; ⟨m, hm.keeps k⟩⟩
  cells := fun n c e => let ⟨a, b, v, hv⟩ := F.cells n c e; ⟨List.mem_append_right _ a, b, v, hv.keeps k⟩
  inj := F.inj

theorem FS.drop {a : Addr} (F : FS W cx env v₀ ms₀ (a :: ms) h ρ) (hs : Heap.SameBut a h h') (nL : a ≠ env.locals) (nC : ∀ n c, env.cells.lookup n = some c → a ≠ c) (n0 : v₀ a = none) (sub : ∀ b ∈ ms₀, b ∈ ms) (hm : ∃ m, h.Ns a m) (nms : a ∉ ms) (hsf : cx.self = false) : FS W cx env v₀ ms₀ ms h' ρ where
  st := by
    refine ⟨fun b o e => hs.extBut b o ?_ (F.st.base b o e), ?_, fun b hb => F.st.low b (List.mem_cons_of_mem _ hb)⟩
    · rintro rfl; rw [F.st.low _ (by simp)] at e; cases e
    · intro b hb; obtain ⟨o, e⟩ := F.st.live b (List.mem_cons_of_mem _ hb); exact ⟨o, hs.extBut _ _ (by rintro rfl; exact nms hb) e⟩
  kind := F.kind
  names := F.names
  glo := F.glo
  bui := F.bui
  cel := F.cel
  slots := fun i n x e1 b c d => by
    obtain ⟨v, h1, h2, h3⟩ := F.slots i n x e1 b c d
    have vw : VLe (hid (a :: ms) h) (hid ms h') := fun b o e => by
      have e' := hid_get e
      unfold hid at e ⊢
      split at e
      · cases e
      · rename_i q
        simp only [List.mem_cons, not_or] at q
        rw [if_neg q.2]; exact hs.extBut b o q.1 e'
    refine ⟨v, ?_, fun e => ?_, fun e => Rep.mono vw _ _ (h3 e)⟩
    · unfold Bound at h1 ⊢
      split at h1
      · obtain ⟨m, x, y⟩ := h1; exact ⟨m, x.sameBut hs (Ne.symm nL), y⟩
      · obtain ⟨c, x, y⟩ := h1; exact ⟨c, x, y.sameBut hs (Ne.symm (nC _ _ x))⟩
      · exact h1
    · have h2 := h2 e
      cases x with
      | list l =>
        obtain ⟨q, vs, k, e1, e2, e3, e4, e5⟩ := h2
        have hne : q ≠ a := by
          rintro rfl
          obtain ⟨m, o, es, ep, ho, hd, _⟩ := hm
          rw [e4] at ho; cases ho; cases hd
        exact ⟨q, vs, k, e1, (List.mem_cons.mp e2).resolve_left hne, e3, hs.extBut _ _ hne e4, Reps.mono vw _ _ e5⟩
      | inst l => obtain ⟨e0, _⟩ := h2; rw [hsf] at e0; cases e0
      | _ => exact h2.elim
  shape := F.shape
  nd := F.nd
  keep := fun b o e => hs.extBut b o (by rintro rfl; rw [n0] at e; cases e) (F.keep b o e)
  sub := sub
  live0 := F.live0
  ns := ⟨(List.mem_cons.mp F.ns.1).resolve_left (Ne.symm nL), F.ns.2.1, let ⟨m, hm⟩ := F.ns.2.2; ⟨m, hm.sameBut hs (Ne.symm nL)⟩⟩
  cells := fun n c e => let ⟨a, b, v, hv⟩ := F.cells n c e; ⟨(List.mem_cons.mp a).resolve_left (Ne.symm (nC _ _ e)), b, v, hv.sameBut hs (Ne.symm (nC _ _ e))⟩
  inj := F.inj

theorem ns_det {L : Addr} {m m' : Str → Option Value} (a : h.Ns L m) (b : h.Ns L m') (n : Str) : m n = m' n := by
  obtain ⟨o, es, ep, ho, hd, _, hm⟩ := a
  obtain ⟨o', es', ep', ho', hd', _, hm'⟩ := b
  rw [ho] at ho'; cases ho'; rw [hd] at hd'; cases hd'
  rw [← hm, ← hm']
theorem ns_cell {c : Addr} {m : Str → Option Value} {v : Option Value} {L : Addr} (hn : h.Ns L m) (hc : h.IsCell c v) : c ≠ L := by
  rintro rfl
  obtain ⟨o, es, ep, ho, hd, _⟩ := hn
  obtain ⟨o', ho', hd'⟩ := hc
  rw [ho] at ho'; cases ho'; rw [hd] at hd'; cases hd'

theorem own_same {C : Addr} {L b : Addr} {sf : Bool} {x : V} {v : Value} (r : OwnAt C v₀ L sf ms h x v) (hb : b ∈ ms) (hs : Heap.SameBut b h h') (hn : ∃ m, h.Ns L m) (hk : b = L ∨ ∃ v, h.IsCell b v) : OwnAt C v₀ L sf ms h' x v := by
  refine r.view (fun _ q => q) (by rw [hid_same hb hs]; exact fun _ _ e => e) ?_ hn
  intro a o e hL hcl
  refine hs.extBut a o ?_ e
  rintro rfl
  rcases hk with rfl | ⟨v, o', ho', hd⟩
  · exact hL rfl
  · rw [e] at ho'; cases ho'; exact hcl _ hd

noncomputable def ShK (s s' : Shared) : Prop := ∃ h' tk, s' = { s with heap := h', toks := tk }
theorem ShK.refl (s : Shared) : ShK s s := ⟨s.heap, s.toks, rfl⟩
theorem ShK.trans {s s' s'' : Shared} (a : ShK s s') (b : ShK s' s'') : ShK s s'' := by
  obtain ⟨h, t, rfl⟩ := a; obtain ⟨h', t', rfl⟩ := b; exact ⟨h', t', rfl⟩
theorem ShK.of {s s' : Shared} (k : Keeps s s') : ShK s s' := by obtain ⟨h, t, rfl, _⟩ := k; exact ⟨h, t, rfl⟩
end

section
variable {W : Wd} {cx : Cx} {env : Env} {v₀ : View} {ms₀ ms : List Addr} {ρ : List V} {s : Shared} {A : Around} {M : Model}

noncomputable def Slot1 (cx : Cx) (i : Nat) (n : Str) : Prop := cx.slots[i]? = some n ∧ acc cx i n = true ∧ cx.base = 0

theorem shape_set {i : Nat} {x : V} (h : ∀ j y, ρ[j]? = some y → notU y → Shape cx j y) (hx : Shape cx i x) : ∀ j y, (ρ.set i x)[j]? = some y → notU y → Shape cx j y := by
  intro j y e hy
  by_cases q : j = i
  · subst q; obtain rfl := set_at e; exact hx
  · rw [List.getElem?_set_ne (Ne.symm q)] at e; exact h j y e hy
theorem shape_no {i : Nat} {x : V} (h : cx.isOwn i = false) : Shape cx i x := by
  unfold Cx.isOwn at h
  simp only [Bool.or_eq_false_iff] at h
  refine ⟨fun q => by rw [q] at h; simp at h, fun q => by rw [q] at h; cases h.2⟩

theorem store_ok (F : FS W cx env v₀ ms₀ ms s.heap ρ) {i : Nat} {n : Str} (hi : Slot1 cx i n) {x : V} {v : Value}
    (ho : cx.isOwn i = true → OwnAt W.g.C v₀ env.locals cx.self ms s.heap x v) (hr : cx.isOwn i = false → Rep W.g.C (hid ms s.heap) x v) (hsh : Shape cx i x) :
    wpAny M A (storeName env n v) (fun _ s' => ∃ h' tk b, s' = { s with heap := h', toks := tk } ∧ Heap.SameBut b s.heap h' ∧ b ∈ ms ∧ (b = env.locals ∨ ∃ n, env.cells.lookup n = some b) ∧ FS W cx env v₀ ms₀ ms h' (ρ.set i x)) (fun _ _ => False) s := by
  obtain ⟨h1, h2, h3⟩ := hi
  obtain ⟨hLm, hL0, m, hn⟩ := F.ns
  have hk := kindOf_eq F.ef n
  unfold acc at h2
  have step : ∀ (h' : Heap) (b : Addr), b ∈ ms → v₀ b = none → Heap.SameBut b s.heap h' → (b = env.locals ∨ ∃ v, s.heap.IsCell b v) → (∃ o, h'.get? b = some o) → (∃ m, h'.Ns env.locals m) → (∀ n c, env.cells.lookup n = some c → ∃ v, h'.IsCell c v) →
      Bound env h' n v → (∀ n' v', n' ≠ n → Bound env s.heap n' v' → Bound env h' n' v') → FS W cx env v₀ ms₀ ms h' (ρ.set i x) := by
    intro h' b hb hb0 hs hkind hlive hns hcs hB hO
    refine F.upd hb hb0 hs ?_ hns hcs (shape_set F.shape hsh) ?_
    · exact hlive
    · intro j n' x' e1 e2 e3 e4
      by_cases q : j = i
      · subst q
        obtain rfl := set_at e2
        rw [h1] at e1; cases e1
        exact ⟨v, hB, fun e => own_same (ho e) hb hs ⟨m, hn⟩ hkind, hr⟩
      · rw [List.getElem?_set_ne (Ne.symm q)] at e2
        obtain ⟨v', g1, g2, g3⟩ := F.slots j n' x' e1 e2 e3 e4
        have hne : n' ≠ n := by rintro rfl; exact q (slot_inj F e1 h1)
        exact ⟨v', hO n' v' hne g1, fun e => own_same (g2 e) hb hs ⟨m, hn⟩ hkind, g3⟩
  split at h2
  · rename_i hl
    have hl' : env.kindOf n = some .local := hk.trans hl
    refine wpAny_storeName_local hl' hn (fun h' hn' hs' => ⟨h', _, env.locals, rfl, hs', hLm, ?_, ?_⟩) (by rw [F.kind]; rfl)
    · exact .inl rfl
    · refine step h' env.locals hLm hL0 hs' (.inl rfl) (let ⟨o, _, _, ho, _⟩ := hn'; ⟨o, ho⟩) ⟨_, hn'⟩ (fun n c e => ?_) ?_ ?_
      · obtain ⟨a, b, w, hw⟩ := F.cells n c e
        exact ⟨w, hw.sameBut hs' (ns_cell hn hw)⟩
      · unfold Bound; rw [hl']; exact ⟨_, hn', by simp⟩
      · intro n' v' hne hB
        unfold Bound at hB ⊢
        split at hB
        · obtain ⟨m', hm', hv'⟩ := hB
          refine ⟨_, hn', ?_⟩
          rw [if_neg hne]
          rw [← hv']
          exact ns_det hn hm' n'
        · obtain ⟨c, hc, hv⟩ := hB
          exact ⟨c, hc, hv.sameBut hs' (ns_cell hn hv)⟩
        · exact hB.elim
  · rename_i hc
    have hc' : env.kindOf n = some .cell := hk.trans hc
    obtain ⟨c, hcl⟩ := F.cel n hc
    obtain ⟨hcm, hc0, w, hw⟩ := F.cells n c hcl
    refine wpAny_storeName_cell F.kind hc' hcl hw (fun h' hn' hs' => ⟨h', _, c, rfl, hs', hcm, ?_, ?_⟩)
    · exact .inr ⟨n, hcl⟩
    · refine step h' c hcm hc0 hs' (.inr ⟨w, hw⟩) (let ⟨o, ho, _⟩ := hn'; ⟨o, ho⟩) ⟨m, hn.sameBut hs' (Ne.symm (ns_cell hn hw))⟩ (fun n' c' e => ?_) ?_ ?_
      · by_cases q : c' = c
        · subst q; exact ⟨_, hn'⟩
        · obtain ⟨_, _, w', hw'⟩ := F.cells n' c' e
          exact ⟨w', hw'.sameBut hs' q⟩
      · unfold Bound; rw [hc']; exact ⟨c, hcl, hn'⟩
      · intro n' v' hne hB
        unfold Bound at hB ⊢
        split at hB
        · obtain ⟨m', hm', hv'⟩ := hB
          exact ⟨m', hm'.sameBut hs' (Ne.symm (ns_cell hn hw)), hv'⟩
        · obtain ⟨c', hc', hv⟩ := hB
          refine ⟨c', hc', hv.sameBut hs' ?_⟩
          rintro rfl
          exact hne (F.inj _ _ _ hc' hcl)
        · exact hB.elim
  · cases h2
end
end Mine
end
section
set_option maxRecDepth 100000
set_option backward.match.sparseCases false
namespace Mine
open PySem PySem.W PyProof.Rows PySem.Calls PySem.SeqAt

noncomputable def sl1 (cx : Cx) (i : Nat) (n : Str) : Bool := cx.base == 0 && cx.slots[i]? == some n && acc cx i n && okN n
noncomputable def wr (cx : Cx) (i : Nat) (n : Str) : Bool := sl1 cx i n && !cx.isOwn i
noncomputable def wo (cx : Cx) (i : Nat) (n : Str) : Bool := sl1 cx i n && cx.own == some i && !cx.self
noncomputable def wrs (cx : Cx) : List Nat → List Expr → Bool
  | [], ts => ts.isEmpty
  | i :: is, ts => match ts with
    | [] => false
    | t :: ts => eName t (fun n => wr cx i n) && wrs cx is ts
noncomputable def isComp : Expr → Bool
  | .ListComp .. => true
  | _ => false
noncomputable def compOk (cx : Cx) (v : Expr) : Bool := !(isComp v && cx.self)
noncomputable def isStar : Expr → Bool
  | .Starred .. => true
  | _ => false
noncomputable def swp (cx : Cx) (a : Str) (p1 : Pos) (b : Str) (p2 : Pos) (vs : List Expr) : Bool :=
  vs.length == 2 && !(vs.any isStar) && cx.names.lookup a == some .local && cx.names.lookup b == some .local && p2.line == p1.line && !(a == b) && !(vs.all (foldedForSure 8)) && !(vs.all (constantsAlone 8))

noncomputable def eNm (e : Expr) (f : Str → Pos → Bool) : Bool := match e with
  | .Name n p => f n p
  | _ => false
noncomputable def swT (cx : Cx) (a : Str) (p1 : Pos) (b : Str) (p2 : Pos) (v : Expr) : Bool := match v with
  | .Tuple vs _ _ => swp cx a p1 b p2 vs
  | _ => true
noncomputable def sAssign (st : Stmt) (f : List Expr → Expr → Bool) : Bool := match st with
  | .Assign ts v _ => f ts v
  | _ => false
noncomputable def sAug (st : Stmt) (f : Expr → Operator → Expr → Bool) : Bool := match st with
  | .AugAssign t op v _ => f t op v
  | _ => false
noncomputable def sExpr (st : Stmt) (f : Expr → Bool) : Bool := match st with
  | .Expr x _ => f x
  | _ => false
noncomputable def sIf (st : Stmt) (f : Expr → List Stmt → List Stmt → Bool) : Bool := match st with
  | .If t a b _ => f t a b
  | _ => false
noncomputable def sFor (st : Stmt) (f : Expr → Expr → List Stmt → List Stmt → Bool) : Bool := match st with
  | .For t it a b _ => f t it a b
  | _ => false
noncomputable def sWhile (st : Stmt) (f : Expr → List Stmt → List Stmt → Bool) : Bool := match st with
  | .While t a b _ => f t a b
  | _ => false
noncomputable def sRet (st : Stmt) (f : Option Expr → Bool) : Bool := match st with
  | .Return o _ => f o
  | _ => false
noncomputable def sBrk (st : Stmt) : Bool := match st with
  | .Break _ => true
  | _ => false
section
variable {st : Stmt} {G : Stmt → Prop}
@[elab_as_elim] theorem eNm_c {e : Expr} {f} {G : Expr → Prop} (h : eNm e f = true) (k : ∀ n p, f n p = true → G (.Name n p)) : G e := by
  cases e with
  | Name n p => exact k n p h
  | _ => exact absurd h Bool.false_ne_true
@[elab_as_elim] theorem sAssign_c {f} (h : sAssign st f = true) (k : ∀ ts v q, f ts v = true → G (.Assign ts v q)) : G st := by
  cases st with
  | Assign ts v q => exact k ts v q h
  | _ => exact absurd h Bool.false_ne_true
@[elab_as_elim] theorem sAug_c {f} (h : sAug st f = true) (k : ∀ t op v q, f t op v = true → G (.AugAssign t op v q)) : G st := by
  cases st with
  | AugAssign t op v q => exact k t op v q h
  | _ => exact absurd h Bool.false_ne_true
@[elab_as_elim] theorem sExpr_c {f} (h : sExpr st f = true) (k : ∀ x q, f x = true → G (.Expr x q)) : G st := by
  cases st with
  | Expr x q => exact k x q h
  | _ => exact absurd h Bool.false_ne_true
@[elab_as_elim] theorem sIf_c {f} (h : sIf st f = true) (k : ∀ t a b q, f t a b = true → G (.If t a b q)) : G st := by
  cases st with
  | If t a b q => exact k t a b q h
  | _ => exact absurd h Bool.false_ne_true
@[elab_as_elim] theorem sFor_c {f} (h : sFor st f = true) (k : ∀ t it a b q, f t it a b = true → G (.For t it a b q)) : G st := by
  cases st with
  | For t it a b q => exact k t it a b q h
  | _ => exact absurd h Bool.false_ne_true
@[elab_as_elim] theorem sWhile_c {f} (h : sWhile st f = true) (k : ∀ t a b q, f t a b = true → G (.While t a b q)) : G st := by
  cases st with
  | While t a b q => exact k t a b q h
  | _ => exact absurd h Bool.false_ne_true
@[elab_as_elim] theorem sRet_c {f} (h : sRet st f = true) (k : ∀ o q, f o = true → G (.Return o q)) : G st := by
  cases st with
  | Return o q => exact k o q h
  | _ => exact absurd h Bool.false_ne_true
@[elab_as_elim] theorem sBrk_c (h : sBrk st = true) (k : ∀ q, G (.Break q)) : G st := by
  cases st with
  | Break q => exact k q
  | _ => exact absurd h Bool.false_ne_true
end

mutual
noncomputable def chkS (g : Gx) (cx : Cx) : S → List Stmt → Bool
  | .skip, sts => sts.isEmpty
  | .seq a b, sts => match sts with
    | st :: rest => chk1 g cx a st && chkS g cx b rest
    | [] => false
  | _, _ => false
noncomputable def chk1 (g : Gx) (cx : Cx) : S → Stmt → Bool
  | .asg i e, st => sAssign st fun ts v => one ts fun t => eName t fun n => wr cx i n && chk g false cx e v && compOk cx v
  | .asgO i e, st => sAssign st fun ts v => one ts fun t => eName t fun n => sl1 cx i n && cx.own == some i && !(cx.self && i == 0) && fresh e && chk g false cx e v && compOk cx v
  | .asgM is e, st => sAssign st fun ts v => wrs cx is ts && decide (2 ≤ ts.length) && chk g false cx e v
  | .unp is e, st => Mine.two is fun i j => sAssign st fun ts v => one ts fun t => eTup t fun ns => Mine.two ns fun x y => eNm x fun a p1 => eNm y fun b p2 => wr cx i a && wr cx j b && !(i == j) && chk g false cx e v && swT cx a p1 b p2 v
  | .aug i op e, st => sAug st fun t op' v => eName t fun n => (op == .Add || op == .Sub) && op == op' && wr cx i n && chk g false cx e v
  | .app i e, st => sExpr st fun x => eCal x fun fn es kw pos => kw.isEmpty && eAttr fn fun o a apos => eName o fun n => one es fun x => wo cx i n && Str.ofString "append" == a && chk g false cx e x && apos.endLine == pos.line
  | .setI i k e, st => sAssign st fun ts v => one ts fun t => eSub t fun o j => eName o fun n => sl1 cx i n && cx.own == some i && chk g false cx k j && chk g false cx e v
  | .setA a e, st => sAssign st fun ts v => one ts fun t => eAttr t fun o attr _ => eName o fun n => cx.self && sl1 cx 0 n && attrN[a]? == some attr && chk g false cx e v
  | .iff c a b, st => sIf st fun t body orelse => chk g false cx c t && chkS g cx a body && chkS g cx b orelse
  | .for i it b, st => sFor st fun t iter body orelse => orelse.isEmpty && eName t fun n => wr cx i n && chk g false cx it iter && chkS g cx b body
  | .whl c b, st => sWhile st fun t body orelse => orelse.isEmpty && (chk g false cx c t && chkS g cx b body)
  | .ret e, st => sRet st fun o => oSome o fun v => chk g false cx e v
  | .retO i, st => sRet st fun o => oSome o fun v => eName v fun n => sl1 cx i n && cx.own == some i
  | .brk, st => sBrk st
  | .skip, _ => false
  | .seq _ _, _ => false
end
@[elab_as_elim] theorem chkS_c {g : Gx} {cx : Cx} {a b : S} {sts : List Stmt} {G : List Stmt → Prop} (h : chkS g cx (.seq a b) sts = true) (k : ∀ st rest, chk1 g cx a st = true → chkS g cx b rest = true → G (st :: rest)) : G sts := by
  cases sts with
  | nil => exact absurd h Bool.false_ne_true
  | cons st rest => exact and_c (show (chk1 g cx a st && chkS g cx b rest) = true from h) (k st rest)

noncomputable def Grow (v₀ : View) (ms ms' : List Addr) : Prop := (∀ a ∈ ms, a ∈ ms') ∧ ∀ a ∈ ms', a ∈ ms ∨ v₀ a = none
theorem Grow.refl (v₀ : View) (ms : List Addr) : Grow v₀ ms ms := ⟨fun _ q => q, fun _ q => .inl q⟩
theorem Grow.trans {v₀ : View} {ms ms' ms'' : List Addr} (a : Grow v₀ ms ms') (b : Grow v₀ ms' ms'') : Grow v₀ ms ms'' := ⟨fun x q => b.1 x (a.1 x q), fun x q => (b.2 x q).elim (a.2 x) .inr⟩
theorem Grow.cons {v₀ : View} {ms : List Addr} {a : Addr} (h : v₀ a = none) : Grow v₀ ms (a :: ms) := ⟨fun _ q => List.mem_cons_of_mem _ q, fun x q => by
  rcases List.mem_cons.mp q with rfl | q
  · exact .inr h
  · exact .inl q⟩

noncomputable def Post (W : Wd) (cx : Cx) (env : Env) (v₀ : View) (ms₀ ms : List Addr) : Out → Flow → Shared → Prop
  | .next ρ', f, s' => f = .next ∧ ∃ ms', Grow v₀ ms ms' ∧ FS W cx env v₀ ms₀ ms' s'.heap ρ'
  | .brk ρ', f, s' => f = .brk ∧ ∃ ms', Grow v₀ ms ms' ∧ FS W cx env v₀ ms₀ ms' s'.heap ρ'
  | .ret v, f, s' => ∃ u, f = .ret u ∧ (∀ b o, v₀ b = some o → s'.heap.get? b = some o) ∧ Rep W.g.C (hid ms₀ s'.heap) v u

noncomputable def SOK1 (W : Wd) (fuel : Nat) (b : S) : Prop := ∀ cx st env A v₀ ms₀ ms s ρ out, chk1 W.g cx b st = true → ex W.F fuel b ρ = some out → FS W cx env v₀ ms₀ ms s.heap ρ → Rm A W.d →
  wpAny (model W.prog W.w) A (exec st env) (fun f s' => ShK s s' ∧ Post W cx env v₀ ms₀ ms out f s') (fun _ _ => False) s
noncomputable def SOK (W : Wd) (fuel : Nat) (b : S) : Prop := ∀ cx sts env A v₀ ms₀ ms s ρ out, chkS W.g cx b sts = true → ex W.F fuel b ρ = some out → FS W cx env v₀ ms₀ ms s.heap ρ → Rm A W.d →
  wpAny (model W.prog W.w) A (execs sts env) (fun f s' => ShK s s' ∧ Post W cx env v₀ ms₀ ms out f s') (fun _ _ => False) s

section
variable {W : Wd} {cx : Cx} {env : Env} {v₀ : View} {ms₀ ms : List Addr} {ρ : List V} {s : Shared} {A : Around} {fuel : Nat}

theorem sl1_of {i : Nat} {n : Str} (h : sl1 cx i n = true) : Slot1 cx i n ∧ okN n = true := by
  unfold sl1 at h
  simp only [Bool.and_eq_true, beq_iff_eq] at h
  exact ⟨⟨h.1.1.2, h.1.2, h.1.1.1⟩, h.2⟩
theorem wr_of {i : Nat} {n : Str} (h : wr cx i n = true) : Slot1 cx i n ∧ okN n = true ∧ cx.isOwn i = false := by
  unfold wr at h
  simp only [Bool.and_eq_true, Bool.not_eq_true'] at h
  exact ⟨(sl1_of h.1).1, (sl1_of h.1).2, h.2⟩

theorem chk_setc {g : Gx} {o : Bool} {cx : Cx} {x : X} {a b c d} : chk g o cx x (.SetComp a b c d) = false := by cases x <;> rfl
theorem chk_dictc {g : Gx} {o : Bool} {cx : Cx} {x : X} {a b c d f} : chk g o cx x (.DictComp a b c d f) = false := by cases x <;> rfl

theorem swaps_name {g : Gx} {o : Bool} {x : X} {e : Expr} {n : Str} {p : Pos} {l : Nat} (h : chk g o cx x e = true) :
    swapsWith e (some (.Name n p)) l env = pure false ∨ (isComp e = true ∧ swapsWith e (some (.Name n p)) l env = pure true) := by
  cases e <;> first
    | exact .inl rfl
    | exact absurd (chk_setc.symm.trans h) Bool.false_ne_true
    | exact absurd (chk_dictc.symm.trans h) Bool.false_ne_true
    | skip
  rename_i e' gs sc q
  have : swapsWith (.ListComp e' gs sc q) (some (.Name n p)) l env = pure (env.blockKind == .function && env.kindOf n == some .local && p.line == (Expr.ListComp e' gs sc q).pos.line
      && !(sc.names.any fun (m, k) => m == n && (k == .local || k == .cell))) := rfl
  rw [this]
  generalize (env.blockKind == .function && env.kindOf n == some .local && p.line == (Expr.ListComp e' gs sc q).pos.line && !(sc.names.any fun (m, k) => m == n && (k == .local || k == .cell))) = b
  cases b
  · exact .inl rfl
  · exact .inr ⟨rfl, rfl⟩

theorem post_next {s s' : Shared} {ms ms' : List Addr} {ρ' : List V} (k : ShK s s') (sub : Grow v₀ ms ms') (F : FS W cx env v₀ ms₀ ms' s'.heap ρ') : ShK s s' ∧ Post W cx env v₀ ms₀ ms (.next ρ') .next s' := ⟨k, rfl, ms', sub, F⟩

/-- the value of a comprehension goes straight to its name -/
theorem asg_comp {e : X} {v : Expr} {n : Str} {p q : Pos} {i : Nat} {z : V} (O : AllOK W e) (hAll : ∀ x, AllOK W x) (F : FS W cx env v₀ ms₀ ms s.heap ρ) (R : Rm A W.d) (hi : Slot1 cx i n) (hc : chk W.g false cx e v = true) (hz : ev W.F ρ e = some z) (hv : isComp v = true) (hsf : cx.self = false)
    (hs : swapsWith v (some (.Name n p)) q.line env = pure true) (hzl : Shape cx i z) :
    wpAny (model W.prog W.w) A (exec (.Assign [.Name n p] v q) env) (fun f s' => ShK s s' ∧ Post W cx env v₀ ms₀ ms (.next (ρ.set i z)) f s') (fun _ _ => False) s := by
  rw [exec_Assign_Name_used _ _ _ _ hs]
  cases v <;> first | exact absurd hv Bool.false_ne_true | skip
  rename_i e0 gs sc pc
  have hcomp : ∃ elt tgt two it c, e = .comp elt tgt two it c := by
    cases e <;> first | exact ⟨_, _, _, _, _, rfl⟩ | exact absurd hc Bool.false_ne_true
  obtain ⟨elt, tgt, two, it, c, rfl⟩ := hcomp
  obtain ⟨t, i', ifs, tn, rfl, rfl, hi', H⟩ : ∃ t i' ifs tn, gs = [⟨t, i', ifs, 0⟩] ∧ tgt = cx.slots.length ∧ chk W.g true cx it i' = true ∧ CompIn W cx elt c two e0 t ifs sc tn :=
    comp_in (P := fun v => match v with | .ListComp e0 gs sc _ => ∃ t i' ifs tn, gs = [⟨t, i', ifs, 0⟩] ∧ tgt = cx.slots.length ∧ chk W.g true cx it i' = true ∧ CompIn W cx elt c two e0 t ifs sc tn | _ => True) hc
      fun e' t i ifs sc p tn h1 h2 h3 => ⟨t, i, ifs, tn, rfl, h1, h2, h3⟩
  refine wpAny_bind (wpAny_standAt (wpAny_bind ?_))
  show wpAny _ A (do let _ ← comprehension (.ListComp e0 [⟨t, i', ifs, 0⟩] sc pc) sc env _ (newList []) false (eval i' env) (some (assign (.Name n p) env))) _ _ s
  refine wpAny_bind (wpAny_mono (comp_wp (hAll elt).e (hAll c).t (hAll it).e hz hi' H F.ef R (use := some (assign (.Name n p) env)) (Q := fun _ s' => ShK s s' ∧ Post W cx env v₀ ms₀ ms (.next (ρ.set i z)) .next s') ?_) (fun _ s' hq => wpAny_pure (wpAny_pure hq)) fun _ _ f => f)
  intro zs D Ca I h' tk m' vs k hzs nD nC nI hDC hns hd hr hk
  subst hzs
  have nDm : D ∉ ms := F.st.live.not nD
  have nCm : Ca ∉ ms := F.st.live.not nC
  have fresh : ∀ {a : Addr}, s.heap.get? a = none → a ≠ env.locals ∧ (∀ n c, env.cells.lookup n = some c → a ≠ c) := fun {a} ha => by
    refine ⟨?_, ?_⟩
    · rintro rfl; obtain ⟨m, o, _, _, ho, _⟩ := F.ns.2.2; rw [ha] at ho; cases ho
    · rintro n c e rfl; obtain ⟨_, _, w, o, ho, _⟩ := F.cells n a e; rw [ha] at ho; cases ho
  have main : ∀ ms₁, Grow v₀ ms ms₁ → Ca ∉ ms₁ → FS W cx env v₀ ms₀ (Ca :: ms₁) h' ρ → (cx.isOwn i = true → OwnAt W.g.C v₀ env.locals cx.self (Ca :: ms₁) h' (.list zs) (.ref D)) → (cx.isOwn i = false → Rep W.g.C (hid (Ca :: ms₁) h') (.list zs) (.ref D)) →
      compPost (model W.prog W.w) A (fun _ _ => False) (some (assign (.Name n p) env)) (fun _ s' => ShK s s' ∧ Post W cx env v₀ ms₀ ms (.next (ρ.set i (.list zs))) .next s') (.ref D) Ca (.ok .next) { s with heap := h', toks := tk } := by
    intro ms₁ hsub hCa F1 ho hr1
    show wpAny _ A (assign (.Name n p) env (.ref D)) _ _ _
    refine wpAny_assign_Name (wpAny_mono (store_ok (s := { s with heap := h', toks := tk }) F1 hi ho hr1 hzl) (fun _ s'' h'' => ?_) fun _ _ f => f)
    obtain ⟨h₂, tk₂, b, rfl, hsb, hbm, hbk, F2⟩ := h''
    have hb : Ca ≠ b := by
      rcases hbk with rfl | ⟨n', hn'⟩
      · exact (fresh nC).1
      · exact (fresh nC).2 _ _ hn'
    refine ⟨m', hns.sameBut hsb hb, fun h₃ hs₃ => ?_⟩
    have F3 : FS W cx env v₀ ms₀ ms₁ h₃ (ρ.set i (.list zs)) := F2.drop hs₃ (fresh nC).1 (fresh nC).2 (F.new0 nC) (fun a ha => hsub.1 a (F.sub a ha)) ⟨m', hns.sameBut hsb hb⟩ hCa hsf
    exact ⟨⟨h₃, _, rfl⟩, rfl, ms₁, hsub, F3⟩
  cases ow : cx.isOwn i with
  | false =>
    have F1 := F.hide (h' := h') nC hk (let ⟨o, _, _, ho, _⟩ := hns; ⟨o, ho⟩)
    refine main ms (Grow.refl _ _) nCm F1 (fun q => by rw [ow] at q; cases q) fun _ => ?_
    simp only [Rep_q1, Rep_q2, Rep_q3, Rep_q4, Rep_q5, Rep_q6, Rep_q7, Rep_q8, Rep_q9]
    refine ⟨D, ({ cls := .type "list", data := .seq (List.toArray vs) k } : Obj), vs, k, rfl, ?_, rfl, rfl, Reps.mono (hid_sub fun a ha => by rcases List.mem_cons.mp ha with rfl | ha <;> simp_all) _ _ hr⟩
    rw [hid_of (by simp only [List.mem_cons, not_or]; exact ⟨hDC, nDm⟩)]; exact hd
  | true =>
    have F1 := F.hides (h' := h') (ex := [Ca, D]) (by simp [nD, nC]) hk (fun a ha => by
      simp only [List.mem_cons, List.not_mem_nil, or_false] at ha
      rcases ha with rfl | rfl
      · obtain ⟨o, _, _, ho, _⟩ := hns; exact ⟨o, ho⟩
      · exact ⟨_, hd⟩)
    refine main (D :: ms) (Grow.cons (F.new0 nD)) (by simp only [List.mem_cons, not_or]; exact ⟨Ne.symm hDC, nCm⟩) F1 (fun _ => ?_) fun q => by rw [ow] at q; cases q
    refine ⟨D, vs, k, rfl, by simp, F.new0 nD, hd, Reps.mono (hid_sub fun a ha => ?_) _ _ hr⟩
    simp only [List.mem_cons] at ha ⊢
    rcases ha with rfl | rfl | ha
    · exact .inr (.inl rfl)
    · exact .inl rfl
    · exact .inr (.inr (.inr ha))

theorem store_post (F : FS W cx env v₀ ms₀ ms s.heap ρ) {i : Nat} {n : Str} (hi : Slot1 cx i n) (hb : cx.isOwn i = false) {x : V} {v : Value} (hr : Rep W.g.C (hid ms s.heap) x v) {s₀ : Shared} (k0 : ShK s₀ s) {Q : Flow} {ms' : List Addr} (hsub : Grow v₀ ms' ms)
    {ρ' : List V} (hρ : ρ' = ρ.set i x) (hQ : Q = .next) :
    wpAny (model W.prog W.w) A (storeName env n v) (fun _ s' => ShK s₀ s' ∧ Post W cx env v₀ ms₀ ms' (.next ρ') Q s') (fun _ _ => False) s := by
  subst hρ hQ
  refine wpAny_mono (store_ok F hi (fun q => by rw [hb] at q; cases q) (fun _ => hr) (shape_no hb)) (fun _ s' h => ?_) fun _ _ f => f
  obtain ⟨h', tk, b, rfl, _, _, _, F'⟩ := h
  exact post_next (ShK.trans k0 ⟨h', tk, rfl⟩) hsub F'

theorem asg_ok (hAll : ∀ x, AllOK W x) (i : Nat) (e : X) : SOK1 W fuel (.asg i e) := by
  intro cx st env A v₀ ms₀ ms s ρ out hc hz F R
  simp only [ex_q1, ex_q2, ex_q3, ex_q4, ex_q5, ex_q6, ex_q7, ex_q8, ex_q9, ex_q10, ex_q11, ex_q12, ex_q13, ex_q14, ex_q15, ex_q16] at hz
  obtain ⟨x, hx, rfl⟩ := Option.map_eq_some_iff.mp hz
  refine sAssign_c hc fun ts v q hc => one_c hc fun t hc => eName_c hc fun n p hc => ?_
  simp only [Bool.and_eq_true] at hc
  obtain ⟨⟨h1, h2⟩, h3⟩ := hc
  obtain ⟨hi, hd, hb⟩ := wr_of h1
  rcases swaps_name (env := env) (n := n) (p := p) (l := q.line) h2 with hs | ⟨hv, hs⟩
  · refine wpAny_Assign_Name (seqEv ((hAll e).e _ _ _ _ _ _ _ _ _ h2 hx F.ef R).1 fun u s₁ k r => ?_) hs
    exact store_post (F.keeps (Keeps.heap k)) hi hb r (ShK.of k) (Grow.refl _ _) rfl rfl
  · refine asg_comp (hAll e) hAll F R hi h2 hx hv ?_ hs (shape_no hb)
    unfold compOk at h3
    rw [hv] at h3
    simpa using h3

theorem asgO_ok (hAll : ∀ x, AllOK W x) (i : Nat) (e : X) : SOK1 W fuel (.asgO i e) := by
  intro cx st env A v₀ ms₀ ms s ρ out hc hz F R
  simp only [ex_q1, ex_q2, ex_q3, ex_q4, ex_q5, ex_q6, ex_q7, ex_q8, ex_q9, ex_q10, ex_q11, ex_q12, ex_q13, ex_q14, ex_q15, ex_q16] at hz
  obtain ⟨x, hx, hz⟩ := Option.bind_eq_some_iff.mp hz
  split at hz
  · rename_i l
    cases hz
    refine sAssign_c hc fun ts v q hc => one_c hc fun t hc => eName_c hc fun n p hc => ?_
    simp only [Bool.and_eq_true, beq_iff_eq] at hc
    obtain ⟨⟨⟨⟨⟨h1, ho⟩, hn⟩, hf⟩, h2⟩, h3⟩ := hc
    have hsh : Shape cx i (.list l) := ⟨fun _ => ⟨l, rfl⟩, fun q => by rw [q] at hn; cases hn⟩
    obtain ⟨hi, hd⟩ := sl1_of h1
    have hb : cx.isOwn i = true := by unfold Cx.isOwn; rw [ho]; simp
    rcases swaps_name (env := env) (n := n) (p := p) (l := q.line) h2 with hs | ⟨hv, hs⟩
    · refine wpAny_Assign_Name (seqEv (((hAll e).e _ _ _ _ _ _ _ _ _ h2 hx F.ef R).2 hf l rfl) fun u s₁ k r => ?_) hs
      obtain ⟨a, vs, m, rfl, ha, hs, hr⟩ := r
      have F1 := F.hides (h' := s₁.heap) (ex := [a]) (by simp [ha]) (Keeps.heap k) (fun b hb => by simp at hb; subst hb; exact ⟨_, hs⟩)
      refine wpAny_mono (store_ok (x := .list l) F1 hi (fun _ => ⟨a, vs, m, rfl, by simp, F.new0 ha, hs, hr⟩) (fun q => by rw [hb] at q; cases q) hsh) (fun _ s' h => ?_) fun _ _ f => f
      obtain ⟨h', tk, b, rfl, _, _, _, F'⟩ := h
      exact post_next (ShK.trans (ShK.of k) ⟨h', tk, rfl⟩) (Grow.cons (F.new0 ha)) F'
    · refine asg_comp (hAll e) hAll F R hi h2 hx hv ?_ hs hsh
      unfold compOk at h3
      rw [hv] at h3
      simpa using h3
  · cases hz

theorem ret_ok (hAll : ∀ x, AllOK W x) (e : X) : SOK1 W fuel (.ret e) := by
  intro cx st env A v₀ ms₀ ms s ρ out hc hz F R
  simp only [ex_q1, ex_q2, ex_q3, ex_q4, ex_q5, ex_q6, ex_q7, ex_q8, ex_q9, ex_q10, ex_q11, ex_q12, ex_q13, ex_q14, ex_q15, ex_q16] at hz
  obtain ⟨x, hx, rfl⟩ := Option.map_eq_some_iff.mp hz
  refine sRet_c hc fun ov q hc => oSome_c hc fun v hc => ?_
  refine wpAny_Return_some (seqEv ((hAll e).e _ _ _ _ _ _ _ _ _ hc hx F.ef R).1 fun u s₁ k r => ⟨ShK.of k, u, rfl, fun b o e => Keeps.heap k b o (F.keep b o e), ?_⟩)
  exact Rep.mono (hid_sub F.sub) _ _ (show Rep W.g.C (hid ms s₁.heap) x u from r)
theorem bound_name {M : Model} {n : Str} {p : Pos} {v : Value} {Q : Value → Shared → Prop} {E : Value → Shared → Prop} (F : EF W.B W.g.C cx env ms s.heap ρ) (hb : Bound env s.heap n v) (h3 : okN n = true) (q : Q v s) :
    wpAny M A (eval (.Name n p) env) Q E s := by
  have hd : (n == ("__debug__" : Str)) = false := by unfold okN at h3; simpa using h3
  unfold Bound at hb
  split at hb
  · rename_i hk
    obtain ⟨m, hn, hm⟩ := hb
    exact wpAny_Name (wpAny_loadName_local F.kind hk hn hm q) hd
  · rename_i hk
    obtain ⟨c, hc, hv⟩ := hb
    exact wpAny_Name (wpAny_loadName_cell F.kind hk hc hv q) hd
  · exact hb.elim
theorem get_slot {i : Nat} {x : V} (h : getV ρ i = some x) : ρ[i]? = some x ∧ notU x := by
  unfold getV at h
  split at h
  · cases h
  · cases h; exact ⟨by assumption, by unfold notU; split <;> simp_all⟩
  · cases h
theorem retO_ok (i : Nat) : SOK1 W fuel (.retO i) := by
  intro cx st env A v₀ ms₀ ms s ρ out hc hz F R
  simp only [ex_q1, ex_q2, ex_q3, ex_q4, ex_q5, ex_q6, ex_q7, ex_q8, ex_q9, ex_q10, ex_q11, ex_q12, ex_q13, ex_q14, ex_q15, ex_q16] at hz
  obtain ⟨x, hx, rfl⟩ := Option.map_eq_some_iff.mp hz
  refine sRet_c hc fun ov q hc => oSome_c hc fun v hc => eName_c hc fun n p hc => ?_
  simp only [Bool.and_eq_true, beq_iff_eq] at hc
  obtain ⟨hi, hd⟩ := sl1_of hc.1
  have hb : cx.isOwn i = true := by unfold Cx.isOwn; rw [hc.2]; simp
  have hx' := get_slot hx
  obtain ⟨v, g1, g2, _⟩ := F.slots i n x hi.1 hx'.1 hx'.2 hi.2.1
  have g2 := g2 hb
  refine wpAny_Return_some (bound_name F.ef g1 hd ⟨ShK.refl _, v, rfl, F.keep, ?_⟩)
  have no : ∀ {a : Addr}, v₀ a = none → a ∉ ms₀ := fun {a} h q => by obtain ⟨o, e⟩ := F.live0 a q; rw [h] at e; cases e
  cases x with
  | list l =>
    obtain ⟨a, vs, k, e1, e2, e3, e4, e5⟩ := g2
    simp only [Rep_q1, Rep_q2, Rep_q3, Rep_q4, Rep_q5, Rep_q6, Rep_q7, Rep_q8, Rep_q9]
    exact ⟨a, ({ cls := .type "list", data := .seq (List.toArray vs) k } : Obj), vs, k, e1, by rw [hid_of (no e3)]; exact e4, rfl, rfl, Reps.mono (hid_sub F.sub) _ _ e5⟩
  | inst l =>
    obtain ⟨e0, x, dx, es, k, e1, e2, e3, e4, e5, e6, e7, e8, e9⟩ := g2
    simp only [Rep_q1, Rep_q2, Rep_q3, Rep_q4, Rep_q5, Rep_q6, Rep_q7, Rep_q8, Rep_q9]
    exact ⟨x, dx, es, k, e1.1, by rw [hid_of (no e4)]; exact e7, by rw [hid_of (no e5)]; exact e8, Ents.mono (hid_sub F.sub) _ _ _ e9⟩
  | _ => exact g2.elim
theorem brk_ok : SOK1 W fuel .brk := by
  intro cx st env A v₀ ms₀ ms s ρ out hc hz F R
  simp only [ex_q1, ex_q2, ex_q3, ex_q4, ex_q5, ex_q6, ex_q7, ex_q8, ex_q9, ex_q10, ex_q11, ex_q12, ex_q13, ex_q14, ex_q15, ex_q16, Option.some.injEq] at hz
  subst hz
  refine sBrk_c hc fun q => ?_
  exact wpAny_Break ⟨ShK.refl _, rfl, ms, Grow.refl _ _, F⟩

end
end Mine
end
section
set_option maxRecDepth 100000
set_option backward.match.sparseCases false
namespace Mine
open PySem PySem.W PyProof.Rows PySem.Calls PySem.SeqAt

section
variable {prog : Program} {w : World} {A : Around} {E : Value → Shared → Prop} {s : Shared}
theorem setItem_plain {l : Addr} {items : Array Value} {n : Nat} {k : Int} {t : Tok} {v : Value} {Q : Unit → Shared → Prop} (ho : s.heap.get? l = some { cls := .type "list", data := .seq items n })
    (h0 : 0 ≤ k) (hfit : k < 2 ^ 63) (hn : k < items.size)
    (hQ : ∀ h' n', h'.get? l = some { cls := .type "list", data := .seq (items.setIfInBounds k.toNat v) n' } → Heap.SameBut l s.heap h' → Q () { s with heap := h' }) :
    wpAny (model prog w) A (setItem (.ref l) (.int k t) v) Q E s := by
  have hl : s.heap.IsList l items := ⟨_, ho, rfl, n, rfl⟩
  unfold setItem
  refine wpAny_holding ?_
  refine wpAny_bind (wpAny_sequenceKey hl.typeIs (by decide) ?_)
  refine wpAny_bind (wpAny_callSpecial?_slot (name := Str.ofString "__setitem__") hl.typeIs slot_list_setitem
    (wpAny_call_entry slot_list_setitem hl.typeIs entry_list_setitem ?_ (args_list_setitem _ _ _)))
  show wpAny _ _ (Builtin.List.listSubscript? (.int k t) >>= _) _ _ s
  refine wpAny_bind (wpAny_listSubscript_int (fitsIndex_of h0 hfit) ?_)
  clear hfit
  obtain ⟨j, rfl⟩ := Int.eq_ofNat_of_zero_le h0
  have hj : j < items.size := by lia
  have hx' : items[j]? = some items[j] := Array.getElem?_eq_getElem hj
  show wpAny _ _ ((seqItemAt l j >>= fun r => pure (r.map (j, ·))) >>= _) _ _ s
  refine wpAny_bind (wpAny_bind (wpAny_seqItemAt ho rfl (wpAny_pure ?_)))
  rw [hx']
  show wpAny _ _ (setSeqItemAt l j v >>= _) _ _ s
  have hfin : ∃ n', (s.heap.update l (Obj.mapSeq (·.setIfInBounds j v))).get? l = some { cls := .type "list", data := .seq (items.setIfInBounds j v) n' } :=
    ⟨_, Heap.get?_update_self _ ho rfl⟩
  obtain ⟨n', hfin⟩ := hfin
  refine wpAny_bind (wpAny_setSeqItemAt ho rfl ?_)
  first
    | exact wpAny_bind (wpAny_pure (wpAny_pure ⟨.none, rfl, wpAny_pure (hQ _ _ hfin (Heap.SameBut.update ..))⟩))
    | exact wpAny_pure ⟨.none, rfl, wpAny_pure (hQ _ _ hfin (Heap.SameBut.update ..))⟩
end

section
variable {W : Wd} {cx : Cx} {env : Env} {v₀ : View} {ms₀ ms : List Addr} {ρ : List V} {s : Shared} {A : Around} {fuel : Nat}

theorem wrs_cases {is : List Nat} {ts : List Expr} (h : wrs cx is ts = true) : (is = [] ∧ ts = []) ∨ ∃ i is' n p ts', is = i :: is' ∧ ts = .Name n p :: ts' ∧ wr cx i n = true ∧ wrs cx is' ts' = true := by
  cases is with
  | nil => exact nil_c (G := fun ts => (([] : List Nat) = [] ∧ ts = []) ∨ _) h (.inl ⟨rfl, rfl⟩)
  | cons i is =>
    cases ts with
    | nil => exact absurd h Bool.false_ne_true
    | cons t ts =>
      refine and_c h fun h1 h2 => ?_
      exact eName_c (G := fun t => (i :: is = [] ∧ t :: ts = []) ∨ ∃ i' is' n p ts', i :: is = i' :: is' ∧ t :: ts = .Name n p :: ts' ∧ wr cx i' n = true ∧ wrs cx is' ts' = true) h1 fun n p h1 => .inr ⟨i, is, n, p, ts, rfl, rfl, h1, h2⟩
theorem many_ok {x : V} {v : Value} : ∀ {ts : List Expr} {is : List Nat} {ρ : List V} {s : Shared}, wrs cx is ts = true → FS W cx env v₀ ms₀ ms s.heap ρ → Rep W.g.C (hid ms s.heap) x v →
    wpAny (model W.prog W.w) A (assignAll v ((assignEach ts env).map (·.2))) (fun _ s' => ShK s s' ∧ FS W cx env v₀ ms₀ ms s'.heap (is.foldl (fun ρ i => ρ.set i x) ρ)) (fun _ _ => False) s := by
  intro ts
  induction ts with
  | nil =>
    intro is ρ s h F r
    rcases wrs_cases h with ⟨rfl, _⟩ | ⟨_, _, _, _, _, _, h, _⟩
    · exact wpAny_pure ⟨ShK.refl _, F⟩
    · cases h
  | cons t ts ih =>
    intro is ρ s h F r
    rcases wrs_cases h with ⟨_, h⟩ | ⟨i, is', n, p, ts', rfl, e, h1, h2⟩
    · cases h
    injection e with e1 e2
    subst e1 e2
    obtain ⟨hi, hd, hb⟩ := wr_of h1
    have one : ∀ (Q : Unit → Shared → Prop), (∀ s', ShK s s' → FS W cx env v₀ ms₀ ms s'.heap (ρ.set i x) → Rep W.g.C (hid ms s'.heap) x v → Q () s') → wpAny (model W.prog W.w) A (assign (.Name n p) env v) Q (fun _ _ => False) s := by
      intro Q q
      refine wpAny_assign_Name (wpAny_mono (store_ok F hi (fun q => by rw [hb] at q; cases q) (fun _ => r) (shape_no hb)) (fun _ s' h => ?_) fun _ _ f => f)
      obtain ⟨h', tk, b, rfl, hs, hbm, _, F'⟩ := h
      refine q _ ⟨h', tk, rfl⟩ F' ?_
      dsimp only
      rw [hid_same hbm hs]; exact r
    cases ts with
    | nil =>
      rcases wrs_cases h2 with ⟨rfl, _⟩ | ⟨_, _, _, _, _, _, h, _⟩
      · exact one _ fun s' k F' r' => ⟨k, F'⟩
      · cases h
    | cons t ts =>
      have e : ((assignEach (.Name n p :: t :: ts) env).map (·.2)) = assign (.Name n p) env :: (assignEach (t :: ts) env).map (·.2) := rfl
      rw [e]
      have e2 : ∃ f fs, (assignEach (t :: ts) env).map (·.2) = f :: fs := by cases t <;> exact ⟨_, _, rfl⟩
      obtain ⟨f, fs, e2⟩ := e2
      rw [e2]
      show wpAny _ _ (holding [v] (assign (.Name n p) env v) >>= fun _ => assignAll v (f :: fs)) _ _ _
      refine wpAny_bind (wpAny_holding (one _ fun s' k F' r' => ?_))
      rw [← e2]
      exact wpAny_mono (ih h2 F' r') (fun _ s'' q => ⟨ShK.trans k q.1, q.2⟩) fun _ _ f => f

theorem asgM_ok (hAll : ∀ x, AllOK W x) (is : List Nat) (e : X) : SOK1 W fuel (.asgM is e) := by
  intro cx st env A v₀ ms₀ ms s ρ out hc hz F R
  simp only [ex_q1, ex_q2, ex_q3, ex_q4, ex_q5, ex_q6, ex_q7, ex_q8, ex_q9, ex_q10, ex_q11, ex_q12, ex_q13, ex_q14, ex_q15, ex_q16] at hz
  obtain ⟨x, hx, rfl⟩ := Option.map_eq_some_iff.mp hz
  refine sAssign_c hc fun ts v q hc => ?_
  simp only [Bool.and_eq_true, decide_eq_true_eq] at hc
  obtain ⟨⟨h1, h2⟩, h3⟩ := hc
  have hts : ∃ a b r, ts = a :: b :: r := by
    match ts, h2 with
    | a :: b :: r, _ => exact ⟨a, b, r, rfl⟩
    | [_], h => simp at h
    | [], h => simp at h
  obtain ⟨a, b, r, rfl⟩ := hts
  refine wpAny_Assign_stores (seqEv ((hAll e).e _ _ _ _ _ _ _ _ _ h3 hx F.ef R).1 fun u s₁ k ru => ?_) rfl (by cases a <;> rfl)
  refine wpAny_mono (many_ok h1 (F.keeps (Keeps.heap k)) ru) (fun _ s' q => ?_) fun _ _ f => f
  exact post_next (ShK.trans (ShK.of k) q.1) (Grow.refl _ _) q.2

theorem swaps_some {v : Expr} {t : Expr} {l : Nat} (h : ∀ n p, t ≠ .Name n p) : swapsWith v (some t) l env = pure false := by
  cases v <;> first | rfl | (cases t <;> first | rfl | exact absurd rfl (h _ _))
theorem pos_name {n : Str} {p : Pos} : (Expr.Name n p).pos = p := rfl
set_option backward.match.sparseCases true in
theorem swapped_raw {env : Env} {a b : Str} {p1 p2 p p' : Pos} {vs : List Expr} {k k'} (h1 : vs.length = 2) (hbk : env.blockKind = .function) (hs : vs.any isStar = false) (ka : env.kindOf a = some .local) (kb : env.kindOf b = some .local)
    (h5 : (p2.line == p1.line) = true) (hab : (b == a) = false) (h7 : vs.all (foldedForSure 8) = false) (h8 : vs.all (constantsAlone 8) = false) :
    swappedStores [.Tuple [.Name a p1, .Name b p2] k p] (.Tuple vs k' p') env = pure (some [a, b]) := by
  have hany : (vs.any fun | .Starred .. => true | _ => false) = false := by
    rw [show (fun (e : Expr) => match e with | .Starred .. => true | _ => false) = isStar from funext fun e => by cases e <;> rfl]
    exact hs
  have hed : [a, b].eraseDups = [a, b] := by
    simp [List.eraseDups_cons, hab]
  unfold swappedStores
  dsimp only
  rw [if_neg (by rw [h1, hbk]; exact Bool.false_ne_true)]
  refine (if_neg fun q => Bool.false_ne_true (hany.symm.trans q)).trans ?_
  generalize hf : List.filterMap _ [Expr.Name a p1, Expr.Name b p2] = ns
  have e : ns = [a, b] := by
    rw [← hf, List.filterMap_cons, List.filterMap_cons, List.filterMap_nil]
    dsimp only [List.head?_cons, Option.map_some, Option.getD_some, pos_name]
    simp only [ka, kb, h5, beq_self_eq_true, Bool.and_self, if_true]
  subst e
  rw [hed]
  refine (if_neg (Bool.false_ne_true : ¬ (false = true))).trans ((if_neg fun q => Bool.false_ne_true (h7.symm.trans q)).trans (if_neg fun q => Bool.false_ne_true (h8.symm.trans q)))
theorem swapped_some (E : EF W.B W.g.C cx env ms s.heap ρ) {a b : Str} {p1 p2 p p' : Pos} {vs : List Expr} {k k'} (h : swp cx a p1 b p2 vs = true) :
    swappedStores [.Tuple [.Name a p1, .Name b p2] k p] (.Tuple vs k' p') env = pure (some [a, b]) := by
  unfold swp at h
  simp only [Bool.and_eq_true, beq_iff_eq, Bool.not_eq_true'] at h
  obtain ⟨⟨⟨⟨⟨⟨⟨h1, h2⟩, h3⟩, h4⟩, h5⟩, h6⟩, h7⟩, h8⟩ := h
  exact swapped_raw h1 (by unfold Env.blockKind; rw [E.kind]; rfl) h2 ((kindOf_eq E a).trans h3) ((kindOf_eq E b).trans h4) (beq_iff_eq.mpr h5) (by rw [beq_eq_false_iff_ne] at h6 ⊢; exact Ne.symm h6) h7 h8

theorem unp_ok (hAll : ∀ x, AllOK W x) (is : List Nat) (e : X) : SOK1 W fuel (.unp is e) := by
  intro cx st env A v₀ ms₀ ms s ρ out hc hz F R
  simp only [ex_q1, ex_q2, ex_q3, ex_q4, ex_q5, ex_q6, ex_q7, ex_q8, ex_q9, ex_q10, ex_q11, ex_q12, ex_q13, ex_q14, ex_q15, ex_q16] at hz
  obtain ⟨x, hx, hz⟩ := Option.bind_eq_some_iff.mp hz
  split at hz
  · rename_i l
    obtain ⟨ρ', hρ, rfl⟩ := Option.map_eq_some_iff.mp hz
    revert hρ
    refine two_c hc fun i j hc => sAssign_c hc fun ts v q hc => one_c hc fun t hc => eTup_c hc fun ns k p hc => two_c hc fun xa xb hc => eNm_c hc fun a p1 hc => eNm_c hc fun b p2 hc => ?_
    intro hρ
    simp only [Bool.and_eq_true, Bool.not_eq_true', beq_eq_false_iff_ne] at hc
    obtain ⟨⟨⟨⟨h1, h2⟩, h3⟩, h4⟩, h5⟩ := hc
    obtain ⟨ia, da, oa⟩ := wr_of h1
    obtain ⟨ib, db, ob⟩ := wr_of h2
    have hl : ∃ x y, l = [x, y] ∧ ρ' = (ρ.set i x).set j y := by
      cases l with
      | nil => exact no_e hρ
      | cons x l => cases l with
        | nil => exact no_e hρ
        | cons y l => cases l with
          | nil => exact ⟨x, y, rfl, (Option.some.inj hρ).symm⟩
          | cons => exact no_e hρ
    obtain ⟨x, y, rfl, rfl⟩ := hl
    have two : ∀ (s₁ : Shared) (i j : Nat) (a b : Str) (x y : V) (u w : Value), Slot1 cx i a → Slot1 cx j b → cx.isOwn i = false → cx.isOwn j = false → FS W cx env v₀ ms₀ ms s₁.heap ρ → Rep W.g.C (hid ms s₁.heap) x u → Rep W.g.C (hid ms s₁.heap) y w →
        wpAny (model W.prog W.w) A (storeName env a u) (fun _ s₂ => wpAny (model W.prog W.w) A (storeName env b w) (fun _ s₃ => ShK s₁ s₃ ∧ FS W cx env v₀ ms₀ ms s₃.heap ((ρ.set i x).set j y)) (fun _ _ => False) s₂) (fun _ _ => False) s₁ := by
      intro s₁ i j a b x y u w ia ib oa ob F₁ ru rw'
      refine wpAny_mono (store_ok F₁ ia (fun q => by rw [oa] at q; cases q) (fun _ => ru) (shape_no oa)) (fun _ s' h => ?_) fun _ _ f => f
      obtain ⟨h', tk, b', rfl, hs, hbm, _, F'⟩ := h
      refine wpAny_mono (store_ok (s := { s₁ with heap := h', toks := tk }) F' ib (fun q => by rw [ob] at q; cases q) (fun _ => by dsimp only; rw [hid_same hbm hs]; exact rw') (shape_no ob)) (fun _ s' h => ?_) fun _ _ f => f
      obtain ⟨h'', tk', b', rfl, hs, hbm, _, F''⟩ := h
      exact ⟨⟨h'', tk', rfl⟩, F''⟩
    have hev := fun Q => seqEv (Q := Q) ((hAll e).e _ _ _ _ _ _ _ _ _ h4 hx F.ef R).1
    by_cases hv : ∃ vs k' p', v = .Tuple vs k' p'
    · obtain ⟨vs, k', p', rfl⟩ := hv
      have h5 : swp cx a p1 b p2 vs = true := h5
      rw [exec_Assign_arm]
      refine wpAny_bind (wpAny_standAt ?_)
      rw [show swapsWithSole [.Tuple [.Name a p1, .Name b p2] k p] (.Tuple vs k' p') q.line env = pure false from rfl]
      refine wpAny_bind (wpAny_pure ?_)
      rw [if_neg (by decide)]
      refine wpAny_bind (hev _ fun u s₁ kk r => ?_)
      rw [swapped_some F.ef h5]
      refine wpAny_bind (wpAny_pure ?_)
      have r : Rep W.g.C (hid ms s₁.heap) (.tup [x, y]) u := r
      simp only [Rep_q1, Rep_q2, Rep_q3, Rep_q4, Rep_q5, Rep_q6, Rep_q7, Rep_q8, Rep_q9] at r
      obtain ⟨ta, o, ws, z, rfl, e1, e2, e3, e4⟩ := r
      simp only [Reps_q1, Reps_q2] at e4
      obtain ⟨v1, _, rfl, r1, v2, _, rfl, r2, rfl⟩ := e4
      have F₁ := F.keeps (Keeps.heap kk)
      show wpAny _ _ (do
        rule "assign.swapped-stores"
        let items ← unpackItems (.ref ta) 2 none
        assignInOrder [bindName env b, bindName env a] items.reverse
        pure Flow.next) _ _ _
      refine wpAny_bind (wpAny_rule (wpAny_bind (wpAny_unpackItems_tuple (items := #[v1, v2]) R.hd ⟨o, hid_get e1, e2, z, e3⟩ fun h₁ he => ?_)))
      have k₁ : ∀ b o, s₁.heap.get? b = some o → h₁.get? b = some o := fun b o e => he b o (Nat.ne_of_lt (Heap.lt_size e)) e
      have tw := two { s₁ with heap := h₁ } j i b a y x v2 v1 ib ia ob oa (F₁.keeps k₁) (Rep.mono (hid_mono k₁) _ _ r2) (Rep.mono (hid_mono k₁) _ _ r1)
      refine wpAny_bind (wpAny_assignInOrder_more (wpAny_bindName (wpAny_mono tw (fun _ s₂ h₂ => ?_) fun _ _ f => f)))
      refine wpAny_assignInOrder_more (wpAny_bindName (wpAny_mono h₂ (fun _ s₃ h₃ => ?_) fun _ _ f => f))
      refine wpAny_assignInOrder_none (wpAny_pure ?_)
      refine post_next (ShK.trans (ShK.of kk) (ShK.trans ⟨h₁, s₁.toks, rfl⟩ h₃.1)) (Grow.refl _ _) ?_
      rw [List.set_comm _ _ h3]
      exact h₃.2
    · have hsw : swappedStores [.Tuple [.Name a p1, .Name b p2] k p] v env = pure none := by
        cases v <;> first | rfl | exact absurd ⟨_, _, _, rfl⟩ hv
      refine wpAny_Assign_stores (hev _ fun u s₁ kk r => ?_) (show swapsWith v (some (.Tuple [.Name a p1, .Name b p2] k p)) q.line env = pure false from swaps_some (by intro n p h; cases h)) hsw
      have r : Rep W.g.C (hid ms s₁.heap) (.tup [x, y]) u := r
      simp only [Rep_q1, Rep_q2, Rep_q3, Rep_q4, Rep_q5, Rep_q6, Rep_q7, Rep_q8, Rep_q9] at r
      obtain ⟨ta, o, ws, z, rfl, e1, e2, e3, e4⟩ := r
      simp only [Reps_q1, Reps_q2] at e4
      obtain ⟨v1, _, rfl, r1, v2, _, rfl, r2, rfl⟩ := e4
      have F₁ := F.keeps (Keeps.heap kk)
      show wpAny _ _ (assign (.Tuple [.Name a p1, .Name b p2] k p) env (.ref ta)) _ _ _
      refine wpAny_assign_Tuple (items := #[v1, v2]) R.hd ⟨o, hid_get e1, e2, z, e3⟩ rfl rfl fun h₁ he => ?_
      have k₁ : ∀ b o, s₁.heap.get? b = some o → h₁.get? b = some o := fun b o e => he b o (Nat.ne_of_lt (Heap.lt_size e)) e
      show wpAny _ _ (assignInOrder [assign (.Name a p1) env, assign (.Name b p2) env] [v1, v2]) _ _ _
      have tw := two { s₁ with heap := h₁ } i j a b x y v1 v2 ia ib oa ob (F₁.keeps k₁) (Rep.mono (hid_mono k₁) _ _ r1) (Rep.mono (hid_mono k₁) _ _ r2)
      refine wpAny_assignInOrder_more (wpAny_assign_Name (wpAny_mono tw (fun _ s₂ h₂ => ?_) fun _ _ f => f))
      refine wpAny_assignInOrder_more (wpAny_assign_Name (wpAny_mono h₂ (fun _ s₃ h₃ => ?_) fun _ _ f => f))
      refine wpAny_assignInOrder_none ?_
      exact post_next (ShK.trans (ShK.of kk) (ShK.trans ⟨h₁, s₁.toks, rfl⟩ h₃.1)) (Grow.refl _ _) h₃.2
  · cases hz

theorem aug_ok (hAll : ∀ x, AllOK W x) (i : Nat) (op : Operator) (e : X) : SOK1 W fuel (.aug i op e) := by
  intro cx st env A v₀ ms₀ ms s ρ out hc hz F R
  simp only [ex_q1, ex_q2, ex_q3, ex_q4, ex_q5, ex_q6, ex_q7, ex_q8, ex_q9, ex_q10, ex_q11, ex_q12, ex_q13, ex_q14, ex_q15, ex_q16] at hz
  obtain ⟨x, hx, hz⟩ := Option.bind_eq_some_iff.mp hz
  obtain ⟨y, hy, hz⟩ := Option.bind_eq_some_iff.mp hz
  split at hz
  · rename_i a b _
    obtain ⟨z, hz3, rfl⟩ := Option.map_eq_some_iff.mp hz
    refine sAug_c hc fun t op' v q hc => eName_c hc fun n p hc => ?_
    simp only [Bool.and_eq_true, Bool.or_eq_true, beq_iff_eq] at hc
    obtain ⟨⟨⟨h0, rfl⟩, h1⟩, h2⟩ := hc
    obtain ⟨hi, hd, hb⟩ := wr_of h1
    have hx' := get_slot hx
    obtain ⟨vo, g1, _, g3⟩ := F.slots i n _ hi.1 hx'.1 hx'.2 hi.2.1
    have g3 := g3 hb
    simp only [Rep_q1, Rep_q2, Rep_q3, Rep_q4, Rep_q5, Rep_q6, Rep_q7, Rep_q8, Rep_q9] at g3
    obtain ⟨t, rfl⟩ := g3
    have ld : ∀ Q : Value → Shared → Prop, Q (.int a t) s → wpAny (model W.prog W.w) A (loadName env n) Q (fun _ _ => False) s := by
      intro Q q
      unfold Bound at g1
      split at g1
      · rename_i hk
        obtain ⟨m, hn, hm⟩ := g1
        exact wpAny_loadName_local F.kind hk hn hm q
      · rename_i hk
        obtain ⟨c, hc, hv⟩ := g1
        exact wpAny_loadName_cell F.kind hk hc hv q
      · exact g1.elim
    refine wpAny_AugAssign_Name (ld _ (seqEv ((hAll e).e _ _ _ _ _ _ _ _ _ h2 hy F.ef R).1 fun u s₁ k r => ?_))
    have r : Rep W.g.C (hid ms s₁.heap) (.int b) u := r
    simp only [Rep_q1, Rep_q2, Rep_q3, Rep_q4, Rep_q5, Rep_q6, Rep_q7, Rep_q8, Rep_q9] at r
    obtain ⟨t', rfl⟩ := r
    have F₁ := F.keeps (Keeps.heap k)
    have fin : ∀ c : Int, z = .int c → wpAny (model W.prog W.w) A (storeName env n (.int c s₁.toks)) (fun _ s' => ShK s s' ∧ Post W cx env v₀ ms₀ ms (.next (ρ.set i z)) .next s') (fun _ _ => False) { s₁ with toks := s₁.toks + 1 } := by
      rintro c rfl
      exact store_post (s := { s₁ with toks := s₁.toks + 1 }) (x := .int c) F₁ hi hb (by simp only [Rep_q1, Rep_q2, Rep_q3, Rep_q4, Rep_q5, Rep_q6, Rep_q7, Rep_q8, Rep_q9]; exact ⟨_, rfl⟩) (ShK.trans (ShK.of k) ⟨s₁.heap, _, rfl⟩) (Grow.refl _ _) rfl rfl
    rcases h0 with rfl | rfl
    · exact wpAny_iadd_int (fin _ (Option.some.inj hz3).symm)
    · exact isub_int (fin _ (Option.some.inj hz3).symm)
  · cases hz
end
end Mine
end
section
set_option maxRecDepth 100000
set_option backward.match.sparseCases false
namespace Mine
open PySem PySem.W PyProof.Rows PySem.Calls PySem.SeqAt

section
variable {W : Wd} {cx : Cx} {env : Env} {v₀ : View} {ms₀ ms : List Addr} {ρ : List V} {s : Shared} {A : Around} {fuel : Nat} {h h' : Heap}

theorem ns_list {L a : Addr} {vs : List Value} {k : Nat} (hn : ∃ m, h.Ns L m) (e : h.get? a = some { cls := .type "list", data := .seq (List.toArray vs) k }) : a ≠ L := by
  rintro rfl
  obtain ⟨m, o, es, ep, ho, hd, _⟩ := hn
  rw [e] at ho; cases ho; cases hd
theorem cell_list {c a : Addr} {vs : List Value} {k : Nat} {v : Option Value} (hn : h.IsCell c v) (e : h.get? a = some { cls := .type "list", data := .seq (List.toArray vs) k }) : a ≠ c := by
  rintro rfl
  obtain ⟨o, ho, hd⟩ := hn
  rw [e] at ho; cases ho; cases hd
theorem bound_same {b : Addr} {n : Str} {v : Value} (hB : Bound env h n v) (hs : Heap.SameBut b h h') (nL : b ≠ env.locals) (nC : ∀ n c, env.cells.lookup n = some c → b ≠ c) : Bound env h' n v := by
  unfold Bound at hB ⊢
  split at hB
  · obtain ⟨m, x, y⟩ := hB; exact ⟨m, x.sameBut hs (Ne.symm nL), y⟩
  · obtain ⟨c, x, y⟩ := hB; exact ⟨c, x, y.sameBut hs (Ne.symm (nC _ _ x))⟩
  · exact hB

theorem own_upd (F : FS W cx env v₀ ms₀ ms h ρ) {i : Nat} {n : Str} (hi : cx.slots[i]? = some n) (ho : cx.own = some i) {a : Addr} {vs vs' : List Value} {k k' : Nat} {l' : List V} (hB : Bound env h n (.ref a)) (ha : a ∈ ms) (h0 : v₀ a = none)
    (e : h.get? a = some { cls := .type "list", data := .seq (List.toArray vs) k }) (hs : Heap.SameBut a h h') (e' : h'.get? a = some { cls := .type "list", data := .seq (List.toArray vs') k' }) (r : Reps W.g.C (hid ms h) l' vs')
    (hself : (cx.self && i == 0) = false) : FS W cx env v₀ ms₀ ms h' (ρ.set i (.list l')) := by
  have nL := ns_list F.ns.2.2 e
  have nC : ∀ n c, env.cells.lookup n = some c → a ≠ c := fun n c q => let ⟨_, _, w, hw⟩ := F.cells n c q; cell_list hw e
  obtain ⟨m, hm⟩ := F.ns.2.2
  refine F.upd ha h0 hs ⟨_, e'⟩ ⟨m, hm.sameBut hs (Ne.symm nL)⟩ (fun n c q => let ⟨_, _, w, hw⟩ := F.cells n c q; ⟨w, hw.sameBut hs (Ne.symm (nC n c q))⟩) (shape_set F.shape ⟨fun _ => ⟨l', rfl⟩, fun q => by rw [hself] at q; cases q⟩) ?_
  intro j n' x' e1 e2 e3 e4
  by_cases q : j = i
  · subst q
    obtain rfl := set_at e2
    rw [hi] at e1; cases e1
    refine ⟨.ref a, bound_same hB hs nL nC, fun _ => ⟨a, vs', k', rfl, ha, h0, e', by rw [hid_same ha hs]; exact r⟩, fun q => ?_⟩
    unfold Cx.isOwn at q; rw [ho] at q; simp at q
  · rw [List.getElem?_set_ne (Ne.symm q)] at e2
    obtain ⟨v', g1, g2, g3⟩ := F.slots j n' x' e1 e2 e3 e4
    refine ⟨v', bound_same g1 hs nL nC, fun w => ?_, g3⟩
    have hj : (cx.self && j == 0) = true := by
      unfold Cx.isOwn at w
      rw [ho] at w
      simp only [Bool.or_eq_true, beq_iff_eq, Option.some.injEq] at w
      exact w.resolve_left (Ne.symm q)
    obtain ⟨l, rfl⟩ := (F.shape j x' e2 e3).2 hj
    obtain ⟨e0, x, dx, es, k2, e1', e2', e3', e4', e5, e6, e7, e8, e9⟩ := g2 w
    refine ⟨e0, x, dx, es, k2, e1', e2', e3', e4', e5, e6, hs.extBut _ _ ?_ e7, hs.extBut _ _ ?_ e8, by rw [hid_same ha hs]; exact e9⟩
    · rintro rfl; rw [e] at e7; cases congrArg Obj.data (Option.some.inj e7)
    · rintro rfl; rw [e] at e8; cases congrArg Obj.data (Option.some.inj e8)

theorem own_slot (F : FS W cx env v₀ ms₀ ms h ρ) {i : Nat} {n : Str} {l : List V} (hi : Slot1 cx i n) (ho : cx.own = some i) (hx : getV ρ i = some (.list l)) :
    ∃ a vs k, Bound env h n (.ref a) ∧ a ∈ ms ∧ v₀ a = none ∧ h.get? a = some { cls := .type "list", data := .seq (List.toArray vs) k } ∧ Reps W.g.C (hid ms h) l vs ∧ (cx.self && i == 0) = false := by
  have hx' := get_slot hx
  obtain ⟨v, g1, g2, _⟩ := F.slots i n _ hi.1 hx'.1 hx'.2 hi.2.1
  obtain ⟨a, vs, k, rfl, e2, e3, e4, e5⟩ := g2 (by unfold Cx.isOwn; rw [ho]; simp)
  refine ⟨a, vs, k, g1, e2, e3, e4, e5, ?_⟩
  cases q : (cx.self && i == 0) with
  | false => rfl
  | true => obtain ⟨l', e⟩ := (F.shape i _ hx'.1 hx'.2).2 q; cases e

theorem setI_ok (hAll : ∀ x, AllOK W x) (i : Nat) (ke e : X) : SOK1 W fuel (.setI i ke e) := by
  intro cx st env A v₀ ms₀ ms s ρ out hc hz F R
  simp only [ex_q1, ex_q2, ex_q3, ex_q4, ex_q5, ex_q6, ex_q7, ex_q8, ex_q9, ex_q10, ex_q11, ex_q12, ex_q13, ex_q14, ex_q15, ex_q16] at hz
  obtain ⟨y, hy, hz⟩ := Option.bind_eq_some_iff.mp hz
  obtain ⟨x, hx, hz⟩ := Option.bind_eq_some_iff.mp hz
  obtain ⟨z, hz', hz⟩ := Option.bind_eq_some_iff.mp hz
  split at hz
  · rename_i l j _
    split at hz
    · rename_i hj
      cases hz
      refine sAssign_c hc fun ts v q hc => one_c hc fun t hc => eSub_c hc fun o je p' hc => eName_c hc fun n p hc => ?_
      simp only [Bool.and_eq_true, beq_iff_eq] at hc
      obtain ⟨⟨⟨h1, ho⟩, h2⟩, h3⟩ := hc
      obtain ⟨hi, hd⟩ := sl1_of h1
      refine wpAny_Assign_Subscript (seqEv ((hAll e).e _ _ _ _ _ _ _ _ _ h3 hy F.ef R).1 fun u s₁ k r => ?_) (swaps_some (by intro n p h; cases h))
      have F₁ := F.keeps (Keeps.heap k)
      obtain ⟨a, vs, kk, hB, ha, h0, e1, e2, hself⟩ := own_slot F₁ hi ho hx
      refine bound_name F₁.ef hB hd ?_
      refine seqEv ((hAll ke).e _ _ _ _ _ _ _ _ _ h2 hz' F₁.ef R).1 fun ku s₂ k₂ rk => ?_
      have F₂ := F₁.keeps (Keeps.heap k₂)
      have rk : Rep W.g.C (hid ms s₂.heap) (.int j) ku := rk
      simp only [Rep_q1, Rep_q2, Rep_q3, Rep_q4, Rep_q5, Rep_q6, Rep_q7, Rep_q8, Rep_q9] at rk
      obtain ⟨t, rfl⟩ := rk
      have hsm := small_bounds hj.2.2
      have e1' := Keeps.heap k₂ _ _ e1
      have e2' := Reps.mono (hid_mono (Keeps.heap k₂)) _ _ e2
      refine setItem_plain e1' hj.1 (by lia) (by rw [List.size_toArray, e2.length]; exact hj.2.1) fun h' n' e3 hs => ?_
      rw [List.setIfInBounds_toArray] at e3
      refine post_next (ShK.trans (ShK.of (Keeps.trans k k₂)) ⟨h', s₂.toks, rfl⟩) (Grow.refl _ _) ?_
      exact own_upd F₂ hi.1 ho (hB.keeps (Keeps.heap k₂)) ha h0 e1' hs e3 (Reps.set _ e2' (Rep.mono (hid_mono (Keeps.heap k₂)) _ _ (show Rep W.g.C (hid ms s₁.heap) y u from r))) hself
    · cases hz
  · cases hz

theorem app_ok (hAll : ∀ x, AllOK W x) (i : Nat) (e : X) : SOK1 W fuel (.app i e) := by
  intro cx st env A v₀ ms₀ ms s ρ out hc hz F R
  simp only [ex_q1, ex_q2, ex_q3, ex_q4, ex_q5, ex_q6, ex_q7, ex_q8, ex_q9, ex_q10, ex_q11, ex_q12, ex_q13, ex_q14, ex_q15, ex_q16] at hz
  obtain ⟨x, hx, hz⟩ := Option.bind_eq_some_iff.mp hz
  obtain ⟨y, hy, hz⟩ := Option.bind_eq_some_iff.mp hz
  split at hz
  · rename_i l _
    split at hz
    · rename_i hl
      cases hz
      refine sExpr_c hc fun x q hc => eCal_c hc fun fn es kw pos hc => and_c hc fun hk hc => nil_c hk (eAttr_c hc fun o a apos hc => eName_c hc fun n p hc => one_c hc fun xe hc => ?_)
      simp only [Bool.and_eq_true, beq_iff_eq] at hc
      obtain ⟨⟨⟨h1, rfl⟩, h2⟩, h3⟩ := hc
      unfold wo at h1
      simp only [Bool.and_eq_true, beq_iff_eq] at h1
      obtain ⟨⟨h1, ho⟩, hns⟩ := h1
      obtain ⟨hi, hd⟩ := sl1_of h1
      have hint : interactive env = false := by unfold interactive; rw [F.kind]; rfl
      obtain ⟨aa, vs, kk, hB, ha, h0, e1, e2, hself⟩ := own_slot F hi ho hx
      refine wpAny_Expr ?_ hint rfl
      have hpl : backTo pos (starEach [xe] env) = [xe].map fun e => (false, eval e env) := chks_plain (g := W.g) (o := false) (cx := cx) (x := .cons e .nil) (Bool.and_eq_true_iff.mpr ⟨h2, rfl⟩)
      refine meth_any rfl (by rw [h3]; simp) (by simp) hpl (bound_name F.ef hB hd ?_)
      refine getMethod_list_append e1 rfl rfl ?_
      refine callWith_of (P := fun _ => True) (noStar _) (fun _ _ => ⟨.machine, .inr (.inl rfl), Looks.of_pure rfl⟩) (evalArgs_list (spliced_cons ?_))
      refine seqEv ((hAll e).e _ _ _ _ _ _ _ _ _ h2 hy F.ef R).1 fun u s₁ k r => spliced_nil ⟨trivial, ?_⟩
      have F₁ := F.keeps (Keeps.heap k)
      have e1' := Keeps.heap k _ _ e1
      refine wpAny_list_append_plain ⟨kk, e1'⟩ (fun h' hl' hs => ?_) (by rw [List.size_toArray, e2.length]; exact Nat.le_trans (Nat.le_of_lt hl) (by decide))
      obtain ⟨n', e3⟩ := hl'
      rw [List.push_toArray] at e3
      refine post_next (ShK.trans (ShK.of k) ⟨h', s₁.toks, rfl⟩) (Grow.refl _ _) ?_
      exact own_upd F₁ hi.1 ho (hB.keeps (Keeps.heap k)) ha h0 e1' hs e3 (Reps.append (Reps.mono (hid_mono (Keeps.heap k)) _ _ e2) (Reps.cons (show Rep W.g.C (hid ms s₁.heap) y u from r) Reps.nil)) hself
    · cases hz
  · cases hz
end
end Mine
end
section
set_option maxRecDepth 100000
set_option backward.match.sparseCases false
namespace Mine
open PySem PySem.W PyProof.Rows PySem.Calls PySem.SeqAt

structure GSet (K : Frag) (g : Gx) : Prop where
  set : findIn K (.ref g.C) "__setattr__" = some (some (.builtin "object.__setattr__"))
  over : plainOver K g.C = true
  taker : ∀ n ∈ attrN, takerIn K g.C n = some none

section
variable {prog : Program} {w : World} {A : Around} {E : Value → Shared → Prop} {s : Shared} {K : Frag} {R : Result → Shared → Prop}

theorem osa_raw {C x dx : Addr} {name : Str} {tk : Tok} {v : Value} {es : List DictEntry} {n : Nat} (X : K.In s.heap) (h1 : s.heap.get? x = some (instObj C dx)) (D : s.heap.get? dx = some { cls := .type "dict", data := .dict (List.toArray es) n })
    (hp : plainOver K C = true) (ht : takerIn K C name = some none) (hh : hasDictIn K C = true) (hl : es.find? (·.key.isStr name) = none) (hr : es.any (·.refKey) = false) (hz : es.length ≤ 999)
    (h : ∀ h' k, Heap.SameBut dx s.heap h' → h'.get? dx = some { cls := .type "dict", data := .dict (List.toArray (es ++ [⟨PyData.keyHash w.params name, .str name s.toks, v⟩])) k } → R (.ok (.ret .none)) { s with heap := h', toks := s.toks + 1 }) :
    codeAny (model prog w) A (.call (.builtin "object.__setattr__") ⟨[.ref x, .str name tk, v], []⟩) R s := by
  have I := inst_at h1 D
  refine osa_open X I hp ht fun b => ?_
  obtain ⟨cd, hc, hd'⟩ := any_some (show (clsIn K C).any (·.hasDict) = true from hh)
  have e1 : Obj.putName name (PyData.keyHash w.params name) (.str name s.toks) v { cls := .type "dict", data := .dict (List.toArray es) n } = { cls := .type "dict", data := .dict (List.toArray (es ++ [⟨PyData.keyHash w.params name, .str name s.toks, v⟩])) (n + 1) } := by
    rw [Obj.putName_eq]
    unfold Obj.putNameByArray
    dsimp only
    have : (List.toArray es).findIdx? (fun x => x.key.isStr name) = none := by
      rw [List.findIdx?_toArray, List.findIdx?_eq_none_iff]
      intro e he
      have := List.find?_eq_none.mp hl e he
      simpa using this
    rw [this]
    dsimp only
    rw [List.push_toArray]
  have D' : (s.heap.update dx (Obj.putName name (PyData.keyHash w.params name) (.str name s.toks) v)).get? dx = some { cls := .type "dict", data := .dict (List.toArray (es ++ [⟨PyData.keyHash w.params name, .str name s.toks, v⟩])) (n + 1) } := by
    rw [Heap.get?_update_self _ D (by rw [e1]; rfl), e1]
  refine wpAny_bind (wpAny_pure (wpAny_bind (wpAny_bind (wpAny_loadPart h1 (wpAny_bind ((looks_clsIn X hc).here ?_))))))
  rw [hd']
  refine wpAny_pure (a := some dx) (wpAny_bind (wpAny_pure (wpAny_bind ?_)))
  unfold nsSet
  refine wpAny_bind (wpAny_bind (wpAny_askSetting (wpAny_pure (wpAny_bind (wpAny_mkText (wpAny_bind (wpAny_loadPart D ?_)))))))
  dsimp only
  have c : (!(List.toArray es).any (·.key.isStr name) && (List.toArray es).any (·.refKey)) = false := by
    rw [List.any_toArray, List.any_toArray, hr, Bool.and_false]
  rw [aRefKeyMayBeTheName_at, c]
  refine wpAny_updatePart D ?_
  refine wpAny_bind (wpAny_lookBehind D' (pastItsLine_dict (by rw [List.size_toArray, List.length_append, sizeLine_eq]; simp; grind)) ?_)
  exact wpAny_pure (h _ _ (Heap.SameBut.update ..) D')
end

theorem ents_snoc {C : Addr} {g : View} {y : V} : ∀ {l : List V} {ns : List Str} {es : List DictEntry} {n : Str} {e : DictEntry}, Ents C g l ns es → ns[l.length]? = some n → (∃ t, e.key = .str n t) → Rep C g y e.val → Ents C g (l ++ [y]) ns (es ++ [e])
  | [], ns, es, n, e, h, hn, hk, hr => by
    simp only [Ents_q1, Ents_q2] at h; subst h
    cases ns with
    | nil => simp at hn
    | cons m ns =>
      simp at hn; subst hn
      simp only [List.nil_append, Ents_q1, Ents_q2]
      exact ⟨m, ns, e, [], rfl, rfl, hk, hr, rfl⟩
  | x :: xs, ns, es, n, e, h, hn, hk, hr => by
    simp only [Ents_q1, Ents_q2] at h
    obtain ⟨m, ns', e', es', rfl, rfl, h1, h2, h3⟩ := h
    simp only [List.cons_append, Ents_q1, Ents_q2]
    exact ⟨m, ns', e', es' ++ [e], rfl, rfl, h1, h2, ents_snoc h3 (by simpa using hn) hk hr⟩
theorem ents_new {C : Addr} {g : View} : ∀ {l : List V} {ns : List Str} {es : List DictEntry} {n : Str} {i : Nat}, Ents C g l ns es → ns.Nodup → ns[i]? = some n → l.length ≤ i → es.find? (·.key.isStr n) = none ∧ es.any (·.refKey) = false ∧ es.length = l.length
  | [], _, _, _, _, h, _, _, _ => by simp only [Ents_q1, Ents_q2] at h; subst h; simp
  | x :: xs, ns, es, n, i, h, hnd, hn, hi => by
    simp only [Ents_q1, Ents_q2] at h
    obtain ⟨m, ns', e', es', rfl, rfl, ⟨t, hk⟩, h2, h3⟩ := h
    obtain ⟨hm, hnd⟩ := List.nodup_cons.mp hnd
    cases i with
    | zero => simp at hi
    | succ i =>
      simp at hn hi
      obtain ⟨f1, f2, f3⟩ := ents_new h3 hnd hn hi
      have this : (m == n) = false := by
        simp only [beq_eq_false_iff_ne]; intro q; subst q; exact hm (List.mem_of_getElem? hn)
      have q : e'.key.isStr n = false := by rw [hk]; exact this
      refine ⟨by rw [List.find?_cons, q]; exact f1, by rw [List.any_cons, f2]; simp [DictEntry.refKey, hk], by simp [f3]⟩

section
variable {W : Wd} {cx : Cx} {env : Env} {v₀ : View} {ms₀ ms : List Addr} {ρ : List V} {s : Shared} {A : Around} {fuel : Nat} {h h' : Heap}

theorem Assign_Attr {M : Model} {E : Value → Shared → Prop} {o : Expr} {a : Str} {pos' pos : Pos} {value : Expr} {Q : Flow → Shared → Prop}
    (h : wpAny M A (eval value env) (fun v s₁ => wpAny M A (eval o env) (fun ov s₂ => wpAny M A (setAttr ov a v) (fun _ => Q .next) E s₂) E s₁) E s) : wpAny M A (exec (.Assign [.Attribute o a pos'] value pos) env) Q E s := by
  refine wpAny_Assign_stores (wpAny_mono h (fun v s₁ h₁ => ?_) fun _ _ e => e) (show swapsWith value (some (.Attribute o a pos')) pos.line env = pure false from swaps_some (by intro n p h; cases h)) (by cases value <;> rfl)
  show wpAny M A (assign (.Attribute o a pos') env v) _ _ _
  rw [arm_assign_Attribute]
  refine wpAny_bind (wpAny_holding (wpAny_mono h₁ (fun ov s₂ h₂ => wpAny_bind (wpAny_standAt (wpAny_bind (wpAny_holding (wpAny_mono h₂ (fun _ s₃ h₃ => ?_) fun _ _ e => e))))) fun _ _ e => e))
  exact fun Γ p hΓ => by rw [Sem.wp_release]; exact h₃

theorem setA_ok (O : WOK W) (GS : GSet W.K W.g) (hAll : ∀ x, AllOK W x) (a : Nat) (e : X) : SOK1 W fuel (.setA a e) := by
  intro cx st env A v₀ ms₀ ms s ρ out hc hz F R
  simp only [ex_q1, ex_q2, ex_q3, ex_q4, ex_q5, ex_q6, ex_q7, ex_q8, ex_q9, ex_q10, ex_q11, ex_q12, ex_q13, ex_q14, ex_q15, ex_q16] at hz
  obtain ⟨y, hy, hz⟩ := Option.bind_eq_some_iff.mp hz
  split at hz
  · rename_i l h0
    split at hz
    · rename_i hla
      cases hz
      refine sAssign_c hc fun ts v q hc => one_c hc fun t hc => eAttr_c hc fun ob attr p' hc => eName_c hc fun n p hc => ?_
      simp only [Bool.and_eq_true, beq_iff_eq] at hc
      obtain ⟨⟨⟨hself, h1⟩, h2⟩, h3⟩ := hc
      obtain ⟨hi, hd⟩ := sl1_of h1
      refine Assign_Attr (seqEv ((hAll e).e _ _ _ _ _ _ _ _ _ h3 hy F.ef R).1 fun u s₁ k r => ?_)
      have F₁ := F.keeps (Keeps.heap k)
      have r : Rep W.g.C (hid ms s₁.heap) y u := r
      have how : cx.isOwn 0 = true := by unfold Cx.isOwn; rw [hself]; simp
      obtain ⟨ov, hB, g2, _⟩ := F₁.slots 0 n _ hi.1 h0 trivial hi.2.1
      obtain ⟨e0, x, dx, es, kk, ⟨rfl, hxL⟩, m1, m2, z1, z2, nL, o1, o2, o3⟩ := g2 how
      refine bound_name F₁.ef hB hd ?_
      have hlt : attrN[l.length]? = some attr := by rw [hla.1]; exact h2
      obtain ⟨f1, f2, f3⟩ := ents_new o3 attrN_nodup hlt (Nat.le_refl _)
      refine set_plain (O.X.keeps F₁.st.base) (inst_at o1 o2) GS.set ?_
      refine osa_raw (s := { s₁ with toks := s₁.toks + 1 }) (O.X.keeps F₁.st.base) o1 o2 GS.over (GS.taker attr (List.mem_of_getElem? h2)) O.G.dict f1 f2 (by rw [f3, hla.1]; lia) fun h' k' hs e' => ?_
      refine post_next (ShK.trans (ShK.of k) ⟨h', _, rfl⟩) (Grow.refl _ _) ?_
      dsimp only at hs e' ⊢
      have nC : ∀ n c, env.cells.lookup n = some c → dx ≠ c := fun n c q => by
        obtain ⟨_, _, w, o, ho, hdd⟩ := F₁.cells n c q
        rintro rfl; rw [o2] at ho; cases ho; cases hdd
      obtain ⟨m, hm⟩ := F₁.ns.2.2
      have hxd : x ≠ dx := by rintro rfl; rw [o1] at o2; cases congrArg Obj.data (Option.some.inj o2)
      have hsh : Shape cx 0 (.inst l) := F₁.shape 0 _ h0 trivial
      refine F₁.upd m2 z2 hs ⟨_, e'⟩ ⟨m, hm.sameBut hs (Ne.symm nL)⟩ (fun n c q => let ⟨_, _, w, hw⟩ := F₁.cells n c q; ⟨w, hw.sameBut hs (Ne.symm (nC n c q))⟩) (shape_set F₁.shape ⟨fun q => (by obtain ⟨_, e⟩ := hsh.1 q; cases e), fun _ => ⟨_, rfl⟩⟩) ?_
      intro j n' x' e1 e2 e3 e4
      by_cases q : j = 0
      · subst q
        obtain rfl := set_at e2
        rw [hi.1] at e1; cases e1
        refine ⟨.ref x, bound_same hB hs nL nC, fun _ => ⟨e0, x, dx, _, k', ⟨rfl, hxL⟩, m1, m2, z1, z2, nL, hs.extBut _ _ hxd o1, e', ?_⟩, fun q => by rw [how] at q; cases q⟩
        rw [hid_same m2 hs]
        exact ents_snoc o3 hlt ⟨_, rfl⟩ r
      · rw [List.getElem?_set_ne (Ne.symm q)] at e2
        obtain ⟨v', g1, g2, g3⟩ := F₁.slots j n' x' e1 e2 e3 e4
        refine ⟨v', bound_same g1 hs nL nC, fun w => ?_, g3⟩
        have hj : cx.own = some j := by
          unfold Cx.isOwn at w
          simp only [Bool.or_eq_true, beq_iff_eq, Bool.and_eq_true] at w
          exact w.resolve_right fun r => q r.2
        obtain ⟨l', rfl⟩ := (F₁.shape j x' e2 e3).1 hj
        obtain ⟨a', vs, k2, rfl, b2, b3, b4, b5⟩ := g2 w
        refine ⟨a', vs, k2, rfl, b2, b3, hs.extBut _ _ ?_ b4, by rw [hid_same m2 hs]; exact b5⟩
        rintro rfl; rw [o2] at b4; cases congrArg Obj.data (Option.some.inj b4)
    · cases hz
  · cases hz
end
end Mine
end
section
set_option maxRecDepth 100000
set_option backward.match.sparseCases false
namespace Mine
open PySem PySem.W PyProof.Rows PySem.Calls PySem.SeqAt

section
variable {W : Wd} {cx : Cx} {env : Env} {v₀ : View} {ms₀ ms : List Addr} {ρ : List V} {s : Shared} {A : Around} {fuel : Nat} {h h' : Heap}

theorem skip_ok : SOK W fuel .skip := by
  intro cx sts env A v₀ ms₀ ms s ρ out hc hz F R
  simp only [ex_q1, ex_q2, ex_q3, ex_q4, ex_q5, ex_q6, ex_q7, ex_q8, ex_q9, ex_q10, ex_q11, ex_q12, ex_q13, ex_q14, ex_q15, ex_q16, Option.some.injEq] at hz
  subst hz
  refine nil_c hc ?_
  exact wpAny_execs_nil ⟨ShK.refl _, rfl, ms, Grow.refl _ _, F⟩
theorem post_after {s s₁ s' : Shared} {ms ms₁ : List Addr} {out : Out} {f : Flow} (k : ShK s s₁) (g : Grow v₀ ms ms₁) (h : ShK s₁ s' ∧ Post W cx env v₀ ms₀ ms₁ out f s') : ShK s s' ∧ Post W cx env v₀ ms₀ ms out f s' := by
  refine ⟨ShK.trans k h.1, ?_⟩
  obtain ⟨_, h⟩ := h
  cases out with
  | next ρ' => obtain ⟨e, ms', g', F⟩ := h; exact ⟨e, ms', g.trans g', F⟩
  | brk ρ' => obtain ⟨e, ms', g', F⟩ := h; exact ⟨e, ms', g.trans g', F⟩
  | ret v => exact h
theorem seq_ok {a b : S} (ha : SOK1 W fuel a) (hb : SOK W fuel b) : SOK W fuel (.seq a b) := by
  intro cx sts env A v₀ ms₀ ms s ρ out hc hz F R
  simp only [ex_q1, ex_q2, ex_q3, ex_q4, ex_q5, ex_q6, ex_q7, ex_q8, ex_q9, ex_q10, ex_q11, ex_q12, ex_q13, ex_q14, ex_q15, ex_q16] at hz
  obtain ⟨o, h1, hz⟩ := Option.bind_eq_some_iff.mp hz
  refine chkS_c hc fun st rest c1 c2 => ?_
  · refine wpAny_execs_cons (wpAny_mono (ha _ _ _ _ _ _ _ _ _ _ c1 h1 F R) (fun f s₁ q => ?_) fun _ _ f => f)
    obtain ⟨k, q⟩ := q
    cases o with
    | next ρ' =>
      obtain ⟨rfl, ms', g, F'⟩ := q
      exact wpAny_mono (hb _ _ _ _ _ _ _ _ _ _ c2 hz F' R) (fun f s₂ q => post_after k g q) fun _ _ f => f
    | brk ρ' =>
      obtain ⟨rfl, ms', g, F'⟩ := q
      cases hz
      exact ⟨k, rfl, ms', g, F'⟩
    | ret v =>
      obtain ⟨u, rfl, q⟩ := q
      cases hz
      exact ⟨k, u, rfl, q⟩

theorem iff_ok (hAll : ∀ x, AllOK W x) (c : X) {a b : S} (ha : SOK W fuel a) (hb : SOK W fuel b) : SOK1 W fuel (.iff c a b) := by
  intro cx st env A v₀ ms₀ ms s ρ out hc hz F R
  simp only [ex_q1, ex_q2, ex_q3, ex_q4, ex_q5, ex_q6, ex_q7, ex_q8, ex_q9, ex_q10, ex_q11, ex_q12, ex_q13, ex_q14, ex_q15, ex_q16] at hz
  obtain ⟨t, h1, hz⟩ := Option.bind_eq_some_iff.mp hz
  refine sIf_c hc fun t body orelse q hc => ?_
  simp only [Bool.and_eq_true] at hc
  obtain ⟨⟨h2, h3⟩, h4⟩ := hc
  refine wpAny_If (seqEv ((hAll c).t _ _ _ _ _ _ _ _ h2 h1 F.ef R) fun t' s₁ k ht => ?_)
  subst ht
  have F₁ := F.keeps (Keeps.heap k)
  cases t' with
  | true => exact wpAny_mono (ha _ _ _ _ _ _ _ _ _ _ h3 hz F₁ R) (fun f s₂ q => post_after (ShK.of k) (Grow.refl _ _) q) fun _ _ f => f
  | false => exact wpAny_mono (hb _ _ _ _ _ _ _ _ _ _ h4 hz F₁ R) (fun f s₂ q => post_after (ShK.of k) (Grow.refl _ _) q) fun _ _ f => f

theorem whl_ok (hAll : ∀ x, AllOK W x) (c : X) {b : S} (hb : SOK W fuel b) : SOK1 W fuel (.whl c b) := by
  intro cx st env A v₀ ms₀ ms s ρ out hc hz F R
  simp only [ex_q1, ex_q2, ex_q3, ex_q4, ex_q5, ex_q6, ex_q7, ex_q8, ex_q9, ex_q10, ex_q11, ex_q12, ex_q13, ex_q14, ex_q15, ex_q16] at hz
  refine sWhile_c hc fun t body orelse p hc => and_c hc fun hor hc => nil_c hor ?_
  rw [Bool.and_eq_true] at hc
  refine wpAny_While (codeAny_mono (R := fun r s' => match r with | .ok f => ShK s s' ∧ Post W cx env v₀ ms₀ ms out f s' | .error _ => False) ?_ fun r s' q => by cases r <;> first | exact q | exact q.elim)
  refine codeAny_whileLoop (fun n s' => ∃ ρ' ms', ShK s s' ∧ Grow v₀ ms ms' ∧ FS W cx env v₀ ms₀ ms' s'.heap ρ' ∧ whileGo (fun ρ => tst W.F ρ c) (ex W.F fuel b) n ρ' = some out) ?_ fuel ⟨ρ, ms, ShK.refl _, Grow.refl _ _, F, hz⟩
  rintro n s' ⟨ρ', ms', k, g, F', hgo⟩
  cases n with
  | zero => simp [whileGo_q1, whileGo_q2] at hgo
  | succ n =>
    simp only [whileGo_q1, whileGo_q2] at hgo
    obtain ⟨tv, h1, hgo⟩ := Option.bind_eq_some_iff.mp hgo
    refine wpAny_mono (E := fun _ _ => False) ?_ (fun _ _ q => q) fun _ _ f => f.elim
    refine seqEv ((hAll c).t _ _ _ _ _ _ _ _ hc.1 h1 F'.ef R) fun t' s₁ k₁ ht => ?_
    subst ht
    have F₁ := F'.keeps (Keeps.heap k₁)
    cases t' with
    | true =>
      simp only [if_true] at hgo ⊢
      obtain ⟨o, h2, hgo⟩ := Option.bind_eq_some_iff.mp hgo
      refine wpAny_mono (hb _ _ _ _ _ _ _ _ _ _ hc.2 h2 F₁ R) (fun f s₂ q => ?_) fun _ _ f => f.elim
      have q' := post_after (ShK.trans k (ShK.of k₁)) g q
      clear q
      cases o with
      | next ρ'' =>
        obtain ⟨k2, rfl, ms'', g2, F2⟩ := q'
        exact ⟨n, Nat.lt_succ_self _, ρ'', ms'', k2, g2, F2, hgo⟩
      | brk ρ'' =>
        obtain ⟨k2, rfl, q⟩ := q'
        cases hgo
        exact ⟨k2, rfl, q⟩
      | ret v =>
        obtain ⟨k2, u, rfl, q⟩ := q'
        cases hgo
        exact ⟨k2, u, rfl, q⟩
    | false =>
      simp only [Bool.false_eq_true, if_false] at hgo ⊢
      cases hgo
      exact wpAny_execs_nil ⟨ShK.trans k (ShK.of k₁), rfl, ms', g, F₁⟩

/-- more is known to stay -/
theorem FS.more {v₁ : View} (F : FS W cx env v₀ ms₀ ms h ρ) (h1 : ∀ b o, v₀ b = some o → v₁ b = some o) (h2 : ∀ b o, v₁ b = some o → h.get? b = some o) (h3 : ∀ b ∈ ms, v₀ b = none → v₁ b = none) : FS W cx env v₁ ms₀ ms h ρ where
  st := F.st
  kind := F.kind
  names := F.names
  glo := F.glo
  bui := F.bui
  cel := F.cel
  slots := fun i n x a b c d => by
    obtain ⟨v, g1, g2, g3⟩ := F.slots i n x a b c d
    refine ⟨v, g1, fun e => ?_, g3⟩
    have g2 := g2 e
    cases x with
    | list l => obtain ⟨a, vs, k, e1, e2, e3, e4, e5⟩ := g2; exact ⟨a, vs, k, e1, e2, h3 _ e2 e3, e4, e5⟩
    | inst l => obtain ⟨e0, x, dx, es, k, e1, e2, e3, e4, e5, e6, e7, e8, e9⟩ := g2; exact ⟨e0, x, dx, es, k, e1, e2, e3, h3 _ e2 e4, h3 _ e3 e5, e6, e7, e8, e9⟩
    | _ => exact g2.elim
  shape := F.shape
  nd := F.nd
  keep := h2
  sub := F.sub
  live0 := fun a ha => let ⟨o, e⟩ := F.live0 a ha; ⟨o, h1 _ _ e⟩
  ns := ⟨F.ns.1, h3 _ F.ns.1 F.ns.2.1, F.ns.2.2⟩
  cells := fun n c e => let ⟨a, b, v, hv⟩ := F.cells n c e; ⟨a, h3 _ a b, v, hv⟩
  inj := F.inj
theorem FS.less {v₁ : View} (F : FS W cx env v₁ ms₀ ms h ρ) (h1 : ∀ b o, v₀ b = some o → v₁ b = some o) (h4 : ∀ a ∈ ms₀, ∃ o, v₀ a = some o) : FS W cx env v₀ ms₀ ms h ρ := by
  have hn : ∀ b, v₁ b = none → v₀ b = none := fun b e => by
    cases q : v₀ b with
    | none => rfl
    | some o => rw [h1 b o q] at e; cases e
  exact {
    st := F.st
    kind := F.kind
    names := F.names
    glo := F.glo
    bui := F.bui
    cel := F.cel
    slots := fun i n x a b c d => by
      obtain ⟨v, g1, g2, g3⟩ := F.slots i n x a b c d
      refine ⟨v, g1, fun e => ?_, g3⟩
      have g2 := g2 e
      cases x with
      | list l => obtain ⟨a, vs, k, e1, e2, e3, e4, e5⟩ := g2; exact ⟨a, vs, k, e1, e2, hn _ e3, e4, e5⟩
      | inst l => obtain ⟨e0, x, dx, es, k, e1, e2, e3, e4, e5, e6, e7, e8, e9⟩ := g2; exact ⟨e0, x, dx, es, k, e1, e2, e3, hn _ e4, hn _ e5, e6, e7, e8, e9⟩
      | _ => exact g2.elim
    shape := F.shape
    nd := F.nd
    keep := fun b o e => F.keep b o (h1 b o e)
    sub := F.sub
    live0 := h4
    ns := ⟨F.ns.1, hn _ F.ns.2.1, F.ns.2.2⟩
    cells := fun n c e => let ⟨a, b, v, hv⟩ := F.cells n c e; ⟨a, hn _ b, v, hv⟩
    inj := F.inj }

/-- the iterator has moved -/
theorem FS.moved {I : Addr} (F : FS W cx env v₀ ms₀ ms h ρ) (hI : I ∈ ms) (hI0 : I ∉ ms₀) (hv : ∃ o, v₀ I = some o) (k : ∀ b o, b ≠ I → h.get? b = some o → h'.get? b = some o) (hl : ∃ o, h'.get? I = some o) :
    FS W cx env (fun b => if b = I then h'.get? I else v₀ b) ms₀ ms h' ρ := by
  have ne : ∀ {b}, v₀ b = none → b ≠ I := fun e q => by subst q; obtain ⟨o, e'⟩ := hv; rw [e] at e'; cases e'
  have nv : ∀ {b}, v₀ b = none → (if b = I then h'.get? I else v₀ b) = none := fun e => by rw [if_neg (ne e)]; exact e
  have vw : VLe (hid ms h) (hid ms h') := hid_but fun b o hb e => k b o (by rintro rfl; exact hb hI) e
  exact {
    st := by
      refine ⟨fun b o e => k b o ?_ (F.st.base b o e), ?_, F.st.low⟩
      · rintro rfl; rw [F.st.low _ hI] at e; cases e
      · intro b hb
        by_cases q : b = I
        · subst q; exact hl
        · obtain ⟨o, e⟩ := F.st.live b hb; exact ⟨o, k _ _ q e⟩
    kind := F.kind
    names := F.names
    glo := F.glo
    bui := F.bui
    cel := F.cel
    slots := fun i n x a b c d => by
      obtain ⟨v, g1, g2, g3⟩ := F.slots i n x a b c d
      refine ⟨v, ?_, fun e => ?_, fun e => Rep.mono vw _ _ (g3 e)⟩
      · unfold Bound at g1 ⊢
        split at g1
        · obtain ⟨m, x, y⟩ := g1
          refine ⟨m, x.extBut (b := I) (fun b o hb e => k b o hb e) (ne F.ns.2.1), y⟩
        · obtain ⟨c, x, o, ho, hd⟩ := g1
          exact ⟨c, x, o, k _ _ (ne (F.cells _ _ x).2.1) ho, hd⟩
        · exact g1
      · have g2 := g2 e
        cases x with
        | list l => obtain ⟨a, vs, z, e1, e2, e3, e4, e5⟩ := g2; exact ⟨a, vs, z, e1, e2, nv e3, k _ _ (ne e3) e4, Reps.mono vw _ _ e5⟩
        | inst l => obtain ⟨e0, x, dx, es, z, e1, e2, e3, e4, e5, e6, e7, e8, e9⟩ := g2; exact ⟨e0, x, dx, es, z, e1, e2, e3, nv e4, nv e5, e6, k _ _ (ne e4) e7, k _ _ (ne e5) e8, Ents.mono vw _ _ _ e9⟩
        | _ => exact g2.elim
    shape := F.shape
    nd := F.nd
    keep := fun b o e => by
      split at e
      · rename_i q; subst q; exact e
      · rename_i q; exact k b o q (F.keep b o e)
    sub := F.sub
    live0 := fun a ha => by
      obtain ⟨o, e⟩ := F.live0 a ha
      exact ⟨o, by rw [if_neg (by rintro rfl; exact hI0 ha)]; exact e⟩
    ns := ⟨F.ns.1, nv F.ns.2.1, let ⟨m, hm⟩ := F.ns.2.2; ⟨m, hm.extBut (b := I) (fun b o hb e => k b o hb e) (ne F.ns.2.1)⟩⟩
    cells := fun n c e => let ⟨a, b, v, o, ho, hd⟩ := F.cells n c e; ⟨a, nv b, v, o, k _ _ (ne b) ho, hd⟩
    inj := F.inj }

theorem FS.hideIt {a : Addr} (F : FS W cx env v₀ ms₀ ms h ρ) (ha : h.get? a = none) (k : ∀ b o, h.get? b = some o → h'.get? b = some o) (hl : ∃ o, h'.get? a = some o) :
    FS W cx env (fun b => if b = a then h'.get? a else v₀ b) ms₀ (a :: ms) h' ρ := by
  have f1 := F.hide ha k hl
  have ne : ∀ {b o}, h.get? b = some o → b ≠ a := fun e q => by rw [q, ha] at e; cases e
  have nv : ∀ {b o}, h.get? b = some o → v₀ b = none → (if b = a then h'.get? a else v₀ b) = none := fun e e' => by rw [if_neg (ne e)]; exact e'
  exact {
    st := f1.st
    kind := F.kind
    names := F.names
    glo := F.glo
    bui := F.bui
    cel := F.cel
    slots := fun i n x e1 b c d => by
      obtain ⟨v, h1, h2, h3⟩ := F.slots i n x e1 b c d
      have vw := hid_cons (ms := ms) ha k
      refine ⟨v, h1.keeps k, fun e => ?_, fun e => Rep.mono vw _ _ (h3 e)⟩
      have g2 := h2 e
      cases x with
      | list l => obtain ⟨q, vs, z, e1, e2, e3, e4, e5⟩ := g2; exact ⟨q, vs, z, e1, List.mem_cons_of_mem _ e2, nv e4 e3, k _ _ e4, Reps.mono vw _ _ e5⟩
      | inst l => obtain ⟨e0, x, dx, es, z, e1, e2, e3, e4, e5, e6, e7, e8, e9⟩ := g2; exact ⟨e0, x, dx, es, z, e1, List.mem_cons_of_mem _ e2, List.mem_cons_of_mem _ e3, nv e7 e4, nv e8 e5, e6, k _ _ e7, k _ _ e8, Ents.mono vw _ _ _ e9⟩
      | _ => exact g2.elim
    shape := F.shape
    nd := F.nd
    keep := fun b o e => by
      split at e
      · rename_i q; subst q; exact e
      · exact k b o (F.keep b o e)
    sub := f1.sub
    live0 := fun b hb => by
      obtain ⟨o, e⟩ := F.live0 b hb
      refine ⟨o, ?_⟩
      rw [if_neg (ne (F.keep b o e))]; exact e
    ns := ⟨f1.ns.1, (let ⟨m, o, _, _, ho, _⟩ := F.ns.2.2; nv ho F.ns.2.1), f1.ns.2.2⟩
    cells := fun n c e => let ⟨_, b, _, o, ho, _⟩ := F.cells n c e; ⟨(f1.cells n c e).1, nv ho b, (f1.cells n c e).2.2⟩
    inj := F.inj }

/-- the iterator is of no more use -/
theorem FS.lost {I : Addr} (F : FS W cx env v₀ ms₀ ms h ρ) (hI : I ∈ ms) (hI0 : I ∉ ms₀) (hv : ∃ o, v₀ I = some o) (k : ∀ b o, b ≠ I → h.get? b = some o → h'.get? b = some o) :
    FS W cx env (fun b => if b = I then none else v₀ b) ms₀ (ms.filter (fun a => decide (a ≠ I))) h' ρ := by
  have ne : ∀ {b}, v₀ b = none → b ≠ I := fun e q => by subst q; obtain ⟨o, e'⟩ := hv; rw [e] at e'; cases e'
  have nv : ∀ {b}, v₀ b = none → (if b = I then none else v₀ b) = none := fun e => by rw [if_neg (ne e)]; exact e
  have mem : ∀ {b}, b ∈ ms → b ≠ I → b ∈ ms.filter (fun a => decide (a ≠ I)) := fun h1 h2 => List.mem_filter.mpr ⟨h1, by simpa using h2⟩
  have vw : VLe (hid ms h) (hid (ms.filter (fun a => decide (a ≠ I))) h') := fun b o e => by
    have e' := hid_get e
    have hb : b ∉ ms := by intro q; unfold hid at e; rw [if_pos q] at e; cases e
    rw [hid_of (fun q => hb (List.mem_filter.mp q).1)]
    exact k b o (by rintro rfl; exact hb hI) e'
  exact {
    st := by
      refine ⟨fun b o e => k b o ?_ (F.st.base b o e), ?_, fun b hb => F.st.low b (List.mem_filter.mp hb).1⟩
      · rintro rfl; rw [F.st.low _ hI] at e; cases e
      · intro b hb
        obtain ⟨h1, h2⟩ := List.mem_filter.mp hb
        obtain ⟨o, e⟩ := F.st.live b h1
        exact ⟨o, k _ _ (by simpa using h2) e⟩
    kind := F.kind
    names := F.names
    glo := F.glo
    bui := F.bui
    cel := F.cel
    slots := fun i n x a b c d => by
      obtain ⟨v, g1, g2, g3⟩ := F.slots i n x a b c d
      refine ⟨v, ?_, fun e => ?_, fun e => Rep.mono vw _ _ (g3 e)⟩
      · unfold Bound at g1 ⊢
        split at g1
        · obtain ⟨m, x, y⟩ := g1
          refine ⟨m, x.extBut (b := I) (fun b o hb e => k b o hb e) (ne F.ns.2.1), y⟩
        · obtain ⟨c, x, o, ho, hd⟩ := g1
          exact ⟨c, x, o, k _ _ (ne (F.cells _ _ x).2.1) ho, hd⟩
        · exact g1
      · have g2 := g2 e
        cases x with
        | list l => obtain ⟨a, vs, z, e1, e2, e3, e4, e5⟩ := g2; exact ⟨a, vs, z, e1, mem e2 (ne e3), nv e3, k _ _ (ne e3) e4, Reps.mono vw _ _ e5⟩
        | inst l => obtain ⟨e0, x, dx, es, z, e1, e2, e3, e4, e5, e6, e7, e8, e9⟩ := g2; exact ⟨e0, x, dx, es, z, e1, mem e2 (ne e4), mem e3 (ne e5), nv e4, nv e5, e6, k _ _ (ne e4) e7, k _ _ (ne e5) e8, Ents.mono vw _ _ _ e9⟩
        | _ => exact g2.elim
    shape := F.shape
    nd := F.nd
    keep := fun b o e => by
      split at e
      · cases e
      · rename_i q; exact k b o q (F.keep b o e)
    sub := fun b hb => mem (F.sub b hb) (by rintro rfl; exact hI0 hb)
    live0 := fun a ha => by
      obtain ⟨o, e⟩ := F.live0 a ha
      exact ⟨o, by rw [if_neg (by rintro rfl; exact hI0 ha)]; exact e⟩
    ns := ⟨mem F.ns.1 (ne F.ns.2.1), nv F.ns.2.1, let ⟨m, hm⟩ := F.ns.2.2; ⟨m, hm.extBut (b := I) (fun b o hb e => k b o hb e) (ne F.ns.2.1)⟩⟩
    cells := fun n c e => let ⟨a, b, v, o, ho, hd⟩ := F.cells n c e; ⟨mem a (ne b), nv b, v, o, k _ _ (ne b) ho, hd⟩
    inj := F.inj }

/-- what holds at the head of a loop over items -/
inductive FInv (W : Wd) (cx : Cx) (env : Env) (v₁ : View) (vv : Heap → View) (ms₀ ms : List Addr) (s : Shared) (St : Nat → Heap → Prop) (xs : List V) (go : List V → List V → Option Out) (out : Out) : Nat → Shared → Prop
  | mk {s' : Shared} (j : Nat) (ρ' : List V) (ms' : List Addr) (hj : j ≤ xs.length) (k : ShK s s') (g : Grow v₁ ms ms') (F : FS W cx env (vv s'.heap) ms₀ ms' s'.heap ρ') (st : St j s'.heap) (hgo : go (xs.drop j) ρ' = some out) :
    FInv W cx env v₁ vv ms₀ ms s St xs go out (xs.length + 1 - j) s'

theorem for_ok (hAll : ∀ x, AllOK W x) (i : Nat) (it : X) {b : S} (hb : SOK W fuel b) : SOK1 W fuel (.for i it b) := by
  intro cx st env A v₀ ms₀ ms s ρ out hc hz F R
  simp only [ex_q1, ex_q2, ex_q3, ex_q4, ex_q5, ex_q6, ex_q7, ex_q8, ex_q9, ex_q10, ex_q11, ex_q12, ex_q13, ex_q14, ex_q15, ex_q16] at hz
  obtain ⟨xv, hx, hz⟩ := Option.bind_eq_some_iff.mp hz
  obtain ⟨xs, hxs, hz⟩ := Option.bind_eq_some_iff.mp hz
  refine sFor_c hc fun t iter body orelse q hc => and_c hc fun hor hc => nil_c hor (eName_c hc fun n p hc => ?_)
  simp only [Bool.and_eq_true] at hc
  obtain ⟨⟨h1, h2⟩, h3⟩ := hc
  obtain ⟨hi, hd, hno⟩ := wr_of h1
  refine wpAny_For (seqEv ((hAll it).e _ _ _ _ _ _ _ _ _ h2 hx F.ef R).1 fun v s₁ k₁ r₁ => ?_) (folded_id h2)
  have F₁ := F.keeps (Keeps.heap k₁)
  have r₁ : Rep W.g.C (hid ms s₁.heap) xv v := r₁
  refine wpAny_mono (iter_ok R.hd hxs r₁.lo) (fun itv s₂ N => ?_) fun _ _ f => f
  obtain ⟨⟨I, fp, P, St, rfl, Wk, st0, hI, hIl, hfp, hP, hown, hfl⟩, kN⟩ := N
  have hfl := hfl r₁
  have k2 := Keeps.heap kN
  have hIm : I ∉ ms := F₁.st.live.not hI
  have hIm0 : I ∉ ms₀ := fun q => hIm (F.sub I q)
  have hIv : v₀ I = none := F₁.new0 hI
  have hIfp : I ∈ fp := Wk.sub I (by simp)
  -- all that is not hidden now stays
  let v₁ : View := fun b => if b ∈ ms then v₀ b else s₁.heap.get? b
  have v01 : ∀ b o, v₀ b = some o → v₁ b = some o := fun b o e => by
    show (if b ∈ ms then v₀ b else s₁.heap.get? b) = some o
    split
    · exact e
    · exact F₁.keep b o e
  have hv1 : ∀ b o, v₁ b = some o → s₁.heap.get? b = some o := fun b o e => by
    have e : (if b ∈ ms then v₀ b else s₁.heap.get? b) = some o := e
    split at e
    · exact F₁.keep b o e
    · exact e
  have v1I : v₁ I = none := by show (if I ∈ ms then v₀ I else s₁.heap.get? I) = none; rw [if_neg hIm]; exact hI
  let vv : Heap → View := fun h b => if b = I then h.get? I else v₁ b
  have v0vv : ∀ h b o, v₀ b = some o → vv h b = some o := fun h b o e => by
    show (if b = I then h.get? I else v₁ b) = some o
    rw [if_neg (by rintro rfl; rw [hIv] at e; cases e)]; exact v01 b o e
  have F₂ : FS W cx env (vv s₂.heap) ms₀ (I :: ms) s₂.heap ρ := by
    exact (F₁.more (v₁ := v₁) v01 hv1 fun b hb e => by show (if b ∈ ms then v₀ b else s₁.heap.get? b) = none; rw [if_pos hb]; exact e).hideIt hI k2 hIl
  refine codeAny_mono (R := fun r s' => match r with | .ok f => ShK s s' ∧ Post W cx env v₀ ms₀ ms out f s' | .error _ => False) ?_ fun r s' q => by cases r <;> first | exact q | exact q.elim
  have k12 : ShK s s₂ := ShK.trans (ShK.of k₁) (ShK.of kN)
  refine codeAny_forLoop_any (FInv W cx env v₁ vv ms₀ (I :: ms) s St xs (forGo (ex W.F fuel b) i) out) ?_ (xs.length + 1)
    (FInv.mk 0 ρ (I :: ms) (Nat.zero_le _) k12 (Grow.refl _ _) F₂ st0 hz)
  rintro m s' ⟨j, ρ', ms', hj, k', g', F', st', hgo⟩
  have grow0 : ∀ {ms'}, Grow v₁ (I :: ms) ms' → Grow v₀ ms ms' := fun {ms'} g => by
    refine ⟨fun a ha => g.1 a (List.mem_cons_of_mem _ ha), fun a ha => ?_⟩
    rcases g.2 a ha with q | q
    · rcases List.mem_cons.mp q with rfl | q
      · exact .inr hIv
      · exact .inl q
    · right
      cases q0 : v₀ a with
      | none => rfl
      | some o => rw [v01 a o q0] at q; cases q
  refine wpAny_mono (E := fun _ _ => False) ?_ (fun _ _ q => q) fun _ _ f => f.elim
  by_cases hlt : j < xs.length
  · refine Wk.item j _ _ _ hlt st' fun u h₃ tk₃ hPu st₃ kk => ?_
    have k3 : ∀ b o, b ≠ I → s'.heap.get? b = some o → h₃.get? b = some o := fun b o hb e => kk b o (by simpa using hb) e
    have hl3 : ∃ o, h₃.get? I = some o := by obtain ⟨o, _, e, _⟩ := hown _ _ st₃; exact ⟨o, e⟩
    have hvI : ∃ o, vv s'.heap I = some o := by
      obtain ⟨o, _, e, _⟩ := hown _ _ st'
      exact ⟨o, by show (if I = I then s'.heap.get? I else v₁ I) = some o; rw [if_pos rfl]; exact e⟩
    have F₃ : FS W cx env (vv h₃) ms₀ ms' h₃ ρ' := by
      have := F'.moved (g'.1 I (by simp)) hIm0 hvI k3 hl3
      have e : (fun b => if b = I then h₃.get? I else vv s'.heap b) = vv h₃ := by
        funext b
        show (if b = I then h₃.get? I else (if b = I then s'.heap.get? I else v₁ b)) = (if b = I then h₃.get? I else v₁ b)
        split <;> rfl
      rw [e] at this
      exact this
    obtain ⟨x, hxj, rx⟩ := hP j u hlt hPu
    have rx3 : Rep W.g.C (hid ms' h₃) x u := by
      refine Rep.mono ?_ _ _ rx
      intro c o e
      have e1 := hid_get e
      have hcm : c ∉ ms := by intro q; unfold hid at e; rw [if_pos q] at e; cases e
      have hcI : c ≠ I := by rintro rfl; rw [hI] at e1; cases e1
      have hv1c : v₁ c = some o := by show (if c ∈ ms then v₀ c else s₁.heap.get? c) = some o; rw [if_neg hcm]; exact e1
      have hcm' : c ∉ ms' := by
        intro q
        rcases g'.2 c q with q | q
        · rcases List.mem_cons.mp q with q | q
          · exact hcI q
          · exact hcm q
        · rw [hv1c] at q; cases q
      rw [hid_of hcm']
      refine F₃.keep c o ?_
      show (if c = I then h₃.get? I else v₁ c) = some o
      rw [if_neg hcI]; exact hv1c
    rw [List.drop_eq_getElem_cons hlt] at hgo
    have hxe : xs[j] = x := by rw [List.getElem?_eq_getElem hlt] at hxj; exact Option.some.inj hxj
    rw [hxe] at hgo
    simp only [forGo_q1, forGo_q2] at hgo
    obtain ⟨o, ho, hgo⟩ := Option.bind_eq_some_iff.mp hgo
    dsimp only
    refine own_go (hown _ _ st₃) ?_
    refine wpAny_assign_Name (wpAny_mono (store_ok (s := { s' with heap := h₃, toks := tk₃ }) F₃ hi (fun q => by rw [hno] at q; cases q) (fun _ => rx3) (shape_no hno)) (fun _ s₄ h₄' => ?_) fun _ _ f => f.elim)
    obtain ⟨h₄, tk₄, bb, rfl, hs4, hbm, hbk, F₄⟩ := h₄'
    have k4 : ShK s { s' with heap := h₄, toks := tk₄ } := ShK.trans k' ⟨h₄, tk₄, rfl⟩
    have bI : I ≠ bb := by
      obtain ⟨o1, e1⟩ := hl3
      have hvI3 : vv h₃ I = some o1 := by show (if I = I then h₃.get? I else v₁ I) = some o1; rw [if_pos rfl]; exact e1
      rintro rfl
      rcases hbk with e | ⟨n', e⟩
      · have := F₃.ns.2.1; rw [← e, hvI3] at this; cases this
      · have := (F₃.cells n' I e).2.1; rw [hvI3] at this; cases this
    have vv34 : vv h₃ = vv h₄ := by
      funext c
      show (if c = I then h₃.get? I else v₁ c) = (if c = I then h₄.get? I else v₁ c)
      split
      · exact (hs4.2 I bI).symm
      · rfl
    have stOf : ∀ (h : Heap), (∀ b o, vv h₃ b = some o → h.get? b = some o) → St (j + 1) h := by
      intro h hk
      refine Wk.frame _ _ _ st₃ fun b hbf o e => ?_
      by_cases q : b = I
      · subst q; exact hk b o (by show (if b = b then h₃.get? b else v₁ b) = some o; rw [if_pos rfl]; exact e)
      · obtain ⟨o', ho'⟩ := hfp b hbf q
        have hbv : v₁ b = some o' := by show (if b ∈ ms then v₀ b else s₁.heap.get? b) = some o'; rw [if_neg (hfl b hbf q)]; exact ho'
        have hbv3 : vv h₃ b = some o' := by show (if b = I then h₃.get? I else v₁ b) = some o'; rw [if_neg q]; exact hbv
        have := F₃.keep b o' hbv3
        rw [this] at e; cases e
        exact hk b _ hbv3
    have vvOf : ∀ (h : Heap), (∀ b o, vv h₃ b = some o → h.get? b = some o) → vv h₃ = vv h := by
      intro h hk
      obtain ⟨o1, e1⟩ := hl3
      funext c
      show (if c = I then h₃.get? I else v₁ c) = (if c = I then h.get? I else v₁ c)
      split
      · rw [e1, hk I o1 (by show (if I = I then h₃.get? I else v₁ I) = some o1; rw [if_pos rfl]; exact e1)]
      · rfl
    refine wpAny_mono (hb _ _ _ _ _ _ _ _ _ _ h3 ho F₄ R) (fun f s₅ q => ?_) fun _ _ f => f.elim
    obtain ⟨k5, q⟩ := q
    have gOf : ∀ {ms''}, Grow (vv h₃) ms' ms'' → Grow v₁ (I :: ms) ms'' := fun {ms''} g => by
      refine ⟨fun a ha => g.1 a (g'.1 a ha), fun a ha => ?_⟩
      rcases g.2 a ha with q | q
      · exact g'.2 a q
      · by_cases qI : a = I
        · left; rw [qI]; simp
        · right
          have q : (if a = I then h₃.get? I else v₁ a) = none := q
          rwa [if_neg qI] at q
    cases o with
    | next ρ'' =>
      obtain ⟨rfl, ms'', g2, F5⟩ := q
      refine ⟨_, turn_lt hlt, .mk (j + 1) ρ'' ms'' hlt (ShK.trans k4 k5) (gOf g2) ?_ (stOf _ F5.keep) hgo⟩
      rw [← vvOf _ F5.keep]; exact F5
    | brk ρ'' =>
      obtain ⟨rfl, ms'', g2, F5⟩ := q
      cases hgo
      exact ⟨ShK.trans k4 k5, rfl, ms'', grow0 (gOf g2), F5.less (v0vv _) F.live0⟩
    | ret w =>
      obtain ⟨u', rfl, q1, q2⟩ := q
      cases hgo
      exact ⟨ShK.trans k4 k5, u', rfl, fun b o e => q1 b o (v0vv _ b o e), q2⟩
  · have hin : j = xs.length := by lia
    subst hin
    refine Wk.done _ _ _ st' fun h₃ tk₃ kk => ?_
    have k3 : ∀ b o, b ≠ I → s'.heap.get? b = some o → h₃.get? b = some o := fun b o hb e => kk b o (by simpa using hb) e
    rw [List.drop_length] at hgo
    simp only [forGo_q1, forGo_q2, Option.some.injEq] at hgo
    subst hgo
    refine wpAny_execs_nil ⟨ShK.trans k' ⟨h₃, tk₃, rfl⟩, rfl, ?_⟩
    have hvI : ∃ o, vv s'.heap I = some o := by
      obtain ⟨o, _, e, _⟩ := hown _ _ st'
      exact ⟨o, by show (if I = I then s'.heap.get? I else v₁ I) = some o; rw [if_pos rfl]; exact e⟩
    have F5 := F'.lost (g'.1 I (by simp)) hIm0 hvI k3
    refine ⟨_, ?_, F5.less (fun b o e => ?_) F.live0⟩
    · have g0 := grow0 g'
      refine ⟨fun a ha => List.mem_filter.mpr ⟨g0.1 a ha, by simp; rintro rfl; exact hIm ha⟩, fun a ha => g0.2 a (List.mem_filter.mp ha).1⟩
    · rw [if_neg (by rintro rfl; rw [hIv] at e; cases e)]; exact v0vv _ b o e
end
end Mine
end
section
set_option maxRecDepth 100000
set_option backward.match.sparseCases false
namespace Mine
open PySem PySem.W PyProof.Rows PySem.Calls PySem.SeqAt

section
variable {W : Wd} {fuel : Nat}
theorem s_no {b : S} (h : ∀ cx sts, chkS W.g cx b sts = false) : SOK W fuel b := by
  intro cx sts env A v₀ ms₀ ms s ρ out hc; rw [h] at hc; cases hc
theorem s1_no {b : S} (h : ∀ cx st, chk1 W.g cx b st = false) : SOK1 W fuel b := by
  intro cx sts env A v₀ ms₀ ms s ρ out hc; rw [h] at hc; cases hc
theorem stmts_ok (O : WOK W) (GS : GSet W.K W.g) (b : S) : SOK W fuel b ∧ SOK1 W fuel b := by
  have hAll : ∀ x, AllOK W x := all_ok O
  induction b with
  | skip => exact ⟨skip_ok, s1_no fun _ _ => rfl⟩
  | seq a b ha hb => exact ⟨seq_ok ha.2 hb.1, s1_no fun _ _ => rfl⟩
  | asg i e => exact ⟨s_no fun _ _ => rfl, asg_ok hAll i e⟩
  | asgO i e => exact ⟨s_no fun _ _ => rfl, asgO_ok hAll i e⟩
  | asgM i e => exact ⟨s_no fun _ _ => rfl, asgM_ok hAll i e⟩
  | unp i e => exact ⟨s_no fun _ _ => rfl, unp_ok hAll i e⟩
  | aug i op e => exact ⟨s_no fun _ _ => rfl, aug_ok hAll i op e⟩
  | app i e => exact ⟨s_no fun _ _ => rfl, app_ok hAll i e⟩
  | setI i k e => exact ⟨s_no fun _ _ => rfl, setI_ok hAll i k e⟩
  | setA a e => exact ⟨s_no fun _ _ => rfl, setA_ok O GS hAll a e⟩
  | iff c a b ha hb => exact ⟨s_no fun _ _ => rfl, iff_ok hAll c ha.1 hb.1⟩
  | «for» i it b hb => exact ⟨s_no fun _ _ => rfl, for_ok hAll i it hb.1⟩
  | whl c b hb => exact ⟨s_no fun _ _ => rfl, whl_ok hAll c hb.1⟩
  | ret e => exact ⟨s_no fun _ _ => rfl, ret_ok hAll e⟩
  | retO i => exact ⟨s_no fun _ _ => rfl, retO_ok i⟩
  | brk => exact ⟨s_no fun _ _ => rfl, brk_ok⟩
end
end Mine
end
section
set_option maxRecDepth 100000
set_option backward.match.sparseCases false
namespace Mine
open PySem PySem.W PyProof.Rows PySem.Calls PySem.SeqAt

theorem bindL_not {kindOf : Str → Option NameKind} {n : Str} : ∀ {binds : List (Str × Value)} {m : Str → Option Value}, n ∉ binds.map (·.1) → bindL kindOf binds m n = m n
  | [], _, _ => rfl
  | (k, w) :: r, m, h => by
    simp only [List.map_cons, List.mem_cons, not_or] at h
    unfold bindL
    rw [bindL_not h.2]
    split
    · exact if_neg h.1
    · rfl
theorem bindL_at {kindOf : Str → Option NameKind} {n : Str} {v : Value} (hk : kindOf n = some .local) : ∀ {binds : List (Str × Value)} {m : Str → Option Value}, (binds.map (·.1)).Nodup → (n, v) ∈ binds → bindL kindOf binds m n = some v
  | [], _, _, h => by cases h
  | (k, w) :: r, m, hn, h => by
    simp only [List.map_cons, List.nodup_cons] at hn
    unfold bindL
    rcases List.mem_cons.mp h with e | h
    · cases e
      rw [bindL_not hn.1, if_pos hk]; simp
    · exact bindL_at hk hn.2 h
theorem bindC_not {kindOf : Str → Option NameKind} {n : Str} : ∀ {binds : List (Str × Value)} {m : Str → Option Value}, n ∉ binds.map (·.1) → bindC kindOf binds m n = m n
  | [], _, _ => rfl
  | (k, w) :: r, m, h => by
    simp only [List.map_cons, List.mem_cons, not_or] at h
    unfold bindC
    rw [bindC_not h.2]
    split
    · rfl
    · exact if_neg h.1
theorem bindC_at {kindOf : Str → Option NameKind} {n : Str} {v : Value} (hk : kindOf n = some .cell) : ∀ {binds : List (Str × Value)} {m : Str → Option Value}, (binds.map (·.1)).Nodup → (n, v) ∈ binds → bindC kindOf binds m n = some v
  | [], _, _, h => by cases h
  | (k, w) :: r, m, hn, h => by
    simp only [List.map_cons, List.nodup_cons] at hn
    unfold bindC
    rcases List.mem_cons.mp h with e | h
    · cases e
      rw [bindC_not hn.1, if_neg (by rw [hk]; decide)]; simp
    · exact bindC_at hk hn.2 h
theorem cells_some {n : Str} : ∀ {names : List (Str × NameKind)} {k : Nat} {acc : List (Str × Addr)}, (acc.lookup n).isSome = true ∨ (n, NameKind.cell) ∈ names → ((cellsFrom k names acc).lookup n).isSome = true
  | [], k, acc, h => h.elim id fun h => by cases h
  | (m, kk) :: r, k, acc, h => by
    unfold cellsFrom
    split
    · rename_i hk
      refine cells_some ?_
      rcases h with h | h
      · left
        rw [List.lookup_cons]
        split
        · rfl
        · exact h
      · rcases List.mem_cons.mp h with h | h
        · cases h; left; rw [List.lookup_cons, beq_self_eq_true]; rfl
        · exact .inr h
    · rename_i hk
      refine cells_some ?_
      rcases h with h | h
      · exact .inl h
      · rcases List.mem_cons.mp h with h | h
        · cases h; exact absurd rfl hk
        · exact .inr h

structure FnAt (K : Frag) (a : Addr) (cx : Cx) (params : List Str) (sts : List Stmt) : Prop where
  ex : ∃ oc od fd sl, K.lookup a = some ⟨oc, od, .func fd, sl⟩ ∧ fd.scope.names = cx.names ∧ fd.scope.kind = .function ∧ fd.scope.isCoroutine = false ∧ fd.scope.isGenerator = false ∧ fd.body = .stmts sts ∧ fd.closure = [] ∧ fd.globals = mainGlobals ∧ fd.builtins = builtinsNs ∧ codeIn K fd.code fd.qualname = true ∧
    (∀ vals, vals.length = params.length → bindArgs fd ⟨vals, []⟩ = pure (params.zip vals))
  base : cx.base = 0
  nd : cx.slots.Nodup
  par : cx.slots.take params.length = params
  acc : ∀ n ∈ params, cx.names.lookup n = some .local ∨ cx.names.lookup n = some .cell
  own : ∀ i, cx.own = some i → params.length ≤ i

section
variable {W : Wd} {cx : Cx}

noncomputable def cellsIn (env : Env) : List Addr := (env.cells.filter fun p => env.cells.lookup p.1 == some p.2).map (·.2)

theorem fs_entry {K : Frag} {a : Addr} {params : List Str} {sts : List Stmt} {env : Env} {s s₁ : Shared} {v₀ : View} {ms₀ ms₁ : List Addr} {vals : List Value} {zs : List V} {k : Nat}
    (H : FnAt K a cx params sts) (S : Stb W.B ms₁ s.heap) (hv : ∀ b o, v₀ b = some o → s.heap.get? b = some o) (hsub : ∀ b ∈ ms₀, b ∈ ms₁) (hl0 : ∀ b ∈ ms₀, ∃ o, v₀ b = some o)
    (hk : env.scope.kind = .function) (hn : env.scope.names = cx.names) (hg : env.globals = mainGlobals) (hb : env.builtins = builtinsNs) (hc : env.cells = cellsFrom (s.heap.objs.size + 1) cx.names []) (hL : env.locals = s.heap.objs.size)
    (X : InCallC s env.locals (bindL env.kindOf (params.zip vals) fun _ => none) env.cells (bindC env.kindOf (params.zip vals) fun _ => none) s₁)
    (hlen : vals.length = params.length) (hzl : zs.length = params.length)
    (hz : ∀ i x v, zs[i]? = some x → vals[i]? = some v → (cx.self && i == 0) = false → Rep W.g.C (hid ms₁ s.heap) x v)
    (hself : cx.self = true → ∃ x dx, zs[0]? = some (.inst []) ∧ vals[0]? = some (.ref x) ∧ x + 1 = s.heap.objs.size ∧ x ∈ ms₁ ∧ dx ∈ ms₁ ∧ v₀ x = none ∧ v₀ dx = none ∧ s.heap.get? x = some (instObj W.g.C dx) ∧ s.heap.get? dx = some emptyDict) :
    FS W cx env v₀ ms₀ (env.locals :: cellsIn env ++ ms₁) s₁.heap (zs ++ List.replicate k .undef) := by
  have keep := X.toInCall.keep
  have above : ∀ n c, env.cells.lookup n = some c → env.locals < c := fun n c e => X.above n c (mem_of_lookup e)
  have freshL : s.heap.get? env.locals = none := by rw [hL]; exact get_size _
  have nonec : ∀ c, env.locals < c → s.heap.get? c = none := fun c h => by
    cases q : s.heap.get? c with
    | none => rfl
    | some o => have := Heap.lt_size q; rw [← hL] at this; exact absurd this (Nat.not_lt.mpr (Nat.le_of_lt h))
  have fresh : ∀ b ∈ env.locals :: cellsIn env, s.heap.get? b = none := fun b hb => by
    rcases List.mem_cons.mp hb with rfl | hb
    · exact freshL
    · obtain ⟨⟨n, c⟩, hm, rfl⟩ := List.mem_map.mp hb
      exact nonec c (X.above n c (List.mem_filter.mp hm).1)
  have v0n : ∀ b, s.heap.get? b = none → v₀ b = none := fun b e => by
    cases q : v₀ b with
    | none => rfl
    | some o => rw [hv b o q] at e; cases e
  have vw : VLe (hid ms₁ s.heap) (hid (env.locals :: cellsIn env ++ ms₁) s₁.heap) := hid_new fresh keep
  have hkind : ∀ n, env.kindOf n = cx.names.lookup n := fun n => by unfold Env.kindOf; rw [hn]
  have hzu : ∀ (i : Nat) (x : V), (zs ++ List.replicate k V.undef)[i]? = some x → notU x → zs[i]? = some x := by
    intro i x e hu
    by_cases q : i < zs.length
    · rwa [List.getElem?_append_left q] at e
    · rw [List.getElem?_append_right (by grind)] at e
      have := List.mem_of_getElem? e
      rw [List.mem_replicate] at this
      rw [this.2] at hu; exact hu.elim
  have zlt : ∀ {i : Nat} {x : V}, zs[i]? = some x → i < params.length := fun {i x} e => by
    rcases Nat.lt_or_ge i zs.length with q | q
    · lia
    · rw [List.getElem?_eq_none q] at e; cases e
  have own_lt : ∀ {i : Nat} {x : V}, zs[i]? = some x → cx.own ≠ some i := fun {i x} e q => absurd (H.own i q) (Nat.not_le.mpr (zlt e))
  exact {
    st := by
      refine ⟨fun b o e => keep b o (S.base b o e), ?_, ?_⟩
      · intro b hb
        rcases List.mem_append.mp hb with hb | hb
        · rcases List.mem_cons.mp hb with rfl | hb
          · obtain ⟨o, _, _, ho, _⟩ := X.toInCall.ns; exact ⟨o, ho⟩
          · obtain ⟨⟨n, c⟩, hm, rfl⟩ := List.mem_map.mp hb
            obtain ⟨o, ho, _⟩ := X.cell n c (by simpa using (List.mem_filter.mp hm).2)
            exact ⟨o, ho⟩
        · obtain ⟨o, e⟩ := S.live b hb; exact ⟨o, keep b o e⟩
      · intro b hb
        rcases List.mem_append.mp hb with hb | hb
        · cases q : W.B.get? b with
          | none => rfl
          | some o => have := fresh b hb; rw [S.base b o q] at this; cases this
        · exact S.low b hb
    kind := hk
    names := hn
    glo := hg
    bui := hb
    cel := fun n e => by
      have := cells_some (n := n) (names := cx.names) (k := s.heap.objs.size + 1) (acc := []) (.inr (lookup_mem e))
      rw [← hc] at this
      exact Option.isSome_iff_exists.mp this
    slots := fun i n x e1 e2 e3 e4 => by
      have ez := hzu i x e2 e3
      have hi := zlt ez
      have ep : params[i]? = some n := by rw [← H.par, List.getElem?_take]; rw [if_pos hi]; exact e1
      obtain ⟨v, ev⟩ : ∃ v, vals[i]? = some v := ⟨_, List.getElem?_eq_getElem (by omega)⟩
      have hmem : (n, v) ∈ params.zip vals := List.mem_of_getElem? (i := i) (by rw [List.getElem?_zip_eq_some]; exact ⟨ep, ev⟩)
      have hnd : ((params.zip vals).map (·.1)).Nodup := by
        rw [List.map_fst_zip (by lia)]
        rw [← H.par]; exact H.nd.sublist (List.take_sublist _ _)
      have hB : Bound env s₁.heap n v := by
        unfold Bound
        rw [hkind]
        rcases H.acc n (List.mem_of_getElem? ep) with q | q
        · rw [q]
          exact ⟨_, X.toInCall.ns, bindL_at ((hkind n).trans q) hnd hmem⟩
        · rw [q]
          have := cells_some (n := n) (names := cx.names) (k := s.heap.objs.size + 1) (acc := []) (.inr (lookup_mem q))
          rw [← hc] at this
          obtain ⟨c, hcc⟩ := Option.isSome_iff_exists.mp this
          exact ⟨c, hcc, bindC_at ((hkind n).trans q) hnd hmem ▸ X.cell n c hcc⟩
      refine ⟨v, hB, fun e => ?_, fun e => ?_⟩
      · have hs : (cx.self && i == 0) = true := by
          unfold Cx.isOwn at e
          simp only [Bool.or_eq_true, beq_iff_eq] at e
          exact e.resolve_left (own_lt ez)
        simp only [Bool.and_eq_true, beq_iff_eq] at hs
        obtain ⟨hs, rfl⟩ := hs
        obtain ⟨x0, dx, z1, z2, z3, z4, z5, z6, z7, z8, z9⟩ := hself hs
        rw [z1] at ez; cases ez
        rw [z2] at ev; cases ev
        refine ⟨hs, x0, dx, [], 0, ⟨rfl, by rw [hL]; exact z3⟩, List.mem_append_right _ z4, List.mem_append_right _ z5, z6, z7, ?_, keep _ _ z8, keep _ _ z9, by simp only [Ents_q1, Ents_q2]⟩
        rintro rfl; rw [freshL] at z9; cases z9
      · refine Rep.mono vw _ _ (hz i x v ez ev ?_)
        unfold Cx.isOwn at e
        simp only [Bool.or_eq_false_iff] at e
        exact e.2
    shape := fun i x e hu => by
      have ez := hzu i x e hu
      refine ⟨fun q => absurd q (own_lt ez), fun q => ?_⟩
      simp only [Bool.and_eq_true, beq_iff_eq] at q
      obtain ⟨hs, rfl⟩ := q
      obtain ⟨x0, dx, z1, _⟩ := hself hs
      rw [z1] at ez; cases ez; exact ⟨_, rfl⟩
    nd := H.nd
    keep := fun b o e => keep b o (hv b o e)
    sub := fun b hb => List.mem_append_right _ (hsub b hb)
    live0 := hl0
    ns := ⟨by simp, v0n _ freshL, _, X.toInCall.ns⟩
    cells := fun n c e => ⟨List.mem_append_left _ (List.mem_cons_of_mem _ (List.mem_map.mpr ⟨(n, c), List.mem_filter.mpr ⟨mem_of_lookup e, by simpa using e⟩, rfl⟩)), v0n _ (nonec c (above n c e)), _, X.cell n c e⟩
    inj := fun n n' c e e' => name_of_addr X.apart (mem_of_lookup e) (mem_of_lookup e') }

theorem rm_down {A A' : Around} {n : Nat} (R : Rm A (n + 4)) (h1 : A'.handled = A.handled) (h2 : A'.depth ≤ A.depth + 4) (h3 : A'.units ≤ A.units + 80) : Rm A' n :=
  ⟨h1.trans R.hd, by have := R.dp; lia, by have := R.un; grind⟩

theorem fn_call {O : WOK W} (GS : GSet W.K W.g) {a : Addr} {params : List Str} {sts : List Stmt} {b : S} {fuel ns : Nat} {zs : List V} {z : V} {A : Around} {ms : List Addr} {s : Shared} {vals : List Value}
    (H : FnAt W.K a cx params sts) (hc : chkS W.g cx b sts = true) (hself : cx.self = false) (hz : runF W.F fuel params.length ns b zs = some z) (hr : Reps W.g.C (hid ms s.heap) zs vals) (S : Stb W.B ms s.heap) (R : Rm A (W.d + 4)) :
    wpAny (model W.prog W.w) A (call (.ref a) vals) (fun v s' => Keeps s s' ∧ Rep W.g.C (hid ms s'.heap) z v) (fun _ _ => False) s := by
  unfold runF at hz
  split at hz
  · rename_i hzl
    obtain ⟨out, h1, h2⟩ := Option.bind_eq_some_iff.mp hz
    have hlen : vals.length = params.length := hr.length.trans hzl
    obtain ⟨oc, od, fd, sl, hK, f1, f2, f3, f4, f5, f6, f7, f8, f9, f10⟩ := H.ex
    have X := O.X.keeps S.base
    have T := O.T.keeps S.base
    refine wpAny_call ?_
    refine codeAny_call_cells (binds := params.zip vals) (by have := R.dp; lia) (X _ _ hK) rfl T.nolimit (codeRec_of X f9) f5 (f10 vals hlen) f6 ?_ ?_ f3 f4 f2
    · rintro ⟨n, v⟩ hm
      have hn : n ∈ params := (List.of_mem_zip hm).1
      rw [f1]
      rcases H.acc n hn with q | q
      · exact .inl q
      · exact .inr ⟨q, cells_some (.inr (lookup_mem q))⟩
    · intro s₁ IC
      have F := fs_entry (W := W) (cx := cx) (v₀ := fun b => s.heap.get? b) (ms₀ := ms) (ms₁ := ms) (env := callEnvC fd s.heap.objs.size a) (zs := zs) (k := ns - params.length) H S (fun _ _ e => e) (fun _ q => q) S.live f2 f1 f7 f8 (by rw [← f1]; rfl) rfl IC hlen hzl
        (fun i x v e1 e2 _ => by
          obtain ⟨v', g1, g2⟩ := hr.get e1
          rw [e2] at g1; cases g1; exact g2) (fun q => by rw [hself] at q; cases q)
      have hrun := (stmts_ok (fuel := fuel) O GS b).1 cx sts _ (A.deeper (callEnvC fd s.heap.objs.size a)) _ _ _ s₁ _ out hc h1 F (rm_down R rfl (by show A.depth + 1 ≤ _; lia) (by show A.units + 3 ≤ _; grind))
      refine wpAny_mono hrun (fun f s' q => ?_) fun _ _ f => f.elim
      obtain ⟨q1, q2⟩ := q
      cases out with
      | ret v =>
        cases h2
        obtain ⟨u, rfl, k, r⟩ := q2
        obtain ⟨h', tk, rfl⟩ := IC.toInCall.same
        obtain ⟨h'', tk', rfl⟩ := q1
        exact ⟨⟨h'', tk', rfl, k⟩, r⟩
      | next _ => cases h2
      | brk _ => cases h2
  · cases hz
end
end Mine
end
section
set_option maxRecDepth 100000
set_option backward.match.sparseCases false
namespace Mine
open PySem PySem.W PyProof.Rows PySem.Calls PySem.SeqAt

noncomputable def runN (F : Nat → List V → Option V) (fuel nparams nslots : Nat) (b : S) (args : List V) : Option V := match runI F fuel nparams nslots b args with
  | some (.inst l) => some (.inst l)
  | _ => none

section
variable {W : Wd} {cx : Cx}

theorem new_call {O : WOK W} (GS : GSet W.K W.g) {a : Addr} {p0 : Str} {params : List Str} {sts : List Stmt} {b : S} {fuel ns : Nat} {zs : List V} {z : V} {A : Around} {ms : List Addr} {s : Shared} {vals : List Value}
    (H : FnAt W.K a cx (p0 :: params) sts) (hc : chkS W.g cx b sts = true) (hself : cx.self = true) (hm : makesIn W.K W.g.C = true) (hi : findIn W.K (.ref W.g.C) "__init__" = some (some (.ref a))) (hf : typeIn W.K (.ref a) = some (.type "function"))
    (hz : runN W.F fuel params.length ns b zs = some z) (hr : Reps W.g.C (hid ms s.heap) zs vals) (S : Stb W.B ms s.heap) (R : Rm A (W.d + 4)) :
    wpAny (model W.prog W.w) A (call (.ref W.g.C) vals) (fun v s' => Keeps s s' ∧ Rep W.g.C (hid ms s'.heap) z v) (fun _ _ => False) s := by
  unfold runN at hz
  split at hz
  · rename_i l hz2
    cases hz
    unfold runI at hz2
    split at hz2
    · rename_i hzl
      obtain ⟨out, h1, h2⟩ := Option.bind_eq_some_iff.mp hz2
      have hlen : vals.length = params.length := hr.length.trans hzl
      obtain ⟨oc, od, fd, sl, hK, f1, f2, f3, f4, f5, f6, f7, f8, f9, f10⟩ := H.ex
      have X := O.X.keeps S.base
      have T := O.T.keeps S.base
      obtain ⟨h, g, d, t, os⟩ := s
      dsimp only at hr S X T
      have kp : ∀ b o, h.get? b = some o → ((h.push emptyDict).push (instObj W.g.C h.objs.size)).get? b = some o := fun b o e => Heap.get?_push_of_some _ (Heap.get?_push_of_some _ e)
      have hx : ((h.push emptyDict).push (instObj W.g.C h.objs.size)).get? (h.objs.size + 1) = some (instObj W.g.C h.objs.size) := by
        have := Heap.get?_push_size (h.push emptyDict) (o := instObj W.g.C h.objs.size) rfl
        rwa [Heap.size_push] at this
      have hdx : ((h.push emptyDict).push (instObj W.g.C h.objs.size)).get? h.objs.size = some emptyDict := Heap.get?_push_of_some _ (Heap.get?_push_size _ rfl)
      have nx : h.get? (h.objs.size + 1) = none := by
        cases q : h.get? (h.objs.size + 1) with
        | none => rfl
        | some o => exact absurd (Heap.lt_size q) (Nat.not_lt.mpr (Nat.le_succ _))
      have nd := get_size h
      have S1 : Stb W.B ((h.objs.size + 1) :: h.objs.size :: ms) ((h.push emptyDict).push (instObj W.g.C h.objs.size)) := ((S.keeps kp).cons hdx (S.new nd)).cons hx (S.new nx)
      have vw : VLe (hid ms h) (hid ((h.objs.size + 1) :: h.objs.size :: ms) ((h.push emptyDict).push (instObj W.g.C h.objs.size))) := hid_new (ex := [h.objs.size + 1, h.objs.size]) (by simp [nx, nd]) kp
      refine wpAny_call ?_
      refine make_core (makes_of X hm) (looks_findIn X hi) (fun self => bind_fn X self hf) (.inl rfl) ?_
      have X1 := X.keeps kp
      refine codeAny_call_cells (binds := (p0 :: params).zip (.ref (h.objs.size + 1) :: vals)) ?_ (X1 _ _ hK) rfl (T.keeps kp).nolimit (codeRec_of X1 f9) f5 (f10 _ (by simp [hlen])) f6 ?_ ?_ f3 f4 f2
      · have := R.dp
        show A.depth + _ < recursionLimit
        have hw : (Code.builtin "type.__call__" ⟨.ref W.g.C :: vals, []⟩).weight ≤ 1 := by
          exact Nat.le_of_eq (by kernel_rfl)
        grind
      · rintro ⟨n, v⟩ hm
        have hn : n ∈ p0 :: params := (List.of_mem_zip hm).1
        rw [f1]
        rcases H.acc n hn with q | q
        · exact .inl q
        · exact .inr ⟨q, cells_some (.inr (lookup_mem q))⟩
      · intro s₁ IC
        have F := fs_entry (W := W) (cx := cx) (s := ⟨(h.push emptyDict).push (instObj W.g.C h.objs.size), g, d, t, os⟩) (v₀ := fun b => h.get? b) (ms₀ := ms) (ms₁ := (h.objs.size + 1) :: h.objs.size :: ms) (env := callEnvC fd ((h.push emptyDict).push (instObj W.g.C h.objs.size)).objs.size a) (vals := .ref (h.objs.size + 1) :: vals) (zs := .inst [] :: zs) (k := ns - params.length - 1) H S1 kp
          (fun _ q => List.mem_cons_of_mem _ (List.mem_cons_of_mem _ q)) S.live f2 f1 f7 f8 (by rw [← f1]; rfl) rfl IC (by simp [hlen]) (by simp [hzl])
          (fun i x v e1 e2 e3 => by
            cases i with
            | zero => rw [hself] at e3; cases e3
            | succ i =>
              simp at e1 e2
              obtain ⟨v', g1, g2⟩ := hr.get e1
              rw [e2] at g1; cases g1; exact Rep.mono vw _ _ g2)
          (fun _ => ⟨h.objs.size + 1, h.objs.size, rfl, rfl, by simp [Heap.size_push], by simp, by simp, nx, nd, hx, hdx⟩)
        have hw : (Code.builtin "type.__call__" ⟨.ref W.g.C :: vals, []⟩).weight = 1 := by kernel_rfl
        have hu : (Code.builtin "type.__call__" ⟨.ref W.g.C :: vals, []⟩).cUnits = 1 := by kernel_rfl
        have hrun := (stmts_ok (fuel := fuel) O GS b).1 cx sts _ ((A.under (.builtin "type.__call__" ⟨.ref W.g.C :: vals, []⟩)).deeper (callEnvC fd ((h.push emptyDict).push (instObj W.g.C h.objs.size)).objs.size a)) _ _ _ s₁ _ out hc h1 F (rm_down R rfl
          (by show A.depth + (Code.builtin "type.__call__" ⟨.ref W.g.C :: vals, []⟩).weight + 1 ≤ _; rw [hw]; lia) (by show A.units + (Code.builtin "type.__call__" ⟨.ref W.g.C :: vals, []⟩).cUnits + 3 ≤ _; rw [hu]; grind))
        refine wpAny_mono hrun (fun f s' q => ?_) fun _ _ f => f.elim
        obtain ⟨q1, q2⟩ := q
        cases out with
        | next ρ' =>
          obtain ⟨rfl, ms', g', F'⟩ := q2
          have h2 : ρ'[0]? = some (.inst l) := h2
          obtain ⟨h', tk, rfl⟩ := IC.toInCall.same
          obtain ⟨h'', tk', rfl⟩ := q1
          refine ⟨rfl, ⟨h'', tk', rfl, F'.keep⟩, ?_⟩
          have hp0 : cx.slots[0]? = some p0 := by
            have := H.par
            have e := congrArg (fun l => l[0]?) this
            simpa [List.getElem?_take] using e
          have hacc : acc cx 0 p0 = true := by
            unfold acc
            rcases H.acc p0 (by simp) with q | q
            · rw [q, H.base]; rfl
            · rw [q, H.base]; rfl
          obtain ⟨v, _, o1, _⟩ := F'.slots 0 p0 _ hp0 h2 trivial hacc
          obtain ⟨e0, x, dx, es, k, ⟨rfl, hxL⟩, m1, m2, n1, n2, nL, o3, o4, o5⟩ := o1 (by unfold Cx.isOwn; rw [hself]; simp)
          have hL : (callEnvC fd ((h.push emptyDict).push (instObj W.g.C h.objs.size)).objs.size a).locals = h.objs.size + 2 := by
            show ((h.push emptyDict).push (instObj W.g.C h.objs.size)).objs.size = _
            rw [Heap.size_push, Heap.size_push]
          have hxe : x = h.objs.size + 1 := by
            have := hxL.trans hL
            exact Nat.succ.inj this
          subst hxe
          have no : ∀ {b : Addr}, h.get? b = none → b ∉ ms := fun {b} e q => by obtain ⟨o, e'⟩ := S.live b q; rw [e] at e'; cases e'
          simp only [Rep_q1, Rep_q2, Rep_q3, Rep_q4, Rep_q5, Rep_q6, Rep_q7, Rep_q8, Rep_q9]
          exact ⟨_, dx, es, k, rfl, by rw [hid_of (no n1)]; exact o3, by rw [hid_of (no n2)]; exact o4, Ents.mono (hid_sub F'.sub) _ _ _ o5⟩
        | ret v => cases h2
        | brk _ => cases h2
    · cases hz2
  · cases hz
end
end Mine
end
section
set_option maxRecDepth 100000
set_option backward.match.sparseCases false
namespace Mine
open PySem PySem.W PyProof.Rows PySem.Calls PySem.SeqAt

structure Fx where
  init : Bool
  np : Nat
  ns : Nat
  b : S

noncomputable def Fk (tab : List (Nat × Fx)) (fuel : Nat) : Nat → Nat → List V → Option V
  | 0, _, _ => none
  | k + 1, f, args => match tab.lookup f with
    | some x => if x.init then runN (Fk tab fuel k) fuel x.np x.ns x.b args else runF (Fk tab fuel k) fuel x.np x.ns x.b args
    | none => none

inductive FxOK (K : Frag) (g : Gx) (f : Nat) (x : Fx) : Prop
  | fn (a : Addr) (params : List Str) (cx : Cx) (sts : List Stmt) (i : x.init = false) (u : g.fv.lookup f = some (.ref a)) (H : FnAt K a cx params sts) (l : params.length = x.np) (c : chkS g cx x.b sts = true) (sf : cx.self = false)
  | nw (a : Addr) (p0 : Str) (params : List Str) (cx : Cx) (sts : List Stmt) (i : x.init = true) (u : g.fv.lookup f = some (.ref g.C)) (H : FnAt K a cx (p0 :: params) sts) (l : params.length = x.np) (c : chkS g cx x.b sts = true) (sf : cx.self = true)
      (m : makesIn K g.C = true) (fi : findIn K (.ref g.C) "__init__" = some (some (.ref a))) (ti : typeIn K (.ref a) = some (.type "function"))

theorem fok_all {W : Wd} {tab : List (Nat × Fx)} {fuel : Nat} (X : W.K.In W.B) (T : TopRead W.p W.loose W.mg W.mb W.B) (G : GOK W.K W.g) (GS : GSet W.K W.g) (H : ∀ f x, tab.lookup f = some x → FxOK W.K W.g f x) :
    ∀ k, FOK { W with F := Fk tab fuel k, d := 4 * k } := by
  intro k
  induction k with
  | zero => intro f u zs z A ms s vs _ h; cases h
  | succ k ih =>
    intro f u zs z A ms s vs hu h hr S R
    have O : WOK { W with F := Fk tab fuel k, d := 4 * k } := ⟨X, T, G, ih⟩
    have h : Fk tab fuel (k + 1) f zs = some z := h
    unfold Fk at h
    split at h
    · rename_i x hx
      have R : Rm A (4 * k + 4) := R
      cases H f x hx with
      | fn a params cx sts i hu' HF l c sf =>
        rw [i] at h
        have hu : W.g.fv.lookup f = some u := hu
        rw [hu'] at hu; cases hu
        rw [if_neg (by decide), ← l] at h
        exact fn_call (W := { W with F := Fk tab fuel k, d := 4 * k }) (O := O) GS HF c sf h hr S R
      | nw a p0 params cx sts i hu' HF l c sf m fi ti =>
        rw [i] at h
        have hu : W.g.fv.lookup f = some u := hu
        rw [hu'] at hu; cases hu
        rw [if_pos rfl, ← l] at h
        exact new_call (W := { W with F := Fk tab fuel k, d := 4 * k }) (O := O) GS HF c sf m fi ti h hr S R
    · cases h
end Mine
end
section
set_option maxRecDepth 100000
set_option backward.match.sparseCases false
namespace Mine
open PySem PySem.W PyProof.Rows PySem.Calls PySem.SeqAt

noncomputable def fdOf (K : Frag) (a : Addr) : FuncData := match K.lookup a with
  | some ⟨_, _, .func fd, _⟩ => fd
  | _ => default
noncomputable def stsOf (K : Frag) (a : Addr) : List Stmt := match (fdOf K a).body with
  | .stmts l => l
  | _ => []
noncomputable def cxOf (K : Frag) (a : Addr) (slots : List Str) (own : Option Nat) (self : Bool) : Cx := { names := (fdOf K a).scope.names, slots := slots, base := 0, own := own, self := self }
noncomputable def okFn (K : Frag) (a : Addr) : Bool := match K.lookup a with
  | some ⟨_, _, .func fd, _⟩ => fd.scope.kind == .function && !fd.scope.isCoroutine && !fd.scope.isGenerator && (match fd.body with | .stmts _ => true | _ => false) && fd.closure.isEmpty && fd.globals == mainGlobals && fd.builtins == builtinsNs && codeIn K fd.code fd.qualname
  | _ => false
noncomputable def locB (cx : Cx) (n : Str) : Bool := cx.names.lookup n == some .local || cx.names.lookup n == some .cell
noncomputable def nodupB : List Str → Bool
  | [] => true
  | a :: r => !r.contains a && nodupB r
theorem nodup_of : ∀ {l : List Str}, nodupB l = true → l.Nodup
  | [], _ => List.nodup_nil
  | a :: r, h => by
    simp only [nodupB, Bool.and_eq_true, Bool.not_eq_true'] at h
    refine List.nodup_cons.mpr ⟨fun q => ?_, nodup_of h.2⟩
    have := List.contains_iff_mem.mpr q
    rw [h.1] at this; cases this
noncomputable def fnB (K : Frag) (a : Addr) (slots params : List Str) (own : Option Nat) (self : Bool) : Bool :=
  okFn K a && nodupB slots && (slots.take params.length == params) && params.all (locB (cxOf K a slots own self)) && (match own with | some i => decide (params.length ≤ i) | none => true)

theorem fnAt_of {K : Frag} {a : Addr} {slots params : List Str} {own : Option Nat} {self : Bool} (h : fnB K a slots params own self = true) (hb : ∀ vals, vals.length = params.length → bindArgs (fdOf K a) ⟨vals, []⟩ = pure (params.zip vals)) :
    FnAt K a (cxOf K a slots own self) params (stsOf K a) := by
  unfold fnB at h
  simp only [Bool.and_eq_true, beq_iff_eq, List.all_eq_true] at h
  obtain ⟨⟨⟨⟨h1, h2⟩, h3⟩, h4⟩, h5⟩ := h
  refine ⟨?_, rfl, nodup_of h2, h3, ?_, ?_⟩
  · unfold okFn at h1
    split at h1
    · rename_i oc od fd sl hK
      have e : fdOf K a = fd := by unfold fdOf; rw [hK]
      simp only [Bool.and_eq_true, beq_iff_eq, Bool.not_eq_true', List.isEmpty_iff] at h1
      obtain ⟨⟨⟨⟨⟨⟨⟨k1, k2⟩, k3⟩, k4⟩, k5⟩, k6⟩, k7⟩, k8⟩ := h1
      rw [e] at hb
      refine ⟨oc, od, fd, sl, hK, by unfold cxOf; rw [e], k1, k2, k3, ?_, k5, k6, k7, k8, hb⟩
      unfold stsOf
      rw [e]
      split at k4
      · rename_i l hl; rw [hl]
      · cases k4
    · cases h1
  · intro n hn
    have := h4 n hn
    unfold locB at this
    simpa using this
  · intro i hi
    have hi : own = some i := hi
    rw [hi] at h5
    exact of_decide_eq_true h5

noncomputable def gokB (K : Frag) (g : Gx) : Bool :=
  g.con.all (fun p => match nsIn K mainGlobals p.1 with | some (some (.int j _)) => p.2 == j | _ => false) &&
  g.fns.all (fun p => match g.fv.lookup p.2 with | some u => nsIn K mainGlobals p.1 == some (some u) | none => false) &&
  nsIn K mainGlobals g.cls == some (some (.ref g.C)) && g.fv.lookup 0 == some (.ref g.C) &&
  g.fv.all (fun p => keepIn K p.2) &&
  g.mes.all (fun p => match g.fv.lookup p.2 with | some (.ref fa) => findIn K (.ref g.C) p.1 == some (some (.ref fa)) && typeIn K (.ref fa) == some (.type "function") && !attrN.contains p.1 | _ => false) &&
  findIn K (.ref g.C) "__getattribute__" == some (some (.builtin "object.__getattribute__")) && findIn K (.ref g.C) "__getattr__" == some none && hasDictIn K g.C && attrN.all (fun n => findIn K (.ref g.C) n == some none) &&
  g.cat.all (fun p => readsIn K g.C (.type "type") && (match findCls K (.ref g.C) (.type "type") p.1 with | some (.val (.str s _)) => s.cps.toList == p.2 && p.2.all (fun c => decide (c < 128)) | _ => false)) &&
  [BI.len, .max2, .min2, .max1, .min1, .range1, .range2, .range3, .sum, .list, .tuple, .isBool].all (fun f => nsIn K mainGlobals (biName f) == some none) && nsIn K mainGlobals (Str.ofString "bool") == some none &&
  findIn K (.ref g.C) "__setattr__" == some (some (.builtin "object.__setattr__")) && plainOver K g.C && attrN.all (fun n => takerIn K g.C n == some none)

theorem gok_of {K : Frag} {g : Gx} (h : gokB K g = true) : GOK K g ∧ GSet K g := by
  unfold gokB at h
  refine and_c h fun h h16 => and_c h fun h h15 => and_c h fun h h14 => and_c h fun h h13 => and_c h fun h h12 => and_c h fun h h11 => and_c h fun h h10 => and_c h fun h h9 => ?_
  refine and_c h fun h h8 => and_c h fun h h7 => and_c h fun h h6 => and_c h fun h h5 => and_c h fun h h4 => and_c h fun h h3 => and_c h fun h1 h2 => ?_
  have key : ∀ {α : Type} {l : List (Str × α)} {x : Str} {y : α}, l.lookup x = some y → (x, y) ∈ l := fun h => lookup_mem h
  have keyN : ∀ {α : Type} {l : List (Nat × α)} {x : Nat} {y : α}, l.lookup x = some y → (x, y) ∈ l := by
    intro α l
    induction l with
    | nil => intro x y h; cases h
    | cons p l ih =>
      intro x y h
      rw [List.lookup_cons] at h
      split at h
      · rename_i q; cases h; rw [show x = p.1 from beq_iff_eq.mp q]; simp
      · exact List.mem_cons_of_mem _ (ih h)
  refine ⟨⟨?_, ?_, ⟨beq_iff_eq.mp h3, beq_iff_eq.mp h4⟩, ?_, ?_, ⟨beq_iff_eq.mp h7, beq_iff_eq.mp h8⟩, h9, fun n hn => beq_iff_eq.mp (List.all_eq_true.mp h10 n hn), ?_, ?_, beq_iff_eq.mp h13⟩, ⟨beq_iff_eq.mp h14, h15, fun n hn => beq_iff_eq.mp (List.all_eq_true.mp h16 n hn)⟩⟩
  · intro x i hx
    have := List.all_eq_true.mp h1 _ (key hx)
    dsimp only at this
    split at this
    · rename_i j t e; rw [beq_iff_eq.mp this]; exact ⟨t, e⟩
    · cases this
  · intro x f hx
    have := List.all_eq_true.mp h2 _ (key hx)
    dsimp only at this
    split at this
    · rename_i u e; exact ⟨u, e, beq_iff_eq.mp this⟩
    · cases this
  · intro f u hf
    exact List.all_eq_true.mp h5 _ (keyN hf)
  · intro x f hx
    have := List.all_eq_true.mp h6 _ (key hx)
    dsimp only at this
    split at this
    · rename_i fa e
      simp only [Bool.and_eq_true, beq_iff_eq, Bool.not_eq_true'] at this
      refine ⟨fa, e, this.1.1, this.1.2, fun q => ?_⟩
      have := List.contains_iff_mem.mpr q
      simp_all
    · cases this
  · intro x l hx
    have := List.all_eq_true.mp h11 _ (key hx)
    dsimp only at this
    refine and_c this fun r1 r2 => ?_
    split at r2
    · rename_i s t e
      simp only [Bool.and_eq_true, beq_iff_eq, List.all_eq_true, decide_eq_true_eq] at r2
      refine ⟨_, t, r1, ?_, r2.2⟩
      rw [e, ← r2.1]
    · cases r2
  · intro f
    exact beq_iff_eq.mp (List.all_eq_true.mp h12 f (by cases f <;> decide))
end Mine
end
section
set_option maxRecDepth 100000
set_option backward.match.sparseCases false
namespace Mine
open PySem PySem.W PyProof.Rows PySem.Calls PySem.SeqAt

theorem ints_reps {C : Addr} {g : View} : ∀ {vs : List Value} {ns : List Int}, IntsAre vs ns → Reps C g (ns.map V.int) vs
  | _, _, .nil => by simp [Reps_q1, Reps_q2]
  | _, _, .cons n t r => by
    rw [List.map_cons]
    exact Reps.cons (by simp only [Rep_q1, Rep_q2, Rep_q3, Rep_q4, Rep_q5, Rep_q6, Rep_q7, Rep_q8, Rep_q9]; exact ⟨t, rfl⟩) (ints_reps r)

theorem law_end {prog p : Program} {loose : List Str} {K : Frag} {w : World} {s₁ : Shared} {mg mb : Str → Option Value} {g : Gx} {tab : List (Nat × Fx)} {fuel f : Nat} (KX : K.In s₁.heap) (T : TopRead p loose mg mb s₁.heap)
    (G : gokB K g = true) (FX : ∀ f x, tab.lookup f = some x → FxOK K g f x) {a fa : Addr} {items : List Value} {ns : List Int} (hL : s₁.heap.IsList a items.toArray) (hI : IntsAre items ns) (hf : g.fv.lookup f = some (.ref fa))
    (hmain : Fk tab fuel 3 f [.list (ns.map .int)] = some (.bool true)) :
    wpAny (model prog w) callerA (call (.ref fa) [.ref a]) (fun v s' => Keeps s₁ s' ∧ v = .bool true) (fun _ _ => False) s₁ := by
  have h := fok_all (W := { prog := prog, w := w, K := K, B := s₁.heap, g := g, p := p, loose := loose, mg := mg, mb := mb, F := fun _ _ => none, d := 0 }) (tab := tab) (fuel := fuel) KX T (gok_of G).1 (gok_of G).2 FX 3
  obtain ⟨o, h1, h2, n, h3⟩ := hL
  have r : Reps g.C (hid [] s₁.heap) [.list (ns.map .int)] [.ref a] := by
    refine Reps.cons ?_ Reps.nil
    simp only [Rep_q1, Rep_q2, Rep_q3, Rep_q4, Rep_q5, Rep_q6, Rep_q7, Rep_q8, Rep_q9]
    exact ⟨a, o, items, n, rfl, by rw [hid_of (by simp)]; exact h1, h2, h3, ints_reps hI⟩
  refine wpAny_mono (h f (.ref fa) _ _ callerA [] s₁ [.ref a] hf hmain r ⟨fun _ _ e => e, (fun _ q => by cases q), fun _ q => by cases q⟩ ⟨rfl, (by show 1 + claimMargin + 12 < recursionLimit; decide), (by show 4 + 20 * 12 + 100 < cLine; decide)⟩) (fun v s' q => ⟨q.1, ?_⟩) fun _ _ f => f
  have := q.2
  simpa only [Rep_q1, Rep_q2, Rep_q3, Rep_q4, Rep_q5, Rep_q6, Rep_q7, Rep_q8, Rep_q9] using this

theorem good_end {c : ClaimW} {cl : Str → Option Addr} {mean : ExcName → Option Value} {args : List WData} {s₁ s' : Shared} {v : Value} (h : Keeps s₁ s' ∧ v = .bool true) (hg : s₁.gens = #[]) (hr : ∀ cls, c.raises args cls = false) (hp : c.post args (.bool true) args = true) :
    GoodWG c cl mean args s₁ (.ok (.ret v)) s' := by
  obtain ⟨⟨h', tk, rfl, k⟩, rfl⟩ := h
  exact GoodW.toG ⟨.inl ⟨_, _, [], rfl, hr, ReadsW.bool true, hp, fun _ => ⟨List.nodup_nil, fun _ hm => (nomatch hm)⟩⟩, k, rfl, hg⟩
end Mine
end
section
set_option maxRecDepth 100000
set_option backward.match.sparseCases false
namespace LC
open PySem PySem.W Mine

/-- slots: 0 self, 1 ws, 2 S, 3 T, 4 count, 5 b, 6 n, 7 nt, 8 ch -/
noncomputable def b_init : S := (.seq (.setA 0 (.v 1)) (.seq (.unp [2, 3] (.tup (.cons (.k (.str [32])) (.cons (.k (.str [9])) .nil)))) (.seq (.asgO 4 (.list .nil)) (.seq (.asgM [5, 6, 7] (.k (.int 0))) (.seq (.for 8 (.fld (.own 0) 0)
 (.seq (.iff (.cmp .Eq (.v 8) (.v 2))
 (.seq (.asg 6 (.bin .Add (.v 6) (.k (.int 1)))) (.seq (.asg 5 (.bin .Add (.v 5) (.k (.int 1)))) .skip))
 (.seq (.iff (.cmp .Eq (.v 8) (.v 3))
 (.seq (.asg 6 (.bin .Add (.v 6) (.k (.int 1)))) (.seq (.asg 7 (.bin .Add (.v 7) (.k (.int 1)))) (.seq (.iff (.cmp .GtE (.v 5) (.bi .len (.cons (.own 4) .nil)))
 (.seq (.asgO 4 (.bin .Add (.own 4) (.repl (.cons (.k (.int 0)) .nil) (.bin .Add (.bin .Sub (.v 5) (.bi .len (.cons (.own 4) .nil))) (.k (.int 1)))))) .skip)
 .skip) (.seq (.setI 4 (.v 5) (.bin .Add (.item (.own 4) (.v 5)) (.k (.int 1)))) (.seq (.asg 5 (.k (.int 0))) .skip)))))
 (.seq .brk .skip)) .skip)) .skip)) (.seq (.setA 1 (.v 6)) (.seq (.setA 2 (.v 7)) (.seq (.setA 3 (.tup (.cons (.bi .tuple (.cons (.own 4) .nil)) (.cons (.v 5) .nil)))) (.seq (.setA 4 (.cmp .LtE (.bi .len (.cons (.own 4) .nil)) (.k (.int 1)))) .skip)))))))))

/-- slots: 0 self, 1 count, 2 trailing -/
noncomputable def b_longest_run_of_spaces : S := (.seq (.unp [1, 2] (.fld (.v 0) 3)) (.seq (.ret (.bi .max2 (.cons (.bin .Sub (.bi .len (.cons (.v 1) .nil)) (.k (.int 1))) (.cons (.v 2) .nil)))) .skip))

/-- slots: 0 self, 1 tabsize, 2 count, 3 trailing, 4 il, 5 i -/
noncomputable def b_indent_level : S := (.seq (.unp [2, 3] (.fld (.v 0) 3)) (.seq (.asg 4 (.k (.int 0))) (.seq (.for 5 (.bi .range2 (.cons (.v 1) (.cons (.bi .len (.cons (.v 2) .nil)) .nil)))
 (.seq (.asg 4 (.bin .Add (.v 4) (.bin .Mult (.bin .FloorDiv (.v 5) (.v 1)) (.item (.v 2) (.v 5))))) .skip)) (.seq (.ret (.bin .Add (.v 3) (.bin .Mult (.v 1) (.bin .Add (.v 4) (.fld (.v 0) 2))))) .skip))))

/-- slots: 0 self, 1 other -/
noncomputable def b_equal : S := (.seq (.ret (.cmp .Eq (.fld (.v 0) 3) (.fld (.v 1) 3))) .skip)

/-- slots: 0 self, 1 other, 2 n, 3 a, 4 ts -/
noncomputable def b_not_equal_witness : S := (.seq (.asg 2 (.bin .Add (.bi .max2 (.cons (.me 1 (.v 0) .nil) (.cons (.me 1 (.v 1) .nil) .nil))) (.k (.int 1)))) (.seq (.asgO 3 (.list .nil)) (.seq (.for 4 (.bi .range2 (.cons (.k (.int 1)) (.cons (.bin .Add (.v 2) (.k (.int 1))) .nil)))
 (.seq (.iff (.cmp .NotEq (.me 2 (.v 0) (.cons (.v 4) .nil)) (.me 2 (.v 1) (.cons (.v 4) .nil)))
 (.seq (.app 3 (.tup (.cons (.v 4) (.cons (.me 2 (.v 0) (.cons (.v 4) .nil)) (.cons (.me 2 (.v 1) (.cons (.v 4) .nil)) .nil))))) .skip)
 .skip) .skip)) (.seq (.retO 3) .skip))))

/-- slots: 0 self, 1 other, 2 n, 3 ts -/
noncomputable def b_less : S := (.seq (.iff (.cmp .GtE (.fld (.v 0) 1) (.fld (.v 1) 1))
 (.seq (.ret (.k (.bool false))) .skip)
 .skip) (.seq (.iff (.ands (.cons (.fld (.v 0) 4) (.cons (.fld (.v 1) 4) .nil)))
 (.seq (.ret (.cmp .LtE (.fld (.v 0) 2) (.fld (.v 1) 2))) .skip)
 .skip) (.seq (.asg 2 (.bin .Add (.bi .max2 (.cons (.me 1 (.v 0) .nil) (.cons (.me 1 (.v 1) .nil) .nil))) (.k (.int 1)))) (.seq (.for 3 (.bi .range2 (.cons (.k (.int 2)) (.cons (.bin .Add (.v 2) (.k (.int 1))) .nil)))
 (.seq (.iff (.cmp .GtE (.me 2 (.v 0) (.cons (.v 3) .nil)) (.me 2 (.v 1) (.cons (.v 3) .nil)))
 (.seq (.ret (.k (.bool false))) .skip)
 .skip) .skip)) (.seq (.ret (.k (.bool true))) .skip)))))

/-- slots: 0 self, 1 other, 2 n, 3 a, 4 ts -/
noncomputable def b_not_less_witness : S := (.seq (.asg 2 (.bin .Add (.bi .max2 (.cons (.me 1 (.v 0) .nil) (.cons (.me 1 (.v 1) .nil) .nil))) (.k (.int 1)))) (.seq (.asgO 3 (.list .nil)) (.seq (.for 4 (.bi .range2 (.cons (.k (.int 1)) (.cons (.bin .Add (.v 2) (.k (.int 1))) .nil)))
 (.seq (.iff (.cmp .GtE (.me 2 (.v 0) (.cons (.v 4) .nil)) (.me 2 (.v 1) (.cons (.v 4) .nil)))
 (.seq (.app 3 (.tup (.cons (.v 4) (.cons (.me 2 (.v 0) (.cons (.v 4) .nil)) (.cons (.me 2 (.v 1) (.cons (.v 4) .nil)) .nil))))) .skip)
 .skip) .skip)) (.seq (.retO 3) .skip))))

/-- slots: 0 ch_a, 1 ch_b -/
noncomputable def b_substitution_cost : S := (.seq (.iff (.cmp .Eq (.v 0) (.v 1))
 (.seq (.ret (.k (.int 0))) .skip)
 .skip) (.seq (.iff (.cmp .Eq (.sm .lower (.v 0) .nil) (.sm .lower (.v 1) .nil))
 (.seq (.ret (.k (.int 1))) .skip)
 .skip) (.seq (.ret (.k (.int 2))) .skip)))

/-- slots: 0 a, 1 b, 2 max_cost, 3 pre, 4 post, 5 row, 6 result, 7 bindex, 8 bchar, 9 distance, 10 minimum, 11 index, 12 substitute, 13 insert_delete -/
noncomputable def b_levenshtein_distance : S := (.seq (.iff (.cmp .Eq (.v 0) (.v 1))
 (.seq (.ret (.k (.int 0))) .skip)
 .skip) (.seq (.asg 3 (.k (.int 0))) (.seq (.whl (.ands (.cons (.sl (.v 0) (.v 3) .non .non) (.cons (.sl (.v 1) (.v 3) .non .non) (.cons (.cmp .Eq (.item (.v 0) (.v 3)) (.item (.v 1) (.v 3))) .nil))))
 (.seq (.aug 3 .Add (.k (.int 1))) .skip)) (.seq (.asg 0 (.sl (.v 0) (.v 3) .non .non)) (.seq (.asg 1 (.sl (.v 1) (.v 3) .non .non)) (.seq (.asg 4 (.k (.int 0))) (.seq (.whl (.ands (.cons (.sl (.v 0) .non (.or2 (.v 4) (.k .none)) .non) (.cons (.sl (.v 1) .non (.or2 (.v 4) (.k .none)) .non) (.cons (.cmp .Eq (.item (.v 0) (.bin .Sub (.v 4) (.k (.int 1)))) (.item (.v 1) (.bin .Sub (.v 4) (.k (.int 1))))) .nil))))
 (.seq (.aug 4 .Sub (.k (.int 1))) .skip)) (.seq (.asg 0 (.sl (.v 0) .non (.or2 (.v 4) (.k .none)) .non)) (.seq (.asg 1 (.sl (.v 1) .non (.or2 (.v 4) (.k .none)) .non)) (.seq (.iff (.ors (.cons (.no (.v 0)) (.cons (.no (.v 1)) .nil)))
 (.seq (.ret (.bin .Mult (.k (.int 2)) (.bin .Add (.bi .len (.cons (.v 0) .nil)) (.bi .len (.cons (.v 1) .nil))))) .skip)
 .skip) (.seq (.iff (.ors (.cons (.cmp .Gt (.bi .len (.cons (.v 0) .nil)) (.k (.int 40))) (.cons (.cmp .Gt (.bi .len (.cons (.v 1) .nil)) (.k (.int 40))) .nil)))
 (.seq (.ret (.bin .Add (.v 2) (.k (.int 1)))) .skip)
 .skip) (.seq (.iff (.cmp .Lt (.bi .len (.cons (.v 1) .nil)) (.bi .len (.cons (.v 0) .nil)))
 (.seq (.unp [0, 1] (.tup (.cons (.v 1) (.cons (.v 0) .nil)))) .skip)
 .skip) (.seq (.iff (.cmp .Gt (.bin .Mult (.bin .Sub (.bi .len (.cons (.v 1) .nil)) (.bi .len (.cons (.v 0) .nil))) (.k (.int 2))) (.v 2))
 (.seq (.ret (.bin .Add (.v 2) (.k (.int 1)))) .skip)
 .skip) (.seq (.asgO 5 (.bi .list (.cons (.bi .range3 (.cons (.k (.int 2)) (.cons (.bin .Mult (.k (.int 2)) (.bin .Add (.bi .len (.cons (.v 0) .nil)) (.k (.int 1)))) (.cons (.k (.int 2)) .nil)))) .nil))) (.seq (.asg 6 (.k (.int 0))) (.seq (.for 7 (.bi .range1 (.cons (.bi .len (.cons (.v 1) .nil)) .nil))
 (.seq (.asg 8 (.item (.v 1) (.v 7))) (.seq (.asgM [9, 6] (.bin .Mult (.v 7) (.k (.int 2)))) (.seq (.asg 10 (.k (.int 9223372036854775807))) (.seq (.for 11 (.bi .range1 (.cons (.bi .len (.cons (.v 0) .nil)) .nil))
 (.seq (.asg 12 (.bin .Add (.v 9) (.fn 10 (.cons (.v 8) (.cons (.item (.v 0) (.v 11)) .nil))))) (.seq (.asg 9 (.item (.own 5) (.v 11))) (.seq (.asg 13 (.bin .Add (.bi .min2 (.cons (.v 6) (.cons (.v 9) .nil))) (.k (.int 2)))) (.seq (.asg 6 (.bi .min2 (.cons (.v 13) (.cons (.v 12) .nil)))) (.seq (.setI 5 (.v 11) (.v 6)) (.seq (.iff (.cmp .Lt (.v 6) (.v 10))
 (.seq (.asg 10 (.v 6)) .skip)
 .skip) .skip))))))) (.seq (.iff (.cmp .Gt (.v 10) (.v 2))
 (.seq (.ret (.bin .Add (.v 2) (.k (.int 1)))) .skip)
 .skip) .skip)))))) (.seq (.ret (.v 6)) .skip)))))))))))))))))


end LC
end
section
set_option maxRecDepth 100000
namespace L1
open PySem PySem.W Mine

/-- slots: 0 self, 1 ws, 2 S, 3 T, 4 count, 5 b, 6 n, 7 nt, 8 ch -/
noncomputable def b_init : S := (.seq (.setA 0 (.v 1)) (.seq (.unp [2, 3] (.tup (.cons (.k (.str [32])) (.cons (.k (.str [9])) .nil)))) (.seq (.asgO 4 (.list .nil)) (.seq (.asgM [5, 6, 7] (.k (.int 0))) (.seq (.for 8 (.fld (.own 0) 0)
 (.seq (.iff (.cmp .Eq (.v 8) (.v 2))
 (.seq (.asg 6 (.bin .Add (.v 6) (.k (.int 1)))) (.seq (.asg 5 (.bin .Add (.v 5) (.k (.int 1)))) .skip))
 (.seq (.iff (.cmp .Eq (.v 8) (.v 3))
 (.seq (.asg 6 (.bin .Add (.v 6) (.k (.int 1)))) (.seq (.asg 7 (.bin .Add (.v 7) (.k (.int 1)))) (.seq (.iff (.cmp .GtE (.v 5) (.bi .len (.cons (.own 4) .nil)))
 (.seq (.asgO 4 (.bin .Add (.own 4) (.repl (.cons (.k (.int 0)) .nil) (.bin .Add (.bin .Sub (.v 5) (.bi .len (.cons (.own 4) .nil))) (.k (.int 1)))))) .skip)
 .skip) (.seq (.setI 4 (.v 5) (.bin .Add (.item (.own 4) (.v 5)) (.k (.int 1)))) (.seq (.asg 5 (.k (.int 0))) .skip)))))
 (.seq .brk .skip)) .skip)) .skip)) (.seq (.setA 1 (.v 6)) (.seq (.setA 2 (.v 7)) (.seq (.setA 3 (.tup (.cons (.bi .tuple (.cons (.own 4) .nil)) (.cons (.v 5) .nil)))) (.seq (.setA 4 (.cmp .LtE (.bi .len (.cons (.own 4) .nil)) (.k (.int 1)))) .skip)))))))))

/-- slots: 0 self, 1 count, 2 trailing -/
noncomputable def b_longest_run_of_spaces : S := (.seq (.unp [1, 2] (.fld (.v 0) 3)) (.seq (.ret (.bi .max2 (.cons (.bin .Sub (.bi .len (.cons (.v 1) .nil)) (.k (.int 1))) (.cons (.v 2) .nil)))) .skip))

/-- slots: 0 self, 1 tabsize, 2 count, 3 trailing, 4 il, 5 i -/
noncomputable def b_indent_level : S := (.seq (.unp [2, 3] (.fld (.v 0) 3)) (.seq (.asg 4 (.k (.int 0))) (.seq (.for 5 (.bi .range2 (.cons (.v 1) (.cons (.bi .len (.cons (.v 2) .nil)) .nil)))
 (.seq (.asg 4 (.bin .Add (.v 4) (.bin .Mult (.bin .FloorDiv (.v 5) (.v 1)) (.item (.v 2) (.v 5))))) .skip)) (.seq (.ret (.bin .Add (.v 3) (.bin .Mult (.v 1) (.bin .Add (.v 4) (.fld (.v 0) 2))))) .skip))))

/-- slots: 0 self, 1 other -/
noncomputable def b_equal : S := (.seq (.ret (.cmp .Eq (.fld (.v 0) 3) (.fld (.v 1) 3))) .skip)

/-- slots: 0 self, 1 other, 2 n, 3 a, 4 ts -/
noncomputable def b_not_equal_witness : S := (.seq (.asg 2 (.bin .Add (.bi .max2 (.cons (.me 1 (.v 0) .nil) (.cons (.me 1 (.v 1) .nil) .nil))) (.k (.int 1)))) (.seq (.asgO 3 (.list .nil)) (.seq (.for 4 (.bi .range2 (.cons (.k (.int 1)) (.cons (.bin .Add (.v 2) (.k (.int 1))) .nil)))
 (.seq (.iff (.cmp .NotEq (.me 2 (.v 0) (.cons (.v 4) .nil)) (.me 2 (.v 1) (.cons (.v 4) .nil)))
 (.seq (.app 3 (.tup (.cons (.v 4) (.cons (.me 2 (.v 0) (.cons (.v 4) .nil)) (.cons (.me 2 (.v 1) (.cons (.v 4) .nil)) .nil))))) .skip)
 .skip) .skip)) (.seq (.retO 3) .skip))))

/-- slots: 0 self, 1 other, 2 n, 3 ts -/
noncomputable def b_less : S := (.seq (.iff (.cmp .GtE (.fld (.v 0) 1) (.fld (.v 1) 1))
 (.seq (.ret (.k (.bool false))) .skip)
 .skip) (.seq (.iff (.ands (.cons (.fld (.v 0) 4) (.cons (.fld (.v 1) 4) .nil)))
 (.seq (.ret (.cmp .LtE (.fld (.v 0) 2) (.fld (.v 1) 2))) .skip)
 .skip) (.seq (.asg 2 (.bin .Add (.bi .max2 (.cons (.me 1 (.v 0) .nil) (.cons (.me 1 (.v 1) .nil) .nil))) (.k (.int 1)))) (.seq (.for 3 (.bi .range2 (.cons (.k (.int 2)) (.cons (.bin .Add (.v 2) (.k (.int 1))) .nil)))
 (.seq (.iff (.cmp .GtE (.me 2 (.v 0) (.cons (.v 3) .nil)) (.me 2 (.v 1) (.cons (.v 3) .nil)))
 (.seq (.ret (.k (.bool false))) .skip)
 .skip) .skip)) (.seq (.ret (.k (.bool true))) .skip)))))

/-- slots: 0 self, 1 other, 2 n, 3 a, 4 ts -/
noncomputable def b_not_less_witness : S := (.seq (.asg 2 (.bin .Add (.bi .max2 (.cons (.me 1 (.v 0) .nil) (.cons (.me 1 (.v 1) .nil) .nil))) (.k (.int 1)))) (.seq (.asgO 3 (.list .nil)) (.seq (.for 4 (.bi .range2 (.cons (.k (.int 1)) (.cons (.bin .Add (.v 2) (.k (.int 1))) .nil)))
 (.seq (.iff (.cmp .GtE (.me 2 (.v 0) (.cons (.v 4) .nil)) (.me 2 (.v 1) (.cons (.v 4) .nil)))
 (.seq (.app 3 (.tup (.cons (.v 4) (.cons (.me 2 (.v 0) (.cons (.v 4) .nil)) (.cons (.me 2 (.v 1) (.cons (.v 4) .nil)) .nil))))) .skip)
 .skip) .skip)) (.seq (.retO 3) .skip))))

/-- slots: 0 ch_a, 1 ch_b -/
noncomputable def b_substitution_cost : S := (.seq (.iff (.cmp .Eq (.v 0) (.v 1))
 (.seq (.ret (.k (.int 0))) .skip)
 .skip) (.seq (.iff (.cmp .Eq (.sm .lower (.v 0) .nil) (.sm .lower (.v 1) .nil))
 (.seq (.ret (.k (.int 1))) .skip)
 .skip) (.seq (.ret (.k (.int 2))) .skip)))

/-- slots: 0 a, 1 b, 2 max_cost, 3 pre, 4 post, 5 row, 6 result, 7 bindex, 8 bchar, 9 distance, 10 minimum, 11 index, 12 substitute, 13 insert_delete -/
noncomputable def b_levenshtein_distance : S := (.seq (.iff (.cmp .Eq (.v 0) (.v 1))
 (.seq (.ret (.k (.int 0))) .skip)
 .skip) (.seq (.asg 3 (.k (.int 0))) (.seq (.whl (.ands (.cons (.sl (.v 0) (.v 3) .non .non) (.cons (.sl (.v 1) (.v 3) .non .non) (.cons (.cmp .Eq (.item (.v 0) (.v 3)) (.item (.v 1) (.v 3))) .nil))))
 (.seq (.aug 3 .Add (.k (.int 1))) .skip)) (.seq (.asg 0 (.sl (.v 0) (.v 3) .non .non)) (.seq (.asg 1 (.sl (.v 1) (.v 3) .non .non)) (.seq (.asg 4 (.k (.int 0))) (.seq (.whl (.ands (.cons (.sl (.v 0) .non (.or2 (.v 4) (.k .none)) .non) (.cons (.sl (.v 1) .non (.or2 (.v 4) (.k .none)) .non) (.cons (.cmp .Eq (.item (.v 0) (.bin .Sub (.v 4) (.k (.int 1)))) (.item (.v 1) (.bin .Sub (.v 4) (.k (.int 1))))) .nil))))
 (.seq (.aug 4 .Sub (.k (.int 1))) .skip)) (.seq (.asg 0 (.sl (.v 0) .non (.or2 (.v 4) (.k .none)) .non)) (.seq (.asg 1 (.sl (.v 1) .non (.or2 (.v 4) (.k .none)) .non)) (.seq (.iff (.ors (.cons (.no (.v 0)) (.cons (.no (.v 1)) .nil)))
 (.seq (.ret (.bin .Mult (.k (.int 2)) (.bin .Add (.bi .len (.cons (.v 0) .nil)) (.bi .len (.cons (.v 1) .nil))))) .skip)
 .skip) (.seq (.iff (.ors (.cons (.cmp .Gt (.bi .len (.cons (.v 0) .nil)) (.k (.int 40))) (.cons (.cmp .Gt (.bi .len (.cons (.v 1) .nil)) (.k (.int 40))) .nil)))
 (.seq (.ret (.bin .Add (.v 2) (.k (.int 1)))) .skip)
 .skip) (.seq (.iff (.cmp .Lt (.bi .len (.cons (.v 1) .nil)) (.bi .len (.cons (.v 0) .nil)))
 (.seq (.unp [0, 1] (.tup (.cons (.v 1) (.cons (.v 0) .nil)))) .skip)
 .skip) (.seq (.iff (.cmp .Gt (.bin .Mult (.bin .Sub (.bi .len (.cons (.v 1) .nil)) (.bi .len (.cons (.v 0) .nil))) (.k (.int 2))) (.v 2))
 (.seq (.ret (.bin .Add (.v 2) (.k (.int 1)))) .skip)
 .skip) (.seq (.asgO 5 (.bi .list (.cons (.bi .range3 (.cons (.k (.int 2)) (.cons (.bin .Mult (.k (.int 2)) (.bin .Add (.bi .len (.cons (.v 0) .nil)) (.k (.int 1)))) (.cons (.k (.int 2)) .nil)))) .nil))) (.seq (.asg 6 (.k (.int 0))) (.seq (.for 7 (.bi .range1 (.cons (.bi .len (.cons (.v 1) .nil)) .nil))
 (.seq (.asg 8 (.item (.v 1) (.v 7))) (.seq (.asgM [9, 6] (.bin .Mult (.v 7) (.k (.int 2)))) (.seq (.asg 10 (.k (.int 9223372036854775807))) (.seq (.for 11 (.bi .range1 (.cons (.bi .len (.cons (.v 0) .nil)) .nil))
 (.seq (.asg 12 (.bin .Add (.v 9) (.fn 10 (.cons (.v 8) (.cons (.item (.v 0) (.v 11)) .nil))))) (.seq (.asg 9 (.item (.own 5) (.v 11))) (.seq (.asg 13 (.bin .Add (.bi .min2 (.cons (.v 6) (.cons (.v 9) .nil))) (.k (.int 2)))) (.seq (.asg 6 (.bi .min2 (.cons (.v 13) (.cons (.v 12) .nil)))) (.seq (.setI 5 (.v 11) (.v 6)) (.seq (.iff (.cmp .Lt (.v 6) (.v 10))
 (.seq (.asg 10 (.v 6)) .skip)
 .skip) .skip))))))) (.seq (.iff (.cmp .Gt (.v 10) (.v 2))
 (.seq (.ret (.bin .Add (.v 2) (.k (.int 1)))) .skip)
 .skip) .skip)))))) (.seq (.ret (.v 6)) .skip)))))))))))))))))

/-- slots: 0 script, 1 first, 2 start -/
noncomputable def b_law_sum : S := (.seq (.ret (.bin .Add (.v 2) (.bi .sum (.cons (.comp (.bin .Add (.bin .Mod (.v 3) (.k (.int 1000000))) (.k (.int 1))) 3 false (.sl (.v 0) (.v 1) (.k (.int 60)) (.k (.int 4))) .yes) .nil)))) .skip)

/-- slots: 0 runs, 1 rest -/
noncomputable def b_law_word : S := (.seq (.ret (.bin .Add (.sm .join (.k (.str [])) (.cons (.comp (.bin .Add (.bin .Mult (.k (.str [32])) (.v 2)) (.k (.str [9]))) 2 false (.v 0) .yes) .nil)) (.bin .Mult (.k (.str [32])) (.v 1)))) .skip)

/-- slots: 0 runs, 1 looks, 2 k, 3 left, 4 m, 5 pair, 6 two -/
noncomputable def b_law_looks : S := (.seq (.asgO 1 (.list (.cons (.v 0) .nil))) (.seq (.for 2 (.bi .range1 (.cons (.bi .len (.cons (.v 0) .nil)) .nil))
 (.seq (.asg 3 (.bin .Add (.sl (.v 0) .non (.v 2) .non) (.sl (.v 0) (.bin .Add (.v 2) (.k (.int 1))) .non .non))) (.seq (.for 4 (.bi .range1 (.cons (.bi .len (.cons (.v 0) .nil)) .nil))
 (.seq (.asg 5 (.sl (.v 0) (.v 4) (.bin .Add (.v 4) (.k (.int 2))) .non)) (.seq (.iff (.cmp .Eq (.item (.v 0) (.v 2)) (.k (.int 0)))
 (.seq (.app 1 (.bin .Add (.bin .Add (.sl (.v 3) .non (.v 4) .non) (.list (.cons (.k (.int 0)) .nil))) (.sl (.v 3) (.v 4) .non .non))) .skip)
 .skip) (.seq (.iff (.ors (.cons (.cmp .Eq (.item (.v 0) (.v 4)) (.bin .Add (.item (.v 0) (.v 2)) (.k (.int 1)))) (.cons (.cmp .Eq (.v 4) (.bin .Add (.v 2) (.k (.int 1)))) .nil)))
 (.seq (.app 1 (.comp (.ite (.cmp .Eq (.v 7) (.v 2)) (.item (.v 0) (.v 4)) (.ite (.cmp .Eq (.v 7) (.v 4)) (.item (.v 0) (.v 2)) (.item (.v 0) (.v 7)))) 7 false (.bi .range1 (.cons (.bi .len (.cons (.v 0) .nil)) .nil)) .yes)) .skip)
 .skip) (.seq (.iff (.ands (.cons (.cmp .Eq (.bi .len (.cons (.v 5) .nil)) (.k (.int 2))) (.cons (.cmp .NotEq (.v 2) (.v 4)) (.cons (.cmp .NotEq (.v 2) (.bin .Add (.v 4) (.k (.int 1)))) (.cons (.cmp .In (.bin .Sub (.item (.v 0) (.v 2)) (.bi .sum (.cons (.v 5) .nil))) (.tup (.cons (.k (.int 0)) (.cons (.k (.int 1)) .nil)))) .nil)))))
 (.seq (.for 6 (.tup (.cons (.v 5) (.cons (.list (.cons (.item (.v 5) (.k (.int 1))) (.cons (.item (.v 5) (.k (.int 0))) .nil))) .nil)))
 (.seq (.iff (.cmp .Lt (.v 2) (.v 4))
 (.seq (.app 1 (.bin .Add (.bin .Add (.bin .Add (.bin .Add (.sl (.v 0) .non (.v 2) .non) (.v 6)) (.sl (.v 0) (.bin .Add (.v 2) (.k (.int 1))) (.v 4) .non)) (.list (.cons (.item (.v 0) (.v 2)) .nil))) (.sl (.v 0) (.bin .Add (.v 4) (.k (.int 2))) .non .non))) .skip)
 (.seq (.app 1 (.bin .Add (.bin .Add (.bin .Add (.bin .Add (.sl (.v 0) .non (.v 4) .non) (.list (.cons (.item (.v 0) (.v 2)) .nil))) (.sl (.v 0) (.bin .Add (.v 4) (.k (.int 2))) (.v 2) .non)) (.v 6)) (.sl (.v 0) (.bin .Add (.v 2) (.k (.int 1))) .non .non))) .skip)) .skip)) .skip)
 .skip) .skip))))) .skip))) (.seq (.retO 1) .skip)))

/-- slots: 0 runs, 1 number, 2 row, 3 left, 4 k, 5 place -/
noncomputable def b_law_order : S := (.seq (.asgO 2 (.list .nil)) (.seq (.asg 3 (.v 0)) (.seq (.for 4 (.bi .range1 (.cons (.bi .len (.cons (.v 0) .nil)) .nil))
 (.seq (.asg 5 (.bin .Mod (.v 1) (.bi .len (.cons (.v 3) .nil)))) (.seq (.asg 1 (.bin .FloorDiv (.v 1) (.bi .len (.cons (.v 3) .nil)))) (.seq (.app 2 (.item (.v 3) (.v 5))) (.seq (.asg 3 (.bin .Add (.sl (.v 3) .non (.v 5) .non) (.sl (.v 3) (.bin .Add (.v 5) (.k (.int 1))) .non .non))) .skip))))) (.seq (.retO 2) .skip))))

/-- slots: 0 lead, 1 number, 2 sign, 3 place -/
noncomputable def b_law_stroke : S := (.seq (.asg 2 (.item (.k (.str [32, 9])) (.bin .Mod (.bin .FloorDiv (.v 1) (.k (.int 3))) (.k (.int 2))))) (.seq (.asg 3 (.bin .Mod (.bin .FloorDiv (.v 1) (.k (.int 6))) (.k (.int 20)))) (.seq (.iff (.ors (.cons (.cmp .Eq (.bin .Mod (.v 1) (.k (.int 3))) (.k (.int 0))) (.cons (.cmp .Eq (.v 0) (.k (.str []))) .nil)))
 (.seq (.asg 3 (.bin .Mod (.v 3) (.bin .Add (.bi .len (.cons (.v 0) .nil)) (.k (.int 1))))) (.seq (.ret (.bin .Add (.bin .Add (.sl (.v 0) .non (.v 3) .non) (.v 2)) (.sl (.v 0) (.v 3) .non .non))) .skip))
 .skip) (.seq (.asg 3 (.bin .Mod (.v 3) (.bi .len (.cons (.v 0) .nil)))) (.seq (.ret (.bin .Add (.bin .Add (.sl (.v 0) .non (.v 3) .non) (.ite (.cmp .Eq (.bin .Mod (.v 1) (.k (.int 3))) (.k (.int 2))) (.v 2) (.k (.str [])))) (.sl (.v 0) (.bin .Add (.v 3) (.k (.int 1))) .non .non))) .skip)))))

/-- slots: 0 one, 1 other, 2 short, 3 long -/
noncomputable def b_law_one_stroke : S := (.seq (.iff (.cmp .Eq (.bi .len (.cons (.v 0) .nil)) (.bi .len (.cons (.v 1) .nil)))
 (.seq (.ret (.cmp .Eq (.bi .len (.cons (.comp (.v 4) 4 false (.bi .range1 (.cons (.bi .len (.cons (.v 0) .nil)) .nil)) (.cmp .NotEq (.item (.v 0) (.v 4)) (.item (.v 1) (.v 4)))) .nil)) (.k (.int 1)))) .skip)
 .skip) (.seq (.unp [2, 3] (.ite (.cmp .Lt (.bi .len (.cons (.v 0) .nil)) (.bi .len (.cons (.v 1) .nil))) (.tup (.cons (.v 0) (.cons (.v 1) .nil))) (.tup (.cons (.v 1) (.cons (.v 0) .nil))))) (.seq (.ret (.cmp .In (.v 2) (.comp (.bin .Add (.sl (.v 3) .non (.v 4) .non) (.sl (.v 3) (.bin .Add (.v 4) (.k (.int 1))) .non .non)) 4 false (.bi .range1 (.cons (.bi .len (.cons (.v 3) .nil)) .nil)) .yes))) .skip)))

/-- slots: 0 lead, 1 size, 2 column, 3 sign -/
noncomputable def b_law_column : S := (.seq (.asg 2 (.k (.int 0))) (.seq (.for 3 (.v 0)
 (.seq (.asg 2 (.bin .Add (.v 2) (.ite (.cmp .Eq (.v 3) (.k (.str [32]))) (.k (.int 1)) (.bin .Sub (.v 1) (.bin .Mod (.v 2) (.v 1)))))) .skip)) (.seq (.ret (.v 2)) .skip)))

/-- slots: 0 script, 1 first, 2 last, 3 runs, 4 rest, 5 lead, 6 looks, 7 order, 8 strokes, 9 once, 10 here, 11 other, 12 there, 13 top, 14 rows, 15 against, 16 told, 17 columns -/
noncomputable def b_law : S := (.seq (.asg 1 (.fn 12 (.cons (.v 0) (.cons (.k (.int 0)) (.cons (.k (.int 1064)) .nil))))) (.seq (.asg 2 (.fn 12 (.cons (.v 0) (.cons (.k (.int 3)) (.cons (.k (.int 49)) .nil))))) (.seq (.asg 3 (.comp (.bin .Mod (.bin .FloorDiv (.bin .FloorDiv (.v 1) (.k (.int 8))) (.bin .Pow (.k (.int 4)) (.v 18))) (.k (.int 4))) 18 false (.bi .range1 (.cons (.item (.list (.cons (.k (.int 4)) (.cons (.k (.int 3)) (.cons (.k (.int 4)) (.cons (.k (.int 3)) (.cons (.k (.int 2)) (.cons (.k (.int 4)) (.cons (.k (.int 1)) (.cons (.k (.int 0)) .nil))))))))) (.bin .Mod (.v 1) (.k (.int 8)))) .nil)) .yes)) (.seq (.asg 4 (.bin .Mod (.v 2) (.k (.int 3)))) (.seq (.asg 5 (.fn 13 (.cons (.v 3) (.cons (.v 4) .nil)))) (.seq (.asg 6 (.comp (.fn 13 (.cons (.v 18) (.cons (.v 4) .nil))) 18 false (.fn 14 (.cons (.v 3) .nil)) .yes)) (.seq (.asg 7 (.fn 13 (.cons (.fn 15 (.cons (.v 3) (.cons (.fn 12 (.cons (.v 0) (.cons (.k (.int 1)) (.cons (.k (.int 11)) .nil)))) .nil))) (.cons (.v 4) .nil)))) (.seq (.asg 8 (.fn 12 (.cons (.v 0) (.cons (.k (.int 2)) (.cons (.k (.int 2161)) .nil))))) (.seq (.asg 9 (.fn 16 (.cons (.v 5) (.cons (.v 8) .nil)))) (.seq (.asg 10 (.new (.cons (.bin .Add (.v 5) (.k (.str [120, 32, 9]))) .nil))) (.seq (.for 11 (.tup (.cons (.v 9) (.cons (.fn 16 (.cons (.v 9) (.cons (.bin .FloorDiv (.v 8) (.k (.int 120))) .nil))) .nil)))
 (.seq (.asg 12 (.new (.cons (.bin .Add (.v 11) (.k (.str [10]))) .nil))) (.seq (.asg 13 (.bin .Add (.k (.int 1)) (.bi .max1 (.cons (.comp (.bi .len (.cons (.v 18) .nil)) 18 false (.sm .split (.bin .Add (.bin .Add (.v 5) (.k (.str [9]))) (.v 11)) (.cons (.k (.str [9])) .nil)) .yes) .nil)))) (.seq (.asg 14 (.comp (.tup (.cons (.v 18) (.cons (.fn 18 (.cons (.v 5) (.cons (.v 18) .nil))) (.cons (.fn 18 (.cons (.v 11) (.cons (.v 18) .nil))) .nil)))) 18 false (.bi .range2 (.cons (.k (.int 1)) (.cons (.bin .Add (.v 13) (.k (.int 1))) .nil))) .yes)) (.seq (.iff (.cmp .NotEq (.me 4 (.v 10) (.cons (.v 12) .nil)) (.comp (.v 18) 18 false (.v 14) (.cmp .NotEq (.item (.v 18) (.k (.int 1))) (.item (.v 18) (.k (.int 2))))))
 (.seq (.ret (.k (.bool false))) .skip)
 .skip) (.seq (.asg 15 (.comp (.v 18) 18 false (.v 14) (.cmp .GtE (.item (.v 18) (.k (.int 1))) (.item (.v 18) (.k (.int 2)))))) (.seq (.iff (.ors (.cons (.cmp .NotEq (.me 6 (.v 10) (.cons (.v 12) .nil)) (.v 15)) (.cons (.cmp .IsNot (.me 5 (.v 10) (.cons (.v 12) .nil)) (.cmp .Eq (.v 15) (.list .nil))) .nil)))
 (.seq (.ret (.k (.bool false))) .skip)
 .skip) (.seq (.iff (.cmp .IsNot (.me 5 (.v 12) (.cons (.v 10) .nil)) (.cmp .Eq (.comp (.v 18) 18 false (.v 14) (.cmp .GtE (.item (.v 18) (.k (.int 2))) (.item (.v 18) (.k (.int 1))))) (.list .nil)))
 (.seq (.ret (.k (.bool false))) .skip)
 .skip) (.seq (.iff (.cmp .IsNot (.me 3 (.v 10) (.cons (.v 12) .nil)) (.cmp .In (.v 11) (.v 6)))
 (.seq (.ret (.k (.bool false))) .skip)
 .skip) (.seq (.asg 16 (.fn 11 (.cons (.v 5) (.cons (.v 11) (.cons (.k (.int 4)) .nil))))) (.seq (.iff (.ors (.cons (.bi .isBool (.cons (.v 16) .nil)) (.cons (.cmp .NotEq (.v 16) (.ite (.cmp .Eq (.v 11) (.v 5)) (.k (.int 0)) (.ite (.fn 17 (.cons (.v 5) (.cons (.v 11) .nil))) (.k (.int 2)) (.k (.int 4))))) .nil)))
 (.seq (.ret (.k (.bool false))) .skip)
 .skip) .skip))))))))))) (.seq (.for 11 (.tup (.cons (.v 7) (.cons (.item (.v 6) (.bin .Mod (.bin .FloorDiv (.v 2) (.k (.int 3))) (.bi .len (.cons (.v 6) .nil)))) .nil)))
 (.seq (.asg 12 (.new (.cons (.bin .Add (.v 11) (.k (.str [35, 9, 32]))) .nil))) (.seq (.asg 17 (.comp (.fn 18 (.cons (.v 5) (.cons (.v 18) .nil))) 18 false (.bi .range2 (.cons (.k (.int 1)) (.cons (.bin .Add (.k (.int 2)) (.bi .max1 (.cons (.bin .Add (.list (.cons (.v 4) .nil)) (.v 3)) .nil))) .nil))) .yes)) (.seq (.iff (.cmp .NotEq (.me 6 (.v 10) (.cons (.v 12) .nil)) (.comp (.tup (.cons (.bin .Add (.v 18) (.k (.int 1))) (.cons (.item (.v 17) (.v 18)) (.cons (.item (.v 17) (.v 18)) .nil)))) 18 false (.bi .range1 (.cons (.bi .len (.cons (.v 17) .nil)) .nil)) .yes))
 (.seq (.ret (.k (.bool false))) .skip)
 .skip) (.seq (.iff (.ors (.cons (.cmp .IsNot (.me 3 (.v 10) (.cons (.v 12) .nil)) (.k (.bool true))) (.cons (.cmp .IsNot (.me 5 (.v 10) (.cons (.v 12) .nil)) (.k (.bool false))) (.cons (.cmp .IsNot (.me 5 (.v 12) (.cons (.v 10) .nil)) (.k (.bool false))) .nil))))
 (.seq (.ret (.k (.bool false))) .skip)
 .skip) (.seq (.asg 16 (.fn 11 (.cons (.v 5) (.cons (.v 11) (.cons (.k (.int 4)) .nil))))) (.seq (.iff (.ite (.cmp .In (.v 11) (.v 6)) (.cmp .NotEq (.v 16) (.ite (.cmp .Eq (.v 11) (.v 5)) (.k (.int 0)) (.k (.int 4)))) (.cmp .LtE (.v 16) (.k (.int 4))))
 (.seq (.ret (.k (.bool false))) .skip)
 .skip) (.seq (.iff (.cmp .IsNot (.cmp .Gt (.fn 11 (.cons (.v 11) (.cons (.v 5) (.cons (.k (.int 2)) .nil)))) (.k (.int 2))) (.cmp .NotEq (.v 11) (.v 5)))
 (.seq (.ret (.k (.bool false))) .skip)
 .skip) .skip)))))))) (.seq (.ret (.k (.bool true))) .skip)))))))))))))

noncomputable def tab : List (Nat × Fx) := [(0, ⟨true, 1, 9, b_init⟩),
  (1, ⟨false, 1, 3, b_longest_run_of_spaces⟩),
  (2, ⟨false, 2, 6, b_indent_level⟩),
  (3, ⟨false, 2, 2, b_equal⟩),
  (4, ⟨false, 2, 5, b_not_equal_witness⟩),
  (5, ⟨false, 2, 4, b_less⟩),
  (6, ⟨false, 2, 5, b_not_less_witness⟩),
  (10, ⟨false, 2, 2, b_substitution_cost⟩),
  (11, ⟨false, 3, 14, b_levenshtein_distance⟩),
  (12, ⟨false, 3, 3, b_law_sum⟩),
  (13, ⟨false, 2, 2, b_law_word⟩),
  (14, ⟨false, 1, 7, b_law_looks⟩),
  (15, ⟨false, 2, 6, b_law_order⟩),
  (16, ⟨false, 2, 4, b_law_stroke⟩),
  (17, ⟨false, 2, 4, b_law_one_stroke⟩),
  (18, ⟨false, 2, 4, b_law_column⟩),
  (19, ⟨false, 1, 18, b_law⟩)]

noncomputable def gx : Gx := { C := 76, cls := Str.ofString "Whitespace", fv := [(0, .ref 76), (1, .ref 38), (2, .ref 45), (3, .ref 52), (4, .ref 59), (5, .ref 66), (6, .ref 73), (10, .ref 87), (11, .ref 94), (12, .ref 99), (13, .ref 104), (14, .ref 109), (15, .ref 116), (16, .ref 123), (17, .ref 128), (18, .ref 135), (19, .ref 140)], fns := [(Str.ofString "_substitution_cost", 10), (Str.ofString "_levenshtein_distance", 11), (Str.ofString "_law_sum", 12), (Str.ofString "_law_word", 13), (Str.ofString "_law_looks", 14), (Str.ofString "_law_order", 15), (Str.ofString "_law_stroke", 16), (Str.ofString "_law_one_stroke", 17), (Str.ofString "_law_column", 18), (Str.ofString "law", 19)], mes := [(Str.ofString "longest_run_of_spaces", 1), (Str.ofString "indent_level", 2), (Str.ofString "equal", 3), (Str.ofString "not_equal_witness", 4), (Str.ofString "less", 5), (Str.ofString "not_less_witness", 6)], con := [(Str.ofString "_MAX_STRING_SIZE", 40), (Str.ofString "_MOVE_COST", 2), (Str.ofString "_CASE_COST", 1)], cat := [(Str.ofString "S", [32]), (Str.ofString "T", [9])] }

end L1
end
section
namespace Mine

noncomputable def ed : List Nat → List Nat → Nat
  | [], b => b.length
  | x :: a, [] => a.length + 1
  | x :: a, y :: b => if x = y then ed a b else 1 + min (ed a b) (min (ed a (y :: b)) (ed (x :: a) b))
termination_by a b => a.length + b.length

theorem ed_nil (b : List Nat) : ed [] b = b.length := by rw [ed]
theorem ed_nil' (a : List Nat) : ed a [] = a.length := by cases a <;> simp [ed]
theorem ed_eq (x : Nat) (a b : List Nat) : ed (x :: a) (x :: b) = ed a b := by rw [ed, if_pos rfl]
theorem ed_ne {x y : Nat} (h : x ≠ y) (a b : List Nat) : ed (x :: a) (y :: b) = 1 + min (ed a b) (min (ed a (y :: b)) (ed (x :: a) b)) := by rw [ed, if_neg h]

theorem ed_lip : ∀ (n : Nat) (a b : List Nat), a.length + b.length ≤ n → (∀ y, ed a (y :: b) ≤ ed a b + 1) ∧ (∀ y, ed a b ≤ ed a (y :: b) + 1) ∧ (∀ x, ed (x :: a) b ≤ ed a b + 1) ∧ (∀ x, ed a b ≤ ed (x :: a) b + 1) := by
  intro n
  induction n with
  | zero =>
    intro a b h
    obtain ⟨rfl, rfl⟩ : a = [] ∧ b = [] := by
      constructor <;> (apply List.length_eq_zero_iff.mp; lia)
    simp [ed_nil, ed_nil']
  | succ n ih =>
    intro a b h
    have A1 : ∀ y, ed a (y :: b) ≤ ed a b + 1 := by
      intro y
      cases a with
      | nil => simp [ed_nil]
      | cons x a =>
        simp only [List.length_cons] at h
        by_cases q : x = y
        · subst q; rw [ed_eq]; exact (ih a b (by lia)).2.2.2 x
        · rw [ed_ne q]; lia
    have A3 : ∀ x, ed (x :: a) b ≤ ed a b + 1 := by
      intro x
      cases b with
      | nil => simp [ed_nil']
      | cons y b =>
        simp only [List.length_cons] at h
        by_cases q : x = y
        · subst q; rw [ed_eq]; exact (ih a b (by omega)).2.1 x
        · rw [ed_ne q]; omega
    have A2 : ∀ y, ed a b ≤ ed a (y :: b) + 1 := by
      intro y
      cases a with
      | nil => simp [ed_nil]; lia
      | cons x a =>
        simp only [List.length_cons] at h
        have I := ih a b (by lia)
        by_cases q : x = y
        · subst q; rw [ed_eq]; exact I.2.2.1 x
        · rw [ed_ne q]
          have h1 := I.2.2.1 x
          have h2 := I.2.1 y
          lia
    have A4 : ∀ x, ed a b ≤ ed (x :: a) b + 1 := by
      intro x
      cases b with
      | nil => simp [ed_nil']; lia
      | cons y b =>
        simp only [List.length_cons] at h
        have I := ih a b (by omega)
        by_cases q : x = y
        · subst q; rw [ed_eq]; exact I.1 x
        · rw [ed_ne q]
          have h1 := I.1 y
          have h2 := I.2.2.2 x
          omega
    exact ⟨A1, A2, A3, A4⟩
theorem ed_r1 (a b : List Nat) (y : Nat) : ed a (y :: b) ≤ ed a b + 1 := (ed_lip _ a b (Nat.le_refl _)).1 y
theorem ed_r2 (a b : List Nat) (y : Nat) : ed a b ≤ ed a (y :: b) + 1 := (ed_lip _ a b (Nat.le_refl _)).2.1 y
theorem ed_l1 (a b : List Nat) (x : Nat) : ed (x :: a) b ≤ ed a b + 1 := (ed_lip _ a b (Nat.le_refl _)).2.2.1 x
theorem ed_l2 (a b : List Nat) (x : Nat) : ed a b ≤ ed (x :: a) b + 1 := (ed_lip _ a b (Nat.le_refl _)).2.2.2 x

theorem ed_self : ∀ a, ed a a = 0
  | [] => by rw [ed_nil]; rfl
  | x :: a => by rw [ed_eq, ed_self a]

inductive Stroke : List Nat → List Nat → Prop
  | ins (p s : List Nat) (c : Nat) : Stroke (p ++ s) (p ++ c :: s)
  | del (p s : List Nat) (c : Nat) : Stroke (p ++ c :: s) (p ++ s)
  | sub (p s : List Nat) (c d : Nat) : Stroke (p ++ c :: s) (p ++ d :: s)
theorem Stroke.cons {a c : List Nat} (x : Nat) (h : Stroke a c) : Stroke (x :: a) (x :: c) := by
  cases h with
  | ins p s c => exact Stroke.ins (x :: p) s c
  | del p s c => exact Stroke.del (x :: p) s c
  | sub p s c d => exact Stroke.sub (x :: p) s c d
theorem Stroke.symm {a c : List Nat} (h : Stroke a c) : Stroke c a := by
  cases h with
  | ins p s c => exact Stroke.del p s c
  | del p s c => exact Stroke.ins p s c
  | sub p s c d => exact Stroke.sub p s d c
theorem Stroke.rev {a c : List Nat} (h : Stroke a c) : Stroke a.reverse c.reverse := by
  cases h with
  | ins p s c => simpa using Stroke.ins s.reverse p.reverse c
  | del p s c => simpa using Stroke.del s.reverse p.reverse c
  | sub p s c d => simpa using Stroke.sub s.reverse p.reverse c d
theorem Stroke.len {a c : List Nat} (h : Stroke a c) : a.length ≤ c.length + 1 ∧ c.length ≤ a.length + 1 := by
  cases h <;> simp <;> lia

theorem ed_sub (s : List Nat) (x y : Nat) : ∀ b, ed (x :: s) b ≤ ed (y :: s) b + 1
  | [] => by simp [ed_nil']
  | z :: b => by
    have ih := ed_sub s x y b
    have h1 := ed_r1 s b z
    have h2 := ed_r2 s b z
    have h3 := ed_l2 s b y
    by_cases q1 : x = z
    · subst q1
      rw [ed_eq]
      by_cases q2 : y = x
      · subst q2; rw [ed_eq]; lia
      · rw [ed_ne q2]; lia
    · rw [ed_ne q1]
      by_cases q2 : y = z
      · subst q2; rw [ed_eq]; lia
      · rw [ed_ne q2]; omega

/-- one stroke at the head of it moves the distance by one at most -/
theorem ed_cons_stroke {a c : List Nat} (q : Nat) (h : ∀ b, ed a b ≤ ed c b + 1) (hl : a.length ≤ c.length + 1) : ∀ b, ed (q :: a) b ≤ ed (q :: c) b + 1
  | [] => by simp [ed_nil']; omega
  | z :: b => by
    have ih := ed_cons_stroke q h hl b
    by_cases e : q = z
    · subst e; rw [ed_eq, ed_eq]; exact h b
    · rw [ed_ne e, ed_ne e]
      have h1 := h b
      have h2 := h (z :: b)
      grind
theorem ed_stroke {a c : List Nat} (h : Stroke a c) : ∀ b, ed a b ≤ ed c b + 1 := by
  cases h with
  | ins p s x =>
    induction p with
    | nil => intro b; exact ed_l2 s b x
    | cons q p ih => exact ed_cons_stroke q ih (by simp; lia)
  | del p s x =>
    induction p with
    | nil => intro b; exact ed_l1 s b x
    | cons q p ih => exact ed_cons_stroke q ih (by simp; lia)
  | sub p s x y =>
    induction p with
    | nil => intro b; exact ed_sub s x y b
    | cons q p ih => exact ed_cons_stroke q ih (by simp)

inductive Reach : Nat → List Nat → List Nat → Prop
  | refl (k : Nat) (a : List Nat) : Reach k a a
  | step {k : Nat} {a c b : List Nat} : Stroke a c → Reach k c b → Reach (k + 1) a b
theorem Reach.ed {k : Nat} {a b : List Nat} (h : Reach k a b) : ed a b ≤ k := by
  induction h with
  | refl k a => rw [ed_self]; exact Nat.zero_le _
  | step h _ ih => exact Nat.le_trans (ed_stroke h _) (by lia)
theorem Reach.cons {k : Nat} {a b : List Nat} (x : Nat) (h : Reach k a b) : Reach k (x :: a) (x :: b) := by
  induction h with
  | refl k a => exact .refl _ _
  | step h _ ih => exact .step (h.cons x) ih
theorem Reach.rev {k : Nat} {a b : List Nat} (h : Reach k a b) : Reach k a.reverse b.reverse := by
  induction h with
  | refl k a => exact .refl _ _
  | step h _ ih => exact .step h.rev ih
theorem Reach.mono {k k' : Nat} {a b : List Nat} (h : Reach k a b) (hk : k ≤ k') : Reach k' a b := by
  induction h generalizing k' with
  | refl k a => exact .refl _ _
  | step h _ ih =>
    cases k' with
    | zero => lia
    | succ k' => exact .step h (ih (by lia))
theorem Reach.snoc {k : Nat} {a b c : List Nat} (h : Reach k a b) (s : Stroke b c) : Reach (k + 1) a c := by
  induction h with
  | refl k a => exact .step s (.refl _ _)
  | step h _ ih => exact .step h (ih s)
theorem Reach.symm {k : Nat} {a b : List Nat} (h : Reach k a b) : Reach k b a := by
  induction h with
  | refl k a => exact .refl _ _
  | step h _ ih => exact ih.snoc h.symm
theorem reach_nil : ∀ b : List Nat, Reach b.length [] b
  | [] => .refl _ _
  | y :: b => .step (Stroke.ins [] [] y) ((reach_nil b).cons y)
theorem reach_of : ∀ (a b : List Nat), Reach (ed a b) a b
  | [], b => by rw [ed_nil]; exact reach_nil b
  | x :: a, [] => by rw [ed_nil']; exact (reach_nil (x :: a)).symm
  | x :: a, y :: b => by
    by_cases q : x = y
    · subst q; rw [ed_eq]; exact (reach_of a b).cons x
    · rw [ed_ne q]
      have h1 := reach_of a b
      have h2 := reach_of a (y :: b)
      have h3 := reach_of (x :: a) b
      have e : ∀ {u v w : Nat}, min u (min v w) = u ∨ min u (min v w) = v ∨ min u (min v w) = w := by intro u v w; lia
      rw [Nat.add_comm]
      rcases e (u := ed a b) (v := ed a (y :: b)) (w := ed (x :: a) b) with e | e | e
      · rw [e]; exact .step (Stroke.sub [] a x y) (h1.cons y)
      · rw [e]; exact .step (Stroke.del [] a x) h2
      · rw [e]; exact h3.snoc (Stroke.ins [] b y)
termination_by a b => a.length + b.length

theorem ed_iff {k : Nat} {a b : List Nat} : ed a b ≤ k ↔ Reach k a b := ⟨fun h => (reach_of a b).mono h, Reach.ed⟩
theorem ed_comm (a b : List Nat) : ed a b = ed b a := Nat.le_antisymm (reach_of b a).symm.ed (reach_of a b).symm.ed
theorem ed_rev (a b : List Nat) : ed a.reverse b.reverse = ed a b := Nat.le_antisymm (reach_of a b).rev.ed (by
  have := (reach_of a.reverse b.reverse).rev.ed
  simpa using this)
theorem ed_snoc_eq (x : Nat) (a b : List Nat) : ed (a ++ [x]) (b ++ [x]) = ed a b := by
  rw [← ed_rev (a ++ [x]), List.reverse_append, List.reverse_append]
  show ed (x :: a.reverse) (x :: b.reverse) = _
  rw [ed_eq, ed_rev]
theorem ed_snoc_ne {x y : Nat} (h : x ≠ y) (a b : List Nat) : ed (a ++ [x]) (b ++ [y]) = 1 + min (ed a b) (min (ed a (b ++ [y])) (ed (a ++ [x]) b)) := by
  rw [← ed_rev (a ++ [x]) (b ++ [y]), ← ed_rev a (b ++ [y]), ← ed_rev (a ++ [x]) b, ← ed_rev a b, List.reverse_append, List.reverse_append]
  show ed (x :: a.reverse) (y :: b.reverse) = 1 + min _ (min (ed _ (y :: b.reverse)) (ed (x :: a.reverse) _))
  rw [ed_ne h]
theorem ed_pre (p a b : List Nat) : ed (p ++ a) (p ++ b) = ed a b := by
  induction p with
  | nil => rfl
  | cons x p ih => rw [List.cons_append, List.cons_append, ed_eq, ih]
theorem ed_post (s a b : List Nat) : ed (a ++ s) (b ++ s) = ed a b := by
  rw [← ed_rev, List.reverse_append, List.reverse_append, ed_pre, ed_rev]
theorem ed_len (a b : List Nat) : a.length ≤ b.length + ed a b ∧ b.length ≤ a.length + ed a b := by
  have : ∀ {k : Nat} {a b : List Nat}, Reach k a b → a.length ≤ b.length + k ∧ b.length ≤ a.length + k := by
    intro k a b h
    induction h with
    | refl => grind
    | step h _ ih => have := h.len; lia
  exact this (reach_of a b)
theorem ed_zero {a b : List Nat} (h : ed a b = 0) : a = b := by
  have := reach_of a b
  rw [h] at this
  cases this; rfl
end Mine
end
section
namespace Mine

theorem ed_split : ∀ (a b1 b2 : List Nat), ∃ a1 a2, a = a1 ++ a2 ∧ ed a1 b1 + ed a2 b2 ≤ ed a (b1 ++ b2)
  | a, [], b2 => ⟨[], a, rfl, by rw [ed_nil]; simp⟩
  | [], y :: b1, b2 => ⟨[], [], rfl, by simp [ed_nil]; grind⟩
  | x :: a, y :: b1, b2 => by
    by_cases q : x = y
    · subst q
      obtain ⟨a1, a2, e, h⟩ := ed_split a b1 b2
      exact ⟨x :: a1, a2, by rw [e]; rfl, by rw [List.cons_append, ed_eq, ed_eq]; exact h⟩
    · obtain ⟨a1, a2, e1, h1⟩ := ed_split a b1 b2
      obtain ⟨c1, c2, e2, h2⟩ := ed_split a (y :: b1) b2
      obtain ⟨d1, d2, e3, h3⟩ := ed_split (x :: a) b1 b2
      have k1 : ed (x :: a1) (y :: b1) ≤ ed a1 b1 + 1 := by rw [ed_ne q]; lia
      have k2 := ed_l1 c1 (y :: b1) x
      have k3 := ed_r1 d1 b1 y
      rw [List.cons_append, ed_ne q]
      rw [List.cons_append] at h2
      have e : ∀ {u v w : Nat}, min u (min v w) = u ∨ min u (min v w) = v ∨ min u (min v w) = w := by intro u v w; omega
      rcases e (u := ed a (b1 ++ b2)) (v := ed a (y :: (b1 ++ b2))) (w := ed (x :: a) (b1 ++ b2)) with e | e | e
      · rw [e]; exact ⟨x :: a1, a2, by rw [e1]; rfl, by grind⟩
      · rw [e]; exact ⟨x :: c1, c2, by rw [e2]; rfl, by grind⟩
      · rw [e]; exact ⟨d1, d2, e3, by grind⟩
termination_by a b1 _ => a.length + b1.length

theorem ed_one (x : Nat) : ∀ (b : List Nat), b ≠ [] → ed [x] b ≤ b.length
  | [], h => absurd rfl h
  | y :: b, _ => by
    by_cases q : x = y
    · subst q; rw [ed_eq, ed_nil]; simp
    · rw [ed_ne q, ed_nil]; simp; lia

theorem ed_snoc_l1 (a b : List Nat) (x : Nat) : ed (a ++ [x]) b ≤ ed a b + 1 := by
  rw [← ed_rev (a ++ [x]), ← ed_rev a, List.reverse_append]; exact ed_l1 _ _ x
theorem ed_snoc_l2 (a b : List Nat) (x : Nat) : ed a b ≤ ed (a ++ [x]) b + 1 := by
  rw [← ed_rev (a ++ [x]), ← ed_rev a, List.reverse_append]; exact ed_l2 _ _ x
theorem ed_snoc_r1 (a b : List Nat) (x : Nat) : ed a (b ++ [x]) ≤ ed a b + 1 := by
  rw [ed_comm a, ed_comm a]; exact ed_snoc_l1 _ _ x
theorem ed_snoc_r2 (a b : List Nat) (x : Nat) : ed a b ≤ ed a (b ++ [x]) + 1 := by
  rw [ed_comm a, ed_comm a]; exact ed_snoc_l2 _ _ x

/-- the distance of the first j signs of a and the first i signs of b -/
noncomputable def eP (a b : List Nat) (j i : Nat) : Nat := ed (a.take j) (b.take i)

theorem eP_zero (a b : List Nat) {i : Nat} (hi : i ≤ b.length) : eP a b 0 i = i := by
  unfold eP; rw [List.take_zero, ed_nil, List.length_take]; lia
theorem eP_zero' (a b : List Nat) {j : Nat} (hj : j ≤ a.length) : eP a b j 0 = j := by
  unfold eP; rw [List.take_zero, ed_nil', List.length_take]; lia
theorem le_min1 {d x y : Nat} (h1 : d ≤ x + 1) (h2 : d ≤ y + 1) : d ≤ min x y + 1 := by
  rw [← Nat.add_min_add_right]; exact Nat.le_min.mpr ⟨h1, h2⟩
theorem dbl_min1 (x y : Nat) : 2 * (min x y + 1) = min (2 * x) (2 * y) + 2 := by
  rw [Nat.mul_min_mul_left]; rfl
theorem le_min2 {d x y : Nat} (h1 : d ≤ x + 1) (h2 : d ≤ y + 1) : 2 * d ≤ min (2 * x) (2 * y) + 2 := by
  rw [← dbl_min1]; exact Nat.mul_le_mul_left 2 (le_min1 h1 h2)
theorem dbl_min3 (d x y : Nat) : 2 * (1 + min d (min x y)) = min (min (2 * x) (2 * y) + 2) (2 * d + 2) := by
  rw [← dbl_min1, show 2 * d + 2 = 2 * (d + 1) from rfl, Nat.mul_min_mul_left, Nat.add_min_add_right, Nat.min_comm (min x y) d, Nat.add_comm 1]
theorem cell0a (i u : Nat) : min (min (2 * (i + 1)) (2 * u) + 2) (2 * i + 2) = min (min (2 * i) (2 * u) + 2) (2 * i + 2) := by
  rw [Nat.add_min_add_right, Nat.add_min_add_right, Nat.min_right_comm, Nat.min_right_comm (2 * i), Nat.min_self, show min (2 * (i + 1)) (2 * i) = 2 * i from Nat.min_eq_right (Nat.le_add_right (2 * i) 2)]
theorem cell0b {i u : Nat} (h : i ≤ u + 1) : min (min (2 * (i + 1)) (2 * u) + 2) (2 * i) = min (min (2 * i) (2 * u) + 2) (2 * i) := by
  rw [Nat.min_eq_right (le_min2 (Nat.le_succ_of_le (Nat.le_succ i)) h), Nat.min_eq_right (le_min2 (Nat.le_succ i) h)]
/-- one cell of the table as the program fills it (the left neighbour of the first cell is told one too small) -/
theorem eP_cell (a b : List Nat) {j i : Nat} {x y : Nat} (hx : a[j]? = some x) (hy : b[i]? = some y) :
    2 * eP a b (j + 1) (i + 1) = min (min (if j = 0 then 2 * i else 2 * eP a b j (i + 1)) (2 * eP a b (j + 1) i) + 2) (2 * eP a b j i + if y = x then 0 else 2) := by
  have ha : a.take (j + 1) = a.take j ++ [x] := by rw [List.take_add_one, hx]; rfl
  have hb : b.take (i + 1) = b.take i ++ [y] := by rw [List.take_add_one, hy]; rfl
  have hib : i < b.length := by
    rcases Nat.lt_or_ge i b.length with q | q
    · exact q
    · rw [List.getElem?_eq_none q] at hy; cases hy
  have key : 2 * eP a b (j + 1) (i + 1) = min (min (2 * eP a b j (i + 1)) (2 * eP a b (j + 1) i) + 2) (2 * eP a b j i + if y = x then 0 else 2) := by
    unfold eP
    rw [ha, hb]
    by_cases q : y = x
    · subst q
      rw [ed_snoc_eq, if_pos rfl]
      exact (Nat.min_eq_right (le_min2 (ed_snoc_r2 (a.take j) (b.take i) y) (ed_snoc_l2 (a.take j) (b.take i) y))).symm
    · rw [ed_snoc_ne (fun e => q e.symm), if_neg q]
      exact dbl_min3 ..
  by_cases hj : j = 0
  · subst hj
    rw [if_pos rfl, key]
    have h1 := eP_zero a b (i := i + 1) (by lia)
    have h2 := eP_zero a b (i := i) (by lia)
    rw [h1, h2]
    split
    · have h3 : i ≤ eP a b (0 + 1) i + 1 := by
        have := (ed_len (a.take (0 + 1)) (b.take i)).2
        unfold eP
        rw [List.length_take] at this
        have h5 : (a.take (0 + 1)).length ≤ 1 := List.length_take_le ..
        rw [Nat.min_eq_left (Nat.le_of_lt hib), Nat.add_comm] at this
        exact Nat.le_trans this (Nat.add_le_add_left h5 _)
      exact cell0b h3
    · exact cell0a ..
  · rw [if_neg hj]; exact key
/-- a row with all cells above m: the distance is above m -/
theorem eP_row (a b : List Nat) {i : Nat} (hi : 0 < i) (hib : i ≤ b.length) (ha : 0 < a.length) : ∃ j, 0 < j ∧ j ≤ a.length ∧ eP a b j i ≤ ed a b := by
  obtain ⟨a1, a2, e, h⟩ := ed_split a (b.take i) (b.drop i)
  rw [List.take_append_drop] at h
  by_cases q : a1.length = 0
  · rw [List.length_eq_zero_iff] at q
    subst q
    refine ⟨1, by lia, by lia, ?_⟩
    rw [ed_nil, List.length_take] at h
    cases a with
    | nil => simp at ha
    | cons x a =>
      have hne : b.take i ≠ [] := by
        intro q
        have := congrArg List.length q
        rw [List.length_take] at this
        have this : min i b.length = 0 := this
        grind
      have := ed_one x (b.take i) hne
      rw [List.length_take] at this
      show ed [x] (b.take i) ≤ _
      lia
  · refine ⟨a1.length, by lia, by rw [e]; simp, ?_⟩
    unfold eP
    rw [show a.take a1.length = a1 by rw [e]; simp]
    lia
end Mine
end
section
set_option maxRecDepth 100000
set_option backward.match.sparseCases false
namespace Mine
open PySem PySem.W PyProof.Rows

theorem pick_plain {α : Type} (l : List α) (lo hi : Option Int) : pick l lo hi none = (l.drop (lo.elim 0 (clipAt l.length))).take (hi.elim l.length (clipAt l.length) - lo.elim 0 (clipAt l.length)) := by
  unfold pick
  rw [sliceBounds_plain]
  dsimp only
  rw [sliceRange_one]
  have pr := pick_run l.toArray (lo.elim 0 (clipAt l.length)) (hi.elim l.length (clipAt l.length) - lo.elim 0 (clipAt l.length))
  simp only [List.getElem?_toArray] at pr
  rw [pr]
theorem clip_pos (n p : Nat) : clipAt n (p : Int) = min p n := by unfold clipAt; grind
theorem clip_neg (n q : Nat) (h : 0 < q) : clipAt n (-(q : Int)) = n - q := by unfold clipAt; split <;> lia
theorem pick_from {α : Type} (l : List α) (p : Nat) : pick l (some (p : Int)) none none = l.drop p := by
  rw [pick_plain]
  simp only [Option.elim, clip_pos]
  by_cases h : p ≤ l.length
  · rw [Nat.min_eq_left h, List.take_of_length_le (by rw [List.length_drop]; exact Nat.le_refl _)]
  · rw [Nat.min_eq_right (by lia), List.drop_length, List.drop_eq_nil_of_le (by lia)]; simp
theorem pick_to {α : Type} (l : List α) (p : Nat) : pick l none (some (p : Int)) none = l.take p := by
  rw [pick_plain]
  simp only [Option.elim, clip_pos, List.drop_zero, Nat.sub_zero]
  by_cases h : p ≤ l.length
  · rw [Nat.min_eq_left h]
  · rw [Nat.min_eq_right (by lia), List.take_length, List.take_of_length_le (by lia)]
theorem pick_cut {α : Type} (l : List α) (q : Nat) (h : 0 < q) : pick l none (some (-(q : Int))) none = l.take (l.length - q) := by
  rw [pick_plain]
  simp only [Option.elim, clip_neg _ _ h, List.drop_zero, Nat.sub_zero]
theorem pick_all {α : Type} (l : List α) : pick l none none none = l := by
  rw [pick_plain]
  simp [Option.elim]

section
variable {F : Nat → List V → Option V} {ρ : List V}

theorem ev_bind {x : X} {v : V} {α : Type} {f : V → Option α} (h : ev F ρ x = some v) : (ev F ρ x).bind f = f v := by rw [h]; rfl

theorem from_ev {x i : X} {a : List Nat} {p : Nat} (h0 : ev F ρ x = some (.str a)) (h1 : ev F ρ i = some (.int p)) (hl : a.length ≤ lim) : ev F ρ (.sl x i .non .non) = some (.str (a.drop p)) := by
  simp only [ev_q1, ev_q2, ev_q3, ev_q4, ev_q5, ev_q6, ev_q7, ev_q8, ev_q9, ev_q10, ev_q11, ev_q12, ev_q13, ev_q14, ev_q15, ev_q16, ev_q17, ev_q18, ev_q19, ev_q20, ev_q21, ev_q22, ev_q23, ev_q24, ev_q25, ev_q26, ev_q27, ev_q28]
  rw [h0, h1]
  show (if a.length ≤ lim then some (V.str (pick a (some (p : Int)) none none)) else none) = _
  rw [if_pos hl, pick_from]
theorem cut_ev {x i : X} {a : List Nat} {q : Nat} (h0 : ev F ρ x = some (.str a)) (h1 : ev F ρ i = some (.int (-(q : Int)))) (hl : a.length ≤ lim) : ev F ρ (.sl x .non (.or2 i (.k .none)) .non) = some (.str (a.take (a.length - q))) := by
  simp only [ev_q1, ev_q2, ev_q3, ev_q4, ev_q5, ev_q6, ev_q7, ev_q8, ev_q9, ev_q10, ev_q11, ev_q12, ev_q13, ev_q14, ev_q15, ev_q16, ev_q17, ev_q18, ev_q19, ev_q20, ev_q21, ev_q22, ev_q23, ev_q24, ev_q25, ev_q26, ev_q27, ev_q28]
  rw [h0, h1]
  by_cases hq : q = 0
  · subst hq
    show (if a.length ≤ lim then some (V.str (pick a none none none)) else none) = _
    rw [if_pos hl, pick_all]; simp
  · have e : truthyV (.int (-(q : Int))) = some true := by simp [truthyV, hq]
    simp only [Option.bind_some, e, if_true]
    show (if a.length ≤ lim then some (V.str (pick a none (some (-(q : Int))) none)) else none) = _
    rw [if_pos hl, pick_cut _ _ (by lia)]

noncomputable def wC1 : X := .ands (.cons (.sl (.v 0) (.v 3) .non .non) (.cons (.sl (.v 1) (.v 3) .non .non) (.cons (.cmp .Eq (.item (.v 0) (.v 3)) (.item (.v 1) (.v 3))) .nil)))
noncomputable def wB1 : S := .seq (.aug 3 .Add (.k (.int 1))) .skip
noncomputable def wC2 : X := .ands (.cons (.sl (.v 0) .non (.or2 (.v 4) (.k .none)) .non) (.cons (.sl (.v 1) .non (.or2 (.v 4) (.k .none)) .non) (.cons (.cmp .Eq (.item (.v 0) (.bin .Sub (.v 4) (.k (.int 1)))) (.item (.v 1) (.bin .Sub (.v 4) (.k (.int 1))))) .nil)))
noncomputable def wB2 : S := .seq (.aug 4 .Sub (.k (.int 1))) .skip

theorem truthy_str {l : List Nat} (hl : l.length ≤ lim) : truthyV (.str l) = some (!l.isEmpty) := if_pos hl

theorem eq_chars (c d : Nat) : cmpop .Eq (.str [c]) (.str [d]) = some (c == d) := by
  unfold cmpop
  simp only [okV, Bool.and_self, if_true, veq]
  congr 1
  simp

theorem item_str {x i : X} {a : List Nat} {k : Int} {j c : Nat} (h0 : ev F ρ x = some (.str a)) (h1 : ev F ρ i = some (.int k)) (hk : small k = true) (hj : idx k a.length = some j) (hc : a[j]? = some c) : ev F ρ (.item x i) = some (.str [c]) := by
  simp only [ev_q1, ev_q2, ev_q3, ev_q4, ev_q5, ev_q6, ev_q7, ev_q8, ev_q9, ev_q10, ev_q11, ev_q12, ev_q13, ev_q14, ev_q15, ev_q16, ev_q17, ev_q18, ev_q19, ev_q20, ev_q21, ev_q22, ev_q23, ev_q24, ev_q25, ev_q26, ev_q27, ev_q28]
  rw [h0, h1]
  show (if small k = true then (idx k a.length).bind fun j => (a[j]?).map fun c => V.str [c] else none) = _
  rw [if_pos hk, hj, Option.bind_some, hc]; rfl

theorem sl_t {o lo hi st : X} {z : V} (h : ev F ρ (.sl o lo hi st) = some z) : tst F ρ (.sl o lo hi st) = truthyV z := by
  rw [ev_q19] at h; rw [tst_q11, h]; rfl

theorem loop1 {a b : List Nat} {m : Int} {r : List V} (ha : a.length ≤ 100000) (hb : b.length ≤ 100000) : ∀ (n p : Nat), p ≤ a.length → p ≤ b.length → a.take p = b.take p → a.length - p < n →
    ∃ q : Nat, whileGo (fun ρ => tst F ρ wC1) (ex F 40 wB1) n (.str a :: .str b :: .int m :: .int p :: r) = some (.next (.str a :: .str b :: .int m :: .int q :: r)) ∧ q ≤ a.length ∧ q ≤ b.length ∧ a.take q = b.take q
  | 0, p, _, _, _, h => absurd h (Nat.not_lt_zero _)
  | n + 1, p, h1, h2, h3, h4 => by
    have la : a.length ≤ lim := Nat.le_trans ha (by decide)
    have lb : b.length ≤ lim := Nat.le_trans hb (by decide)
    have s0 : ev F (.str a :: .str b :: .int m :: .int p :: r) (.sl (.v 0) (.v 3) .non .non) = some (.str (a.drop p)) := from_ev rfl rfl la
    have s1 : ev F (.str a :: .str b :: .int m :: .int p :: r) (.sl (.v 1) (.v 3) .non .non) = some (.str (b.drop p)) := from_ev rfl rfl lb
    have t0 : tst F (.str a :: .str b :: .int m :: .int p :: r) (.sl (.v 0) (.v 3) .non .non) = some (!(a.drop p).isEmpty) := by
      rw [← truthy_str (l := a.drop p) (by rw [List.length_drop]; grind)]
      exact sl_t s0
    have t1 : tst F (.str a :: .str b :: .int m :: .int p :: r) (.sl (.v 1) (.v 3) .non .non) = some (!(b.drop p).isEmpty) := by
      rw [← truthy_str (l := b.drop p) (by rw [List.length_drop]; lia)]
      exact sl_t s1
    have stop : tst F (.str a :: .str b :: .int m :: .int p :: r) wC1 = some false → ∃ q : Nat, whileGo (fun ρ => tst F ρ wC1) (ex F 40 wB1) (n + 1) (.str a :: .str b :: .int m :: .int p :: r) = some (.next (.str a :: .str b :: .int m :: .int q :: r)) ∧ q ≤ a.length ∧ q ≤ b.length ∧ a.take q = b.take q := by
      intro e
      exact ⟨p, by rw [whileGo_q2, e]; rfl, h1, h2, h3⟩
    by_cases q1 : p < a.length
    · by_cases q2 : p < b.length
      · have g0 : a[p]? = some a[p] := List.getElem?_eq_getElem q1
        have g1 : b[p]? = some b[p] := List.getElem?_eq_getElem q2
        have sm : small (p : Int) = true := by simp [small]; lia
        have i0 : ev F (.str a :: .str b :: .int m :: .int p :: r) (.item (.v 0) (.v 3)) = some (.str [a[p]]) := item_str rfl rfl sm (by unfold idx; rw [if_pos (by lia), if_pos (by grind)]; rfl) g0
        have i1 : ev F (.str a :: .str b :: .int m :: .int p :: r) (.item (.v 1) (.v 3)) = some (.str [b[p]]) := item_str rfl rfl sm (by unfold idx; rw [if_pos (by lia), if_pos (by lia)]; rfl) g1
        have e : tst F (.str a :: .str b :: .int m :: .int p :: r) wC1 = some (a[p] == b[p]) := by
          have ne0 : (!(a.drop p).isEmpty) = true := by simp; omega
          have ne1 : (!(b.drop p).isEmpty) = true := by simp; omega
          have t2 : tst F (.str a :: .str b :: .int m :: .int p :: r) (.cmp .Eq (.item (.v 0) (.v 3)) (.item (.v 1) (.v 3))) = some (a[p] == b[p]) := by
            rw [tst_q5, i0, i1]; exact eq_chars _ _
          unfold wC1
          rw [tst_q2, tands_q2, t0, ne0, Option.bind_some, if_pos rfl, tands_q2, t1, ne1, Option.bind_some, if_pos rfl, tands_q2, t2, Option.bind_some, tands_q1]
          cases (a[p] == b[p]) <;> rfl
        by_cases q3 : a[p] = b[p]
        · have eb : ex F 40 wB1 (.str a :: .str b :: .int m :: .int p :: r) = some (.next (.str a :: .str b :: .int m :: .int ((p : Int) + 1) :: r)) := rfl
          obtain ⟨q, w1, w2⟩ := loop1 ha hb n (p + 1) (by lia) (by lia) (by rw [List.take_add_one, List.take_add_one, h3, g0, g1, q3]) (by lia)
          refine ⟨q, ?_, w2⟩
          rw [whileGo_q2, e, q3]
          simp only [beq_self_eq_true, Option.bind_some, if_true]
          rw [eb]
          exact w1
        · exact stop (by rw [e]; simp [q3])
      · refine stop ?_
        unfold wC1
        have ne1 : (!(b.drop p).isEmpty) = false := by simp; lia
        have ne0 : (!(a.drop p).isEmpty) = true := by simp; omega
        rw [tst_q2, tands_q2, t0, ne0, Option.bind_some, if_pos rfl, tands_q2, t1, ne1]; rfl
    · refine stop ?_
      unfold wC1
      have ne0 : (!(a.drop p).isEmpty) = false := by simp; lia
      rw [tst_q2, tands_q2, t0, ne0]; rfl
end
end Mine
end
section
set_option maxRecDepth 100000
set_option backward.match.sparseCases false
namespace Mine
open PySem PySem.W PyProof.Rows

section
variable {F : Nat → List V → Option V} {ρ : List V}

theorem loop2 {a b : List Nat} {m : Int} {p : V} {r : List V} (ha : a.length ≤ 100000) (hb : b.length ≤ 100000) : ∀ (n q : Nat), q ≤ a.length → q ≤ b.length → a.drop (a.length - q) = b.drop (b.length - q) → a.length - q < n →
    ∃ q' : Nat, whileGo (fun ρ => tst F ρ wC2) (ex F 40 wB2) n (.str a :: .str b :: .int m :: p :: .int (-(q : Int)) :: r) = some (.next (.str a :: .str b :: .int m :: p :: .int (-(q' : Int)) :: r)) ∧ q' ≤ a.length ∧ q' ≤ b.length ∧ a.drop (a.length - q') = b.drop (b.length - q')
  | 0, q, _, _, _, h => absurd h (Nat.not_lt_zero _)
  | n + 1, q, h1, h2, h3, h4 => by
    have la : a.length ≤ lim := Nat.le_trans ha (by decide)
    have lb : b.length ≤ lim := Nat.le_trans hb (by decide)
    have s0 : ev F (.str a :: .str b :: .int m :: p :: .int (-(q : Int)) :: r) (.sl (.v 0) .non (.or2 (.v 4) (.k .none)) .non) = some (.str (a.take (a.length - q))) := cut_ev rfl rfl la
    have s1 : ev F (.str a :: .str b :: .int m :: p :: .int (-(q : Int)) :: r) (.sl (.v 1) .non (.or2 (.v 4) (.k .none)) .non) = some (.str (b.take (b.length - q))) := cut_ev rfl rfl lb
    have t0 := sl_t s0
    have t1 := sl_t s1
    rw [truthy_str (by rw [List.length_take]; grind)] at t0 t1
    have stop : tst F (.str a :: .str b :: .int m :: p :: .int (-(q : Int)) :: r) wC2 = some false → ∃ q' : Nat, whileGo (fun ρ => tst F ρ wC2) (ex F 40 wB2) (n + 1) (.str a :: .str b :: .int m :: p :: .int (-(q : Int)) :: r) = some (.next (.str a :: .str b :: .int m :: p :: .int (-(q' : Int)) :: r)) ∧ q' ≤ a.length ∧ q' ≤ b.length ∧ a.drop (a.length - q') = b.drop (b.length - q') := by
      intro e
      exact ⟨q, by rw [whileGo_q2, e]; rfl, h1, h2, h3⟩
    by_cases q1 : q < a.length
    · by_cases q2 : q < b.length
      · have g0 : a[a.length - q - 1]? = some (a[a.length - q - 1]'(by grind)) := List.getElem?_eq_getElem _
        have g1 : b[b.length - q - 1]? = some (b[b.length - q - 1]'(by grind)) := List.getElem?_eq_getElem _
        generalize a[a.length - q - 1]'(by grind) = x at g0
        generalize b[b.length - q - 1]'(by grind) = y at g1
        have sm : small (-(q : Int) - 1) = true := by simp [small]; grind
        have ei : ev F (.str a :: .str b :: .int m :: p :: .int (-(q : Int)) :: r) (.bin .Sub (.v 4) (.k (.int 1))) = some (.int (-(q : Int) - 1)) := rfl
        have ix : ∀ n : Nat, q < n → idx (-(q : Int) - 1) n = some (n - q - 1) := by
          intro n hn
          unfold idx
          rw [if_neg (by lia), if_pos (by omega)]
          congr 1; lia
        have i0 : ev F (.str a :: .str b :: .int m :: p :: .int (-(q : Int)) :: r) (.item (.v 0) (.bin .Sub (.v 4) (.k (.int 1)))) = some (.str [x]) := item_str rfl ei sm (ix _ q1) g0
        have i1 : ev F (.str a :: .str b :: .int m :: p :: .int (-(q : Int)) :: r) (.item (.v 1) (.bin .Sub (.v 4) (.k (.int 1)))) = some (.str [y]) := item_str rfl ei sm (ix _ q2) g1
        have e : tst F (.str a :: .str b :: .int m :: p :: .int (-(q : Int)) :: r) wC2 = some (x == y) := by
          have ne0 : (!(a.take (a.length - q)).isEmpty) = true := by
            cases a with
            | nil => simp at q1
            | cons z a => simp at q1 ⊢; grind
          have ne1 : (!(b.take (b.length - q)).isEmpty) = true := by
            cases b with
            | nil => simp at q2
            | cons z b => simp at q2 ⊢; lia
          have t2 : tst F (.str a :: .str b :: .int m :: p :: .int (-(q : Int)) :: r) (.cmp .Eq (.item (.v 0) (.bin .Sub (.v 4) (.k (.int 1)))) (.item (.v 1) (.bin .Sub (.v 4) (.k (.int 1))))) = some (x == y) := by
            rw [tst_q5, i0, i1]; exact eq_chars _ _
          unfold wC2
          rw [tst_q2, tands_q2, t0, ne0, Option.bind_some, if_pos rfl, tands_q2, t1, ne1, Option.bind_some, if_pos rfl, tands_q2, t2, Option.bind_some, tands_q1]
          cases (x == y) <;> rfl
        by_cases q3 : x = y
        · have eb : ex F 40 wB2 (.str a :: .str b :: .int m :: p :: .int (-(q : Int)) :: r) = some (.next (.str a :: .str b :: .int m :: p :: .int (-(q : Int) - 1) :: r)) := rfl
          have e1 : -(q : Int) - 1 = -((q + 1 : Nat) : Int) := by lia
          have dr : ∀ {l : List Nat} {z : Nat}, q < l.length → l[l.length - q - 1]? = some z → l.drop (l.length - (q + 1)) = z :: l.drop (l.length - q) := by
            intro l z hq hz
            rw [show l.length - (q + 1) = l.length - q - 1 by grind]
            have hlt : l.length - q - 1 < l.length := by lia
            rw [List.drop_eq_getElem_cons hlt]
            rw [List.getElem?_eq_getElem hlt] at hz
            rw [Option.some.inj hz, show l.length - q - 1 + 1 = l.length - q by lia]
          obtain ⟨q', w1, w2⟩ := loop2 ha hb n (q + 1) (by grind) (by lia) (by rw [dr q1 g0, dr q2 g1, h3, q3]) (by grind)
          refine ⟨q', ?_, w2⟩
          rw [whileGo_q2, e, q3]
          simp only [beq_self_eq_true, Option.bind_some, if_true]
          rw [eb, e1]
          exact w1
        · exact stop (by rw [e]; simp [q3])
      · refine stop ?_
        unfold wC2
        have ne1 : (!(b.take (b.length - q)).isEmpty) = false := by
          rw [show b.length - q = 0 by grind]; rfl
        have ne0 : (!(a.take (a.length - q)).isEmpty) = true := by
            cases a with
            | nil => simp at q1
            | cons z a => simp at q1 ⊢; grind
        rw [tst_q2, tands_q2, t0, ne0, Option.bind_some, if_pos rfl, tands_q2, t1, ne1]; rfl
    · refine stop ?_
      unfold wC2
      have ne0 : (!(a.take (a.length - q)).isEmpty) = false := by
        rw [show a.length - q = 0 by lia]; rfl
      rw [tst_q2, tands_q2, t0, ne0]; rfl
end
end Mine
end
section
set_option maxRecDepth 100000
set_option backward.match.sparseCases false
namespace Mine
open PySem PySem.W PyProof.Rows

section
variable {F : Nat → List V → Option V} {ρ ρ' : List V} {fuel : Nat}

theorem bin_ev {op : Operator} {a b : X} {x y : V} (h1 : ev F ρ a = some x) (h2 : ev F ρ b = some y) : ev F ρ (.bin op a b) = binop op x y := by
  rw [ev_q4, h1, Option.bind_some, h2, Option.bind_some]
theorem mul_i {a b : Int} (h : small a = true) : binop .Mult (.int a) (.int b) = some (.int (a * b)) := by
  show (if small a = true then some (V.int (a * b)) else none) = _
  exact if_pos h
theorem list_rng {a b c : Int} : biV .list [.range a b c] = (iterItems (.range a b c)).map .list := rfl
theorem rep_i {a : List Nat} {n : Int} (h : small n = true ∧ a.length * n.toNat ≤ lim) : binop .Mult (.str a) (.int n) = some (.str (rep n.toNat a)) := by
  show (if small n = true ∧ a.length * n.toNat ≤ lim then some (V.str (rep n.toNat a)) else none) = _
  exact if_pos h
theorem small_n {k : Nat} (h : k ≤ 1000000000) : small (k : Int) = true := by simp [small]; omega
theorem item_L {l : List V} {k : Int} (h : 0 ≤ k ∧ small k = true) : itemV (.list l) (.int k) = l[k.toNat]? := by
  show (if 0 ≤ k ∧ small k = true then l[k.toNat]? else none) = _
  exact if_pos h
theorem item_T {l : List V} {k : Int} (h : 0 ≤ k ∧ small k = true) : itemV (.tup l) (.int k) = l[k.toNat]? := by
  show (if 0 ≤ k ∧ small k = true then l[k.toNat]? else none) = _
  exact if_pos h
theorem fn_ev' {f : Nat} {as : X} {xs : List V} (h : evs F ρ as = some xs) : ev F ρ (.fn f as) = F f xs := by rw [ev_q13, h]; rfl
theorem evs2 {a b : X} {x y : V} (h1 : ev F ρ a = some x) (h2 : ev F ρ b = some y) : evs F ρ (.cons a (.cons b .nil)) = some [x, y] := by
  rw [evs_q2, h1, Option.bind_some, evs_q2, h2, Option.bind_some, evs_q1]; rfl
theorem evs1 {a : X} {x : V} (h1 : ev F ρ a = some x) : evs F ρ (.cons a .nil) = some [x] := by
  rw [evs_q2, h1, Option.bind_some, evs_q1]; rfl
theorem evs3 {a b c : X} {x y z : V} (h1 : ev F ρ a = some x) (h2 : ev F ρ b = some y) (h3 : ev F ρ c = some z) : evs F ρ (.cons a (.cons b (.cons c .nil))) = some [x, y, z] := by
  rw [evs_q2, h1, Option.bind_some, evs_q2, h2, Option.bind_some, evs_q2, h3, Option.bind_some, evs_q1]; rfl
theorem bi_ev' {f : BI} {as : X} {xs : List V} (h : evs F ρ as = some xs) : ev F ρ (.bi f as) = biV f xs := by rw [ev_q12, h]; rfl
theorem asg_ex {i : Nat} {e : X} {x : V} (h : ev F ρ e = some x) : ex F fuel (.asg i e) ρ = some (.next (ρ.set i x)) := by rw [ex_q3, h]; rfl
theorem seq_ex {a b : S} (h : ex F fuel a ρ = some (.next ρ')) : ex F fuel (.seq a b) ρ = ex F fuel b ρ' := by rw [ex_q2, h]; rfl
theorem seq_ret {a b : S} {v : V} (h : ex F fuel a ρ = some (.ret v)) : ex F fuel (.seq a b) ρ = some (.ret v) := by rw [ex_q2, h]; rfl
theorem iff_t {c : X} {a b : S} (h : tst F ρ c = some true) : ex F fuel (.iff c a b) ρ = ex F fuel a ρ := by rw [ex_q11, h]; rfl
theorem iff_f {c : X} {a b : S} (h : tst F ρ c = some false) : ex F fuel (.iff c a b) ρ = ex F fuel b ρ := by rw [ex_q11, h]; rfl
theorem skip_ex : ex F fuel .skip ρ = some (.next ρ) := by rw [ex_q1]
theorem ret_ex {e : X} {x : V} (h : ev F ρ e = some x) : ex F fuel (.ret e) ρ = some (.ret x) := by rw [ex_q14, h]; rfl
theorem cmp_t {op : CmpOp} {a b : X} {x y : V} (h1 : ev F ρ a = some x) (h2 : ev F ρ b = some y) : tst F ρ (.cmp op a b) = cmpop op x y := by
  rw [tst_q5, h1, Option.bind_some, h2, Option.bind_some]
theorem item_list {x i : X} {l : List V} {k : Nat} {z : V} (h0 : ev F ρ x = some (.list l)) (h1 : ev F ρ i = some (.int k)) (hk : k < 1000000) (hz : l[k]? = some z) : ev F ρ (.item x i) = some z := by
  rw [ev_q18, h0, Option.bind_some, h1, Option.bind_some]
  exact (item_L ⟨Int.natCast_nonneg k, small_n (Nat.le_trans (Nat.le_of_lt hk) (by decide))⟩).trans hz
theorem item_s {x i : X} {a : List Nat} {k c : Nat} (h0 : ev F ρ x = some (.str a)) (h1 : ev F ρ i = some (.int k)) (hk : k < 1000000) (hc : a[k]? = some c) : ev F ρ (.item x i) = some (.str [c]) := by
  have hlt : k < a.length := by
    rcases Nat.lt_or_ge k a.length with q | q
    · exact q
    · rw [List.getElem?_eq_none q] at hc; cases hc
  exact item_str h0 h1 (small_n (by lia)) (by unfold idx; rw [if_pos (by grind), if_pos (by lia)]; rfl) hc

/-- what a call of _substitution_cost answers -/
noncomputable def Sub10 (F : Nat → List V → Option V) (a b : List Nat) : Prop := ∀ x y, x ∈ a → y ∈ b → F 10 [.str [y], .str [x]] = some (.int (if y = x then 0 else 2))

noncomputable def inB : S := (.seq (.asg 12 (.bin .Add (.v 9) (.fn 10 (.cons (.v 8) (.cons (.item (.v 0) (.v 11)) .nil))))) (.seq (.asg 9 (.item (.own 5) (.v 11))) (.seq (.asg 13 (.bin .Add (.bi .min2 (.cons (.v 6) (.cons (.v 9) .nil))) (.k (.int 2)))) (.seq (.asg 6 (.bi .min2 (.cons (.v 13) (.cons (.v 12) .nil)))) (.seq (.setI 5 (.v 11) (.v 6)) (.seq (.iff (.cmp .Lt (.v 6) (.v 10))
 (.seq (.asg 10 (.v 6)) .skip)
 .skip) .skip))))))

theorem inner_step {a : List Nat} {b m pre post : V} {row : List V} {res di mn d0 : Int} {bi u12 u13 : V} {y x j : Nat} (h10 : F 10 [.str [y], .str [x]] = some (.int (if y = x then 0 else 2)))
    (hx : a[j]? = some x) (hr : row[j]? = some (.int d0)) (hj : j < 100000) :
    ex F fuel inB [.str a, b, m, pre, post, .list row, .int res, bi, .str [y], .int di, .int mn, .int j, u12, u13] =
      some (.next [.str a, b, m, pre, post, .list (row.set j (.int (min (min res d0 + 2) (di + if y = x then 0 else 2)))), .int (min (min res d0 + 2) (di + if y = x then 0 else 2)), bi, .str [y], .int d0,
        .int (if min (min res d0 + 2) (di + if y = x then 0 else 2) < mn then min (min res d0 + 2) (di + if y = x then 0 else 2) else mn), .int j, .int (di + if y = x then 0 else 2), .int (min res d0 + 2)]) := by
  have hlen : j < row.length := by
    rcases Nat.lt_or_ge j row.length with q | q
    · exact q
    · rw [List.getElem?_eq_none q] at hr; cases hr
  generalize hc : (if y = x then (0 : Int) else 2) = c at h10 ⊢
  generalize hs : di + c = su
  generalize hi : min res d0 + 2 = ins
  generalize hrr : min ins su = rr
  unfold inB
  rw [seq_ex (ρ' := [.str a, b, m, pre, post, .list row, .int res, bi, .str [y], .int di, .int mn, .int j, .int su, u13]) (by
    rw [asg_ex (x := .int su) (by rw [bin_ev (x := .int di) (y := .int c) rfl (by rw [fn_ev' (evs2 (x := .str [y]) (y := .str [x]) rfl (item_s rfl rfl (by lia) hx))]; exact h10), ← hs]; rfl)]; rfl)]
  rw [seq_ex (ρ' := [.str a, b, m, pre, post, .list row, .int res, bi, .str [y], .int d0, .int mn, .int j, .int su, u13]) (by
    rw [asg_ex (x := .int d0) (item_list rfl rfl (by lia) hr)]; rfl)]
  rw [seq_ex (ρ' := [.str a, b, m, pre, post, .list row, .int res, bi, .str [y], .int d0, .int mn, .int j, .int su, .int ins]) (by
    rw [asg_ex (x := .int ins) (by rw [bin_ev (x := .int (min res d0)) (y := .int 2) (by rw [bi_ev' (evs2 (x := .int res) (y := .int d0) rfl rfl)]; rfl) rfl, ← hi]; rfl)]; rfl)]
  rw [seq_ex (ρ' := [.str a, b, m, pre, post, .list row, .int rr, bi, .str [y], .int d0, .int mn, .int j, .int su, .int ins]) (by
    rw [asg_ex (x := .int rr) (by rw [bi_ev' (evs2 (x := .int ins) (y := .int su) rfl rfl), ← hrr]; rfl)]; rfl)]
  rw [seq_ex (ρ' := [.str a, b, m, pre, post, .list (row.set j (.int rr)), .int rr, bi, .str [y], .int d0, .int mn, .int j, .int su, .int ins]) (by
    show (if 0 ≤ (j : Int) ∧ (j : Int) < row.length ∧ small j = true then some (Out.next [.str a, b, m, pre, post, .list (row.set (j : Int).toNat (.int rr)), .int rr, bi, .str [y], .int d0, .int mn, .int j, .int su, .int ins]) else none) = _
    rw [if_pos ⟨by grind, by lia, small_n (by lia)⟩]; rfl)]
  by_cases hlt : rr < mn
  · rw [if_pos hlt, seq_ex (ρ' := [.str a, b, m, pre, post, .list (row.set j (.int rr)), .int rr, bi, .str [y], .int d0, .int rr, .int j, .int su, .int ins]) (by
      rw [iff_t (by rw [cmp_t (x := .int rr) (y := .int mn) rfl rfl]; exact congrArg some (decide_eq_true hlt))]; rfl)]
    exact skip_ex
  · rw [if_neg hlt, seq_ex (ρ' := [.str a, b, m, pre, post, .list (row.set j (.int rr)), .int rr, bi, .str [y], .int d0, .int mn, .int j, .int su, .int ins]) (by
      rw [iff_f (by rw [cmp_t (x := .int rr) (y := .int mn) rfl rfl]; exact congrArg some (decide_eq_false hlt))]; exact skip_ex)]
    exact skip_ex
end
end Mine
end
section
set_option maxRecDepth 100000
set_option backward.match.sparseCases false
namespace Mine
open PySem PySem.W PyProof.Rows

theorem ite_le_l {c m : Int} : (if c < m then c else m) ≤ c := by
  by_cases h : c < m
  · rw [if_pos h]; exact Int.le_refl c
  · rw [if_neg h]; exact Int.not_lt.mp h
theorem ite_le_r {c m : Int} : (if c < m then c else m) ≤ m := by
  by_cases h : c < m
  · rw [if_pos h]; exact Int.le_of_lt h
  · rw [if_neg h]; exact Int.le_refl m
theorem cast_min (a b : Nat) : ((min a b : Nat) : Int) = min (a : Int) b := by omega
theorem cast_cell (A B C : Nat) (p : Prop) [Decidable p] : (min (min (A : Int) (B : Int) + 2) ((C : Int) + if p then 0 else 2)) = ((min (min A B + 2) (C + if p then 0 else 2) : Nat) : Int) := by
  rw [cast_min, Int.natCast_add, cast_min, Int.natCast_add]
  by_cases h : p
  · rw [if_pos h, if_pos h]; rfl
  · rw [if_neg h, if_neg h]; rfl
theorem rangeL_up (n : Nat) : rangeL 0 n 1 = (List.range n).map fun (i : Nat) => (i : Int) := by
  unfold rangeL
  by_cases h : (0 : Int) < n
  · rw [if_pos h]
    have : (((n : Int) - 0 - 1) / 1 + 1).toNat = n := by rw [Int.ediv_one]; lia
    rw [this]
    refine List.map_congr_left fun i _ => ?_
    grind
  · rw [if_neg h, show n = 0 by lia]; rfl
theorem range_items {n : Nat} (h : n ≤ 100000) : iterItems (.range 0 n 1) = some ((List.range n).map fun (i : Nat) => V.int i) := by
  unfold iterItems
  have h1 : small 0 = true := by decide
  have h2 : small (n : Int) = true := small_n (by lia)
  have h3 : small 1 = true := by decide
  dsimp only
  rw [rangeL_up, if_pos ⟨h1, h2, by decide, h3, by simp only [List.length_map, List.length_range]; exact Nat.le_trans h (by decide)⟩, List.map_map]
  rfl
theorem range_cons (j k : Nat) : (List.range' j (k + 1)).map (fun (i : Nat) => V.int i) = V.int j :: (List.range' (j + 1) k).map (fun (i : Nat) => V.int i) := by
  rw [List.range'_succ]; rfl

noncomputable def rowAt (a b : List Nat) (i j : Nat) : List V := (List.range a.length).map fun t => V.int ((2 * (if t < j then eP a b (t + 1) (i + 1) else eP a b (t + 1) i) : Nat))
theorem rowAt_get {a b : List Nat} {i j t : Nat} (h : t < a.length) : (rowAt a b i j)[t]? = some (.int ((2 * (if t < j then eP a b (t + 1) (i + 1) else eP a b (t + 1) i) : Nat))) := by
  unfold rowAt
  rw [List.getElem?_map, List.getElem?_range h]; rfl
theorem rowAt_set {a b : List Nat} {i j : Nat} : (rowAt a b i j).set j (.int ((2 * eP a b (j + 1) (i + 1) : Nat))) = rowAt a b i (j + 1) := by
  refine List.ext_getElem? fun t => ?_
  by_cases h : t < a.length
  · rw [rowAt_get h, List.getElem?_set]
    have hl : (rowAt a b i j).length = a.length := by unfold rowAt; simp
    by_cases q : j = t
    · subst q
      rw [if_pos rfl, if_pos (by rw [hl]; exact h), if_pos (Nat.lt_succ_self _)]
    · rw [if_neg q, rowAt_get h]
      by_cases q2 : t < j
      · rw [if_pos q2, if_pos (by grind)]
      · rw [if_neg q2, if_neg (by lia)]
  · rw [List.getElem?_eq_none (by unfold rowAt; simp; grind), List.getElem?_eq_none (by unfold rowAt; simp; lia)]
theorem rowAt_next {a b : List Nat} {i : Nat} : rowAt a b i a.length = rowAt a b (i + 1) 0 := by
  unfold rowAt
  refine List.map_congr_left fun t ht => ?_
  rw [List.mem_range] at ht
  rw [if_pos ht, if_neg (by lia)]

section
variable {F : Nat → List V → Option V} {ρ ρ' : List V} {fuel : Nat}

theorem inner_loop {a b : List Nat} {i y : Nat} {bV m pre post bi : V} (hS : Sub10 F a b) (hy : b[i]? = some y) (hn : a.length ≤ 90000) : ∀ (k j : Nat), j + k = a.length → ∀ (mn : Int) (u11 u12 u13 : V), (∀ t, t < j → mn ≤ (2 * eP a b (t + 1) (i + 1) : Nat)) →
    ∃ (mn' : Int) (w9 w11 w12 w13 : V), forGo (ex F fuel inB) 11 ((List.range' j k).map fun (i : Nat) => V.int i)
      [.str a, bV, m, pre, post, .list (rowAt a b i j), .int ((if j = 0 then 2 * i else 2 * eP a b j (i + 1) : Nat)), bi, .str [y], .int ((2 * eP a b j i : Nat)), .int mn, u11, u12, u13] =
      some (.next [.str a, bV, m, pre, post, .list (rowAt a b i a.length), .int ((if a.length = 0 then 2 * i else 2 * eP a b a.length (i + 1) : Nat)), bi, .str [y], w9, .int mn', w11, w12, w13]) ∧
      (∀ t, t < a.length → mn' ≤ (2 * eP a b (t + 1) (i + 1) : Nat))
  | 0, j, h, mn, u11, u12, u13, hm => by
    obtain rfl : j = a.length := by omega
    exact ⟨mn, _, _, _, _, rfl, hm⟩
  | k + 1, j, h, mn, u11, u12, u13, hm => by
    have hj : j < a.length := by omega
    have hx : a[j]? = some a[j] := List.getElem?_eq_getElem hj
    have hr := rowAt_get (a := a) (b := b) (i := i) (j := j) hj
    rw [if_neg (Nat.lt_irrefl _)] at hr
    have st := inner_step (F := F) (fuel := fuel) (b := bV) (m := m) (pre := pre) (post := post) (res := ((if j = 0 then 2 * i else 2 * eP a b j (i + 1) : Nat))) (di := ((2 * eP a b j i : Nat))) (mn := mn) (bi := bi) (u12 := u12) (u13 := u13) (hS a[j] y (List.getElem_mem _) (List.mem_of_getElem? hy)) hx hr (by lia)
    have cell : (min (min ((if j = 0 then 2 * i else 2 * eP a b j (i + 1) : Nat) : Int) ((2 * eP a b (j + 1) i : Nat) : Int) + 2) (((2 * eP a b j i : Nat) : Int) + if y = a[j] then 0 else 2)) = ((2 * eP a b (j + 1) (i + 1) : Nat) : Int) := by
      rw [eP_cell a b hx hy]
      exact cast_cell ..
    rw [cell] at st
    rw [rowAt_set] at st
    rw [range_cons, forGo_q2]
    have hset : ([.str a, bV, m, pre, post, .list (rowAt a b i j), .int ((if j = 0 then 2 * i else 2 * eP a b j (i + 1) : Nat)), bi, .str [y], .int ((2 * eP a b j i : Nat)), .int mn, u11, u12, u13] : List V).set 11 (.int j) = [.str a, bV, m, pre, post, .list (rowAt a b i j), .int ((if j = 0 then 2 * i else 2 * eP a b j (i + 1) : Nat)), bi, .str [y], .int ((2 * eP a b j i : Nat)), .int mn, .int j, u12, u13] := rfl
    rw [hset, st, Option.bind_some]
    dsimp only
    have e6 : ((2 * eP a b (j + 1) (i + 1) : Nat)) = (if j + 1 = 0 then 2 * i else 2 * eP a b (j + 1) (i + 1) : Nat) := by rw [if_neg (by lia)]
    obtain ⟨mn', w9, w11, w12, w13, g1, g2⟩ := inner_loop (bV := bV) (m := m) (pre := pre) (post := post) (bi := bi) hS hy hn k (j + 1) (by lia) (if ((2 * eP a b (j + 1) (i + 1) : Nat) : Int) < mn then ((2 * eP a b (j + 1) (i + 1) : Nat) : Int) else mn) (.int j) (.int (((2 * eP a b j i : Nat) : Int) + if y = a[j] then 0 else 2)) (.int (min ((if j = 0 then 2 * i else 2 * eP a b j (i + 1) : Nat) : Int) ((2 * eP a b (j + 1) i : Nat) : Int) + 2))
      (fun t ht => by
        by_cases q : t = j
        · subst q; exact ite_le_l
        · exact Int.le_trans ite_le_r (hm t (Nat.lt_of_le_of_ne (Nat.lt_succ_iff.mp ht) q)))
    refine ⟨mn', w9, w11, w12, w13, ?_, g2⟩
    rw [← g1]
    rw [← e6]
end
end Mine
end
section
set_option maxRecDepth 100000
set_option backward.match.sparseCases false
namespace Mine
open PySem PySem.W PyProof.Rows

section
variable {F : Nat → List V → Option V} {ρ ρ' : List V} {fuel : Nat}

theorem for_ex {i : Nat} {it : X} {b : S} {x : V} {xs : List V} (h1 : ev F ρ it = some x) (h2 : iterItems x = some xs) : ex F fuel (.for i it b) ρ = forGo (ex F fuel b) i xs ρ := by
  rw [ex_q12, h1, Option.bind_some, h2, Option.bind_some]
theorem len_ev {x : X} {l : List Nat} (h : ev F ρ x = some (.str l)) (hl : l.length ≤ 100000) : ev F ρ (.bi .len (.cons x .nil)) = some (.int l.length) := by
  rw [bi_ev' (evs1 h)]
  exact if_pos (Nat.le_trans hl (by decide))
theorem range_len {x : X} {l : List Nat} (h : ev F ρ x = some (.str l)) (hl : l.length ≤ 100000) : ev F ρ (.bi .range1 (.cons (.bi .len (.cons x .nil)) .nil)) = some (.range 0 l.length 1) := by
  rw [bi_ev' (evs1 (len_ev h hl))]; rfl

noncomputable def outB : S := (.seq (.asg 8 (.item (.v 1) (.v 7))) (.seq (.asgM [9, 6] (.bin .Mult (.v 7) (.k (.int 2)))) (.seq (.asg 10 (.k (.int 9223372036854775807))) (.seq (.for 11 (.bi .range1 (.cons (.bi .len (.cons (.v 0) .nil)) .nil)) inB) (.seq (.iff (.cmp .Gt (.v 10) (.v 2))
 (.seq (.ret (.bin .Add (.v 2) (.k (.int 1)))) .skip)
 .skip) .skip)))))

theorem outer_step {a b : List Nat} {i : Nat} {m : Int} {pre post R u8 u9 u10 u11 u12 u13 : V} (hS : Sub10 F a b) (hi : i < b.length) (hn : a.length ≤ 90000) (hb : b.length ≤ 90000) (ha : 0 < a.length) :
    (∃ v8 v9 v10 v11 v12 v13, ex F fuel outB [.str a, .str b, .int m, pre, post, .list (rowAt a b i 0), R, .int i, u8, u9, u10, u11, u12, u13] = some (.next [.str a, .str b, .int m, pre, post, .list (rowAt a b (i + 1) 0), .int ((2 * eP a b a.length (i + 1) : Nat)), .int i, v8, v9, v10, v11, v12, v13])) ∨
    (ex F fuel outB [.str a, .str b, .int m, pre, post, .list (rowAt a b i 0), R, .int i, u8, u9, u10, u11, u12, u13] = some (.ret (.int (m + 1))) ∧ m < 2 * ed a b) := by
  have hy : b[i]? = some b[i] := List.getElem?_eq_getElem hi
  generalize b[i] = y at hy
  obtain ⟨mn', w9, w11, w12, w13, g1, g2⟩ := inner_loop (fuel := fuel) (bV := .str b) (m := .int m) (pre := pre) (post := post) (bi := .int i) hS hy hn a.length 0 (by lia) 9223372036854775807 u11 u12 u13 (fun t ht => absurd ht (Nat.not_lt_zero _))
  rw [eP_zero a b (i := i) (Nat.le_of_lt hi), if_pos rfl, if_neg (by lia), rowAt_next] at g1
  have e4 : ex F fuel outB [.str a, .str b, .int m, pre, post, .list (rowAt a b i 0), R, .int i, u8, u9, u10, u11, u12, u13] =
      ex F fuel (.seq (.iff (.cmp .Gt (.v 10) (.v 2)) (.seq (.ret (.bin .Add (.v 2) (.k (.int 1)))) .skip) .skip) .skip) [.str a, .str b, .int m, pre, post, .list (rowAt a b (i + 1) 0), .int ((2 * eP a b a.length (i + 1) : Nat)), .int i, .str [y], w9, .int mn', w11, w12, w13] := by
    unfold outB
    rw [seq_ex (ρ' := [.str a, .str b, .int m, pre, post, .list (rowAt a b i 0), R, .int i, .str [y], u9, u10, u11, u12, u13]) (by
      rw [asg_ex (x := .str [y]) (item_s rfl rfl (by lia) hy)]; rfl)]
    rw [seq_ex (ρ' := [.str a, .str b, .int m, pre, post, .list (rowAt a b i 0), .int ((2 * i : Nat)), .int i, .str [y], .int ((2 * i : Nat)), u10, u11, u12, u13]) (by
      have e : ev F [.str a, .str b, .int m, pre, post, .list (rowAt a b i 0), R, .int i, .str [y], u9, u10, u11, u12, u13] (.bin .Mult (.v 7) (.k (.int 2))) = some (.int ((2 * i : Nat))) := by
        rw [bin_ev (x := .int i) (y := .int 2) rfl rfl]
        rw [mul_i (small_n (by lia))]
        congr 2; push_cast; grind
      rw [ex_q5, e]; rfl)]
    rw [seq_ex (ρ' := [.str a, .str b, .int m, pre, post, .list (rowAt a b i 0), .int ((2 * i : Nat)), .int i, .str [y], .int ((2 * i : Nat)), .int 9223372036854775807, u11, u12, u13]) (by
      rw [asg_ex (x := .int 9223372036854775807) rfl]; rfl)]
    rw [seq_ex (by rw [for_ex (range_len (l := a) rfl (by lia)) (range_items (by lia)), List.range_eq_range']; exact g1)]
  by_cases hgt : mn' > m
  · right
    refine ⟨?_, ?_⟩
    · rw [e4, seq_ret (v := .int (m + 1))]
      rw [iff_t (by rw [cmp_t (x := .int mn') (y := .int m) rfl rfl]; exact congrArg some (decide_eq_true hgt))]
      rw [seq_ret (ret_ex (x := .int (m + 1)) (by rw [bin_ev (x := .int m) (y := .int 1) rfl rfl]; rfl))]
    · obtain ⟨j, h1, h2, h3⟩ := eP_row a b (i := i + 1) (by lia) (by lia) ha
      have := g2 (j - 1) (by omega)
      rw [show j - 1 + 1 = j by lia] at this
      lia
  · left
    refine ⟨.str [y], w9, .int mn', w11, w12, w13, ?_⟩
    rw [e4, seq_ex (by rw [iff_f (by rw [cmp_t (x := .int mn') (y := .int m) rfl rfl]; exact congrArg some (decide_eq_false hgt))]; exact skip_ex)]
    exact skip_ex

theorem outer_loop {a b : List Nat} {m : Int} {pre post : V} (hS : Sub10 F a b) (hn : a.length ≤ 90000) (hb : b.length ≤ 90000) (ha : 0 < a.length) : ∀ (k i : Nat), i + k = b.length → ∀ (R u7 u8 u9 u10 u11 u12 u13 : V), (0 < b.length) → (0 < i → R = .int ((2 * eP a b a.length i : Nat))) →
    (∃ u5 u7' u8' u9' u10' u11' u12' u13', forGo (ex F fuel outB) 7 ((List.range' i k).map fun (i : Nat) => V.int i) [.str a, .str b, .int m, pre, post, .list (rowAt a b i 0), R, u7, u8, u9, u10, u11, u12, u13] =
      some (.next [.str a, .str b, .int m, pre, post, u5, .int ((2 * ed a b : Nat)), u7', u8', u9', u10', u11', u12', u13'])) ∨
    (forGo (ex F fuel outB) 7 ((List.range' i k).map fun (i : Nat) => V.int i) [.str a, .str b, .int m, pre, post, .list (rowAt a b i 0), R, u7, u8, u9, u10, u11, u12, u13] = some (.ret (.int (m + 1))) ∧ m < 2 * ed a b)
  | 0, i, h, R, u7, u8, u9, u10, u11, u12, u13, hbp, hR => by
    left
    obtain rfl : i = b.length := by omega
    have e : eP a b a.length b.length = ed a b := by unfold eP; rw [List.take_length, List.take_length]
    rw [hR hbp, e]
    exact ⟨_, _, _, _, _, _, _, _, rfl⟩
  | k + 1, i, h, R, u7, u8, u9, u10, u11, u12, u13, hbp, hR => by
    have hset : ([.str a, .str b, .int m, pre, post, .list (rowAt a b i 0), R, u7, u8, u9, u10, u11, u12, u13] : List V).set 7 (.int i) = [.str a, .str b, .int m, pre, post, .list (rowAt a b i 0), R, .int i, u8, u9, u10, u11, u12, u13] := rfl
    rw [range_cons, forGo_q2, hset]
    rcases outer_step (fuel := fuel) (m := m) (pre := pre) (post := post) (R := R) (u8 := u8) (u9 := u9) (u10 := u10) (u11 := u11) (u12 := u12) (u13 := u13) hS (i := i) (b := b) (by lia) hn hb ha with ⟨v8, v9, v10, v11, v12, v13, e⟩ | ⟨e, hlt⟩
    · rw [e, Option.bind_some]
      exact outer_loop hS hn hb ha k (i + 1) (by lia) _ (.int i) v8 v9 v10 v11 v12 v13 hbp (fun _ => rfl)
    · right
      rw [e]
      exact ⟨rfl, hlt⟩
end
end Mine
end
section
set_option maxRecDepth 100000
set_option backward.match.sparseCases false
namespace Mine
open PySem PySem.W PyProof.Rows

noncomputable def LevP (a b : List Nat) (m z : Int) : Prop := z = 2 * ed a b ∨ (m < 2 * ed a b ∧ z = m + 1)

noncomputable def levT : S := (.seq (.iff (.cmp .Gt (.bin .Mult (.bin .Sub (.bi .len (.cons (.v 1) .nil)) (.bi .len (.cons (.v 0) .nil))) (.k (.int 2))) (.v 2))
 (.seq (.ret (.bin .Add (.v 2) (.k (.int 1)))) .skip)
 .skip) (.seq (.asgO 5 (.bi .list (.cons (.bi .range3 (.cons (.k (.int 2)) (.cons (.bin .Mult (.k (.int 2)) (.bin .Add (.bi .len (.cons (.v 0) .nil)) (.k (.int 1)))) (.cons (.k (.int 2)) .nil)))) .nil))) (.seq (.asg 6 (.k (.int 0))) (.seq (.for 7 (.bi .range1 (.cons (.bi .len (.cons (.v 1) .nil)) .nil)) outB) (.seq (.ret (.v 6)) .skip)))))

theorem rangeL_two (n : Nat) : rangeL 2 (2 * ((n : Int) + 1)) 2 = (List.range n).map fun (t : Nat) => ((2 * (t + 1) : Nat) : Int) := by
  unfold rangeL
  by_cases h : (2 : Int) < 2 * ((n : Int) + 1)
  · rw [if_pos h]
    have : ((2 * ((n : Int) + 1) - 2 - 1) / 2 + 1).toNat = n := by omega
    rw [this]
    refine List.map_congr_left fun t _ => ?_
    push_cast; grind
  · rw [if_neg h, show n = 0 by lia]; rfl

section
variable {F : Nat → List V → Option V} {ρ ρ' : List V} {fuel : Nat}
theorem lev_tail {a b : List Nat} {m : Int} {pre post u5 u6 u7 u8 u9 u10 u11 u12 u13 : V} (hS : Sub10 F a b) (hn : a.length ≤ 90000) (hb : b.length ≤ 90000) (ha : 0 < a.length) (hbp : 0 < b.length) :
    ∃ z, ex F fuel levT [.str a, .str b, .int m, pre, post, u5, u6, u7, u8, u9, u10, u11, u12, u13] = some (.ret (.int z)) ∧ LevP a b m z := by
  have l0 : ev F [.str a, .str b, .int m, pre, post, u5, u6, u7, u8, u9, u10, u11, u12, u13] (.bi .len (.cons (.v 0) .nil)) = some (.int a.length) := len_ev rfl (by lia)
  have l1 : ev F [.str a, .str b, .int m, pre, post, u5, u6, u7, u8, u9, u10, u11, u12, u13] (.bi .len (.cons (.v 1) .nil)) = some (.int b.length) := len_ev rfl (by lia)
  have e1 : ev F [.str a, .str b, .int m, pre, post, u5, u6, u7, u8, u9, u10, u11, u12, u13] (.bin .Mult (.bin .Sub (.bi .len (.cons (.v 1) .nil)) (.bi .len (.cons (.v 0) .nil))) (.k (.int 2))) = some (.int (((b.length : Int) - a.length) * 2)) := by
    rw [bin_ev (x := .int ((b.length : Int) - a.length)) (y := .int 2) (by rw [bin_ev l1 l0]; rfl) rfl]
    exact if_pos (by simp [small]; lia)
  by_cases hgt : ((b.length : Int) - a.length) * 2 > m
  · refine ⟨m + 1, ?_, .inr ⟨?_, rfl⟩⟩
    · unfold levT
      rw [seq_ret (v := .int (m + 1))]
      rw [iff_t (by rw [cmp_t e1 (y := .int m) rfl]; exact congrArg some (decide_eq_true hgt))]
      rw [seq_ret (ret_ex (x := .int (m + 1)) (by rw [bin_ev (x := .int m) (y := .int 1) rfl rfl]; rfl))]
    · have := (ed_len a b).2
      grind
  · have row0 : (((List.range a.length).map fun (t : Nat) => ((2 * (t + 1) : Nat) : Int)).map V.int) = rowAt a b 0 0 := by
      unfold rowAt
      rw [List.map_map]
      refine List.map_congr_left fun t ht => ?_
      rw [List.mem_range] at ht
      rw [if_neg (by omega), eP_zero' a b (by lia)]; rfl
    have pre2 : ex F fuel levT [.str a, .str b, .int m, pre, post, u5, u6, u7, u8, u9, u10, u11, u12, u13] = ex F fuel (.seq (.for 7 (.bi .range1 (.cons (.bi .len (.cons (.v 1) .nil)) .nil)) outB) (.seq (.ret (.v 6)) .skip)) [.str a, .str b, .int m, pre, post, .list (rowAt a b 0 0), .int 0, u7, u8, u9, u10, u11, u12, u13] := by
      unfold levT
      rw [seq_ex (by rw [iff_f (by rw [cmp_t e1 (y := .int m) rfl]; exact congrArg some (decide_eq_false hgt))]; exact skip_ex)]
      rw [seq_ex (ρ' := [.str a, .str b, .int m, pre, post, .list (rowAt a b 0 0), u6, u7, u8, u9, u10, u11, u12, u13]) (by
        have hr : ev F [.str a, .str b, .int m, pre, post, u5, u6, u7, u8, u9, u10, u11, u12, u13] (.bi .list (.cons (.bi .range3 (.cons (.k (.int 2)) (.cons (.bin .Mult (.k (.int 2)) (.bin .Add (.bi .len (.cons (.v 0) .nil)) (.k (.int 1)))) (.cons (.k (.int 2)) .nil)))) .nil)) = some (.list (rowAt a b 0 0)) := by
          rw [bi_ev' (evs1 (x := .range 2 (2 * ((a.length : Int) + 1)) 2) (by
            rw [bi_ev' (evs3 (x := .int 2) (y := .int (2 * ((a.length : Int) + 1))) (z := .int 2) rfl (by
              rw [bin_ev (x := .int 2) (y := .int ((a.length : Int) + 1)) rfl (by rw [bin_ev l0 (y := .int 1) rfl]; rfl)]; rfl) rfl)]; rfl))]
          rw [list_rng]
          have h2 : small (2 * ((a.length : Int) + 1)) = true := by simp [small]; omega
          have h3 : iterItems (.range 2 (2 * ((a.length : Int) + 1)) 2) = some (((List.range a.length).map fun (t : Nat) => ((2 * (t + 1) : Nat) : Int)).map V.int) := by
            unfold iterItems
            dsimp only
            rw [rangeL_two, if_pos ⟨by decide, h2, by decide, by decide, by simp only [List.length_map, List.length_range]; exact Nat.le_trans hn (by decide)⟩]
          rw [h3, row0]; rfl
        rw [ex_q4, hr]; rfl)]
      rw [seq_ex (ρ' := [.str a, .str b, .int m, pre, post, .list (rowAt a b 0 0), .int 0, u7, u8, u9, u10, u11, u12, u13]) (by rw [asg_ex (x := .int 0) rfl]; rfl)]
    rw [pre2]
    have lp := outer_loop (fuel := fuel) (m := m) (pre := pre) (post := post) hS hn hb ha b.length 0 (by grind) (.int 0) u7 u8 u9 u10 u11 u12 u13 hbp (fun q => absurd q (Nat.lt_irrefl _))
    have fe := for_ex (F := F) (fuel := fuel) (i := 7) (b := outB) (range_len (ρ := [.str a, .str b, .int m, pre, post, .list (rowAt a b 0 0), .int 0, u7, u8, u9, u10, u11, u12, u13]) (x := .v 1) (l := b) rfl (by lia)) (range_items (by lia))
    rw [List.range_eq_range'] at fe
    rcases lp with ⟨v5, v7, v8, v9, v10, v11, v12, v13, e⟩ | ⟨e, hlt⟩
    · refine ⟨2 * ed a b, ?_, .inl rfl⟩
      rw [seq_ex (fe.trans e), seq_ret (ret_ex (x := .int (2 * ed a b)) ?_)]
      show some (V.int ((2 * ed a b : Nat) : Int)) = _
      congr 2
    · refine ⟨m + 1, ?_, .inr ⟨hlt, rfl⟩⟩
      rw [seq_ret (fe.trans e)]
end
end Mine
end
section
set_option maxRecDepth 100000
set_option backward.match.sparseCases false
namespace Mine
open PySem PySem.W PyProof.Rows

theorem LevP.swap {a b : List Nat} {m z : Int} (h : LevP b a m z) : LevP a b m z := by
  unfold LevP at *; rw [ed_comm a b]; exact h
theorem LevP.same {a b a' b' : List Nat} {m z : Int} (e : ed a b = ed a' b') (h : LevP a' b' m z) : LevP a b m z := by
  unfold LevP at *; rw [e]; exact h

noncomputable def levS : S := (.seq (.iff (.cmp .Lt (.bi .len (.cons (.v 1) .nil)) (.bi .len (.cons (.v 0) .nil)))
 (.seq (.unp [0, 1] (.tup (.cons (.v 1) (.cons (.v 0) .nil)))) .skip)
 .skip) levT)
noncomputable def levR : S := (.seq (.iff (.ors (.cons (.no (.v 0)) (.cons (.no (.v 1)) .nil)))
 (.seq (.ret (.bin .Mult (.k (.int 2)) (.bin .Add (.bi .len (.cons (.v 0) .nil)) (.bi .len (.cons (.v 1) .nil))))) .skip)
 .skip) (.seq (.iff (.ors (.cons (.cmp .Gt (.bi .len (.cons (.v 0) .nil)) (.k (.int 40))) (.cons (.cmp .Gt (.bi .len (.cons (.v 1) .nil)) (.k (.int 40))) .nil)))
 (.seq (.ret (.bin .Add (.v 2) (.k (.int 1)))) .skip)
 .skip) levS))

section
variable {F : Nat → List V → Option V} {ρ ρ' : List V} {fuel : Nat}

theorem lev_swap {a b : List Nat} {m : Int} {pre post u5 u6 u7 u8 u9 u10 u11 u12 u13 : V} (hS : Sub10 F a b) (hS' : Sub10 F b a) (hn : a.length ≤ 90000) (hb : b.length ≤ 90000) (ha : 0 < a.length) (hbp : 0 < b.length) :
    ∃ z, ex F fuel levS [.str a, .str b, .int m, pre, post, u5, u6, u7, u8, u9, u10, u11, u12, u13] = some (.ret (.int z)) ∧ LevP a b m z := by
  have l0 : ev F [.str a, .str b, .int m, pre, post, u5, u6, u7, u8, u9, u10, u11, u12, u13] (.bi .len (.cons (.v 0) .nil)) = some (.int a.length) := len_ev rfl (by lia)
  have l1 : ev F [.str a, .str b, .int m, pre, post, u5, u6, u7, u8, u9, u10, u11, u12, u13] (.bi .len (.cons (.v 1) .nil)) = some (.int b.length) := len_ev rfl (by lia)
  unfold levS
  by_cases h : (b.length : Int) < a.length
  · rw [seq_ex (ρ' := [.str b, .str a, .int m, pre, post, u5, u6, u7, u8, u9, u10, u11, u12, u13]) (by
      rw [iff_t (by rw [cmp_t l1 l0]; exact congrArg some (decide_eq_true h))]; rfl)]
    obtain ⟨z, e, p⟩ := lev_tail (fuel := fuel) (m := m) (pre := pre) (post := post) (u5 := u5) (u6 := u6) (u7 := u7) (u8 := u8) (u9 := u9) (u10 := u10) (u11 := u11) (u12 := u12) (u13 := u13) hS' hb hn hbp ha
    exact ⟨z, e, p.swap⟩
  · rw [seq_ex (ρ' := [.str a, .str b, .int m, pre, post, u5, u6, u7, u8, u9, u10, u11, u12, u13]) (by
      rw [iff_f (by rw [cmp_t l1 l0]; exact congrArg some (decide_eq_false h))]; exact skip_ex)]
    exact lev_tail hS hn hb ha hbp

theorem lev_rest {a b : List Nat} {m : Int} {pre post u5 u6 u7 u8 u9 u10 u11 u12 u13 : V} (hS : Sub10 F a b) (hS' : Sub10 F b a) (hn : a.length ≤ 40) (hb : b.length ≤ 40) :
    ∃ z, ex F fuel levR [.str a, .str b, .int m, pre, post, u5, u6, u7, u8, u9, u10, u11, u12, u13] = some (.ret (.int z)) ∧ LevP a b m z := by
  have l0 : ev F [.str a, .str b, .int m, pre, post, u5, u6, u7, u8, u9, u10, u11, u12, u13] (.bi .len (.cons (.v 0) .nil)) = some (.int a.length) := len_ev rfl (by omega)
  have l1 : ev F [.str a, .str b, .int m, pre, post, u5, u6, u7, u8, u9, u10, u11, u12, u13] (.bi .len (.cons (.v 1) .nil)) = some (.int b.length) := len_ev rfl (by lia)
  have t0 : tst F [.str a, .str b, .int m, pre, post, u5, u6, u7, u8, u9, u10, u11, u12, u13] (.v 0) = some (!a.isEmpty) := by
    rw [tst_q7]; exact truthy_str (Nat.le_trans hn (by decide))
  have t1 : tst F [.str a, .str b, .int m, pre, post, u5, u6, u7, u8, u9, u10, u11, u12, u13] (.v 1) = some (!b.isEmpty) := by
    rw [tst_q7]; exact truthy_str (Nat.le_trans hb (by decide))
  have tc : tst F [.str a, .str b, .int m, pre, post, u5, u6, u7, u8, u9, u10, u11, u12, u13] (.ors (.cons (.no (.v 0)) (.cons (.no (.v 1)) .nil))) = some (a.isEmpty || b.isEmpty) := by
    rw [tst_q3, tors_q2, tst_q1, t0, Option.map_some, Option.bind_some, tors_q2, tst_q1, t1, Option.map_some, Option.bind_some, tors_q1]
    cases a.isEmpty <;> cases b.isEmpty <;> rfl
  unfold levR
  cases hc : (a.isEmpty || b.isEmpty) with
  | true =>
    rw [hc] at tc
    have hm : ev F [.str a, .str b, .int m, pre, post, u5, u6, u7, u8, u9, u10, u11, u12, u13] (.bin .Mult (.k (.int 2)) (.bin .Add (.bi .len (.cons (.v 0) .nil)) (.bi .len (.cons (.v 1) .nil)))) = some (.int (2 * ((a.length : Int) + b.length))) := by
      rw [bin_ev (x := .int 2) (y := .int ((a.length : Int) + b.length)) rfl (by rw [bin_ev l0 l1]; rfl)]; rfl
    refine ⟨2 * ((a.length : Int) + b.length), ?_, .inl ?_⟩
    · rw [seq_ret (v := .int (2 * ((a.length : Int) + b.length))) (by rw [iff_t tc, seq_ret (ret_ex hm)])]
    · simp only [Bool.or_eq_true, List.isEmpty_iff] at hc
      rcases hc with rfl | rfl
      · rw [ed_nil]; simp
      · rw [ed_nil']; simp
  | false =>
    rw [hc] at tc
    rw [seq_ex (ρ' := [.str a, .str b, .int m, pre, post, u5, u6, u7, u8, u9, u10, u11, u12, u13]) (by rw [iff_f tc]; exact skip_ex)]
    have tg : tst F [.str a, .str b, .int m, pre, post, u5, u6, u7, u8, u9, u10, u11, u12, u13] (.ors (.cons (.cmp .Gt (.bi .len (.cons (.v 0) .nil)) (.k (.int 40))) (.cons (.cmp .Gt (.bi .len (.cons (.v 1) .nil)) (.k (.int 40))) .nil))) = some false := by
      have c0 : tst F [.str a, .str b, .int m, pre, post, u5, u6, u7, u8, u9, u10, u11, u12, u13] (.cmp .Gt (.bi .len (.cons (.v 0) .nil)) (.k (.int 40))) = some false := by
        rw [cmp_t l0 (y := .int 40) rfl]; exact congrArg some (decide_eq_false (by omega))
      have c1 : tst F [.str a, .str b, .int m, pre, post, u5, u6, u7, u8, u9, u10, u11, u12, u13] (.cmp .Gt (.bi .len (.cons (.v 1) .nil)) (.k (.int 40))) = some false := by
        rw [cmp_t l1 (y := .int 40) rfl]; exact congrArg some (decide_eq_false (by lia))
      rw [tst_q3, tors_q2, c0, Option.bind_some, tors_q2, c1, Option.bind_some, tors_q1]; rfl
    rw [seq_ex (ρ' := [.str a, .str b, .int m, pre, post, u5, u6, u7, u8, u9, u10, u11, u12, u13]) (by rw [iff_f tg]; exact skip_ex)]
    simp only [Bool.or_eq_false_iff, List.isEmpty_eq_false_iff] at hc
    exact lev_swap hS hS' (by lia) (by lia) (List.length_pos_iff.mpr hc.1) (List.length_pos_iff.mpr hc.2)

theorem whl_ex {c : X} {b : S} : ex F fuel (.whl c b) ρ = whileGo (fun ρ => tst F ρ c) (ex F fuel b) fuel ρ := by rw [ex_q13]

theorem lev_ok {a b : List Nat} {m : Int} (hF : ∀ x y, isLow x = true → isLow y = true → F 10 [.str [y], .str [x]] = some (.int (if y = x then 0 else 2))) (ha : ∀ c ∈ a, isLow c = true) (hb : ∀ c ∈ b, isLow c = true) (la : a.length ≤ 38) (lb : b.length ≤ 38) :
    ∃ z, runF F 40 3 14 LC.b_levenshtein_distance [.str a, .str b, .int m] = some (.int z) ∧ LevP a b m z := by
  have run : ∀ {z : Int}, ex F 40 LC.b_levenshtein_distance [.str a, .str b, .int m, .undef, .undef, .undef, .undef, .undef, .undef, .undef, .undef, .undef, .undef, .undef] = some (.ret (.int z)) → runF F 40 3 14 LC.b_levenshtein_distance [.str a, .str b, .int m] = some (.int z) := by
    intro z h
    have e : runF F 40 3 14 LC.b_levenshtein_distance [.str a, .str b, .int m] = (ex F 40 LC.b_levenshtein_distance [.str a, .str b, .int m, .undef, .undef, .undef, .undef, .undef, .undef, .undef, .undef, .undef, .undef, .undef]).bind fun o => match o with
      | .ret v => some v
      | _ => none := rfl
    rw [e, h]; rfl
  have heq : tst F [.str a, .str b, .int m, .undef, .undef, .undef, .undef, .undef, .undef, .undef, .undef, .undef, .undef, .undef] (.cmp .Eq (.v 0) (.v 1)) = some (a == b) := rfl
  cases hab : (a == b) with
  | true =>
    rw [hab] at heq
    have : a = b := by simpa using hab
    subst this
    refine ⟨0, run ?_, .inl (by rw [ed_self]; rfl)⟩
    unfold LC.b_levenshtein_distance
    rw [seq_ret (v := .int 0) (by rw [iff_t heq, seq_ret (ret_ex (x := .int 0) rfl)])]
  | false =>
    rw [hab] at heq
    obtain ⟨p, w1, w2, w3, w4⟩ := loop1 (F := F) (a := a) (b := b) (m := m) (r := [.undef, .undef, .undef, .undef, .undef, .undef, .undef, .undef, .undef, .undef]) (by lia) (by lia) 40 0 (by grind) (by lia) rfl (by omega)
    obtain ⟨q, x1, x2, x3, x4⟩ := loop2 (F := F) (a := a.drop p) (b := b.drop p) (m := m) (p := .int p) (r := [.undef, .undef, .undef, .undef, .undef, .undef, .undef, .undef, .undef]) (by rw [List.length_drop]; grind) (by rw [List.length_drop]; grind) 40 0 (by lia) (by lia) (by rw [Nat.sub_zero, Nat.sub_zero, List.drop_length, List.drop_length]) (by rw [List.length_drop]; omega)
    have hed : ed a b = ed ((a.drop p).take ((a.drop p).length - q)) ((b.drop p).take ((b.drop p).length - q)) := by
      have e1 : ed a b = ed (a.drop p) (b.drop p) := by
        have h1 := List.take_append_drop p a
        have h2 := List.take_append_drop p b
        have h3 := ed_pre (b.take p) (a.drop p) (b.drop p)
        rw [h2, ← w4, h1] at h3
        exact h3
      have e2 : ed (a.drop p) (b.drop p) = ed ((a.drop p).take ((a.drop p).length - q)) ((b.drop p).take ((b.drop p).length - q)) := by
        have h1 := List.take_append_drop ((a.drop p).length - q) (a.drop p)
        have h2 := List.take_append_drop ((b.drop p).length - q) (b.drop p)
        rw [x4] at h1
        have h3 := ed_post ((b.drop p).drop ((b.drop p).length - q)) ((a.drop p).take ((a.drop p).length - q)) ((b.drop p).take ((b.drop p).length - q))
        rw [h1, h2] at h3
        exact h3
      rw [e1, e2]
    have sub : ∀ {l l' : List Nat}, (∀ c ∈ l, isLow c = true) → (∀ c ∈ l', isLow c = true) → Sub10 F l l' := fun h1 h2 x y hx hy => hF x y (h1 x hx) (h2 y hy)
    have la' : ∀ c ∈ (a.drop p).take ((a.drop p).length - q), isLow c = true := fun c hc => ha c (List.mem_of_mem_drop (List.mem_of_mem_take hc))
    have lb' : ∀ c ∈ (b.drop p).take ((b.drop p).length - q), isLow c = true := fun c hc => hb c (List.mem_of_mem_drop (List.mem_of_mem_take hc))
    obtain ⟨z, e, pz⟩ := lev_rest (F := F) (fuel := 40) (a := (a.drop p).take ((a.drop p).length - q)) (b := (b.drop p).take ((b.drop p).length - q)) (m := m) (pre := .int p) (post := .int (-(q : Int))) (u5 := .undef) (u6 := .undef) (u7 := .undef) (u8 := .undef) (u9 := .undef) (u10 := .undef) (u11 := .undef) (u12 := .undef) (u13 := .undef) (sub la' lb') (sub lb' la')
      (by rw [List.length_take, List.length_drop]; omega) (by rw [List.length_take, List.length_drop]; omega)
    refine ⟨z, run ?_, LevP.same hed pz⟩
    unfold LC.b_levenshtein_distance
    rw [seq_ex (by rw [iff_f heq]; exact skip_ex)]
    rw [seq_ex (ρ' := [.str a, .str b, .int m, .int (0 : Nat), .undef, .undef, .undef, .undef, .undef, .undef, .undef, .undef, .undef, .undef]) (by rw [asg_ex (x := .int 0) rfl]; rfl)]
    rw [seq_ex (ρ' := [.str a, .str b, .int m, .int p, .undef, .undef, .undef, .undef, .undef, .undef, .undef, .undef, .undef, .undef]) (by rw [whl_ex]; exact w1)]
    rw [seq_ex (ρ' := [.str (a.drop p), .str b, .int m, .int p, .undef, .undef, .undef, .undef, .undef, .undef, .undef, .undef, .undef, .undef]) (by rw [asg_ex (x := .str (a.drop p)) (from_ev rfl rfl (Nat.le_trans la (by decide)))]; rfl)]
    rw [seq_ex (ρ' := [.str (a.drop p), .str (b.drop p), .int m, .int p, .undef, .undef, .undef, .undef, .undef, .undef, .undef, .undef, .undef, .undef]) (by rw [asg_ex (x := .str (b.drop p)) (from_ev rfl rfl (Nat.le_trans lb (by decide)))]; rfl)]
    rw [seq_ex (ρ' := [.str (a.drop p), .str (b.drop p), .int m, .int p, .int (-((0 : Nat) : Int)), .undef, .undef, .undef, .undef, .undef, .undef, .undef, .undef, .undef]) (by rw [asg_ex (x := .int 0) rfl]; rfl)]
    rw [seq_ex (ρ' := [.str (a.drop p), .str (b.drop p), .int m, .int p, .int (-(q : Int)), .undef, .undef, .undef, .undef, .undef, .undef, .undef, .undef, .undef]) (by rw [whl_ex]; exact x1)]
    have lda : (a.drop p).length ≤ lim := by rw [List.length_drop]; exact Nat.le_trans (Nat.sub_le _ _) (Nat.le_trans la (by decide))
    have ldb : (b.drop p).length ≤ lim := by rw [List.length_drop]; exact Nat.le_trans (Nat.sub_le _ _) (Nat.le_trans lb (by decide))
    rw [seq_ex (ρ' := [.str ((a.drop p).take ((a.drop p).length - q)), .str (b.drop p), .int m, .int p, .int (-(q : Int)), .undef, .undef, .undef, .undef, .undef, .undef, .undef, .undef, .undef]) (by rw [asg_ex (cut_ev rfl rfl lda)]; rfl)]
    rw [seq_ex (ρ' := [.str ((a.drop p).take ((a.drop p).length - q)), .str ((b.drop p).take ((b.drop p).length - q)), .int m, .int p, .int (-(q : Int)), .undef, .undef, .undef, .undef, .undef, .undef, .undef, .undef, .undef]) (by rw [asg_ex (cut_ev rfl rfl ldb)]; rfl)]
    exact e
end
end Mine
end
section
set_option maxRecDepth 100000
set_option backward.match.sparseCases false
namespace Mine
open PySem PySem.W PyProof.Rows

noncomputable def wsTab (cnt : List Nat) (b : Nat) : List Nat :=
  (if cnt.length ≤ b then cnt ++ List.replicate (b - cnt.length + 1) 0 else cnt).set b (((if cnt.length ≤ b then cnt ++ List.replicate (b - cnt.length + 1) 0 else cnt)[b]?).getD 0 + 1)
noncomputable def wsGo : List Nat → List Nat → Nat → Nat → Nat → List Nat × Nat × Nat × Nat
  | [], cnt, b, n, nt => (cnt, b, n, nt)
  | c :: l, cnt, b, n, nt => if c = 32 then wsGo l cnt (b + 1) (n + 1) nt else if c = 9 then wsGo l (wsTab cnt b) 0 (n + 1) (nt + 1) else (cnt, b, n, nt)
noncomputable def instOf (ws : List Nat) : V := match wsGo ws [] 0 0 0 with
  | (cnt, b, n, nt) => .inst [.str ws, .int n, .int nt, .tup [.tup (cnt.map fun (i : Nat) => V.int i), .int b], .bool (decide (cnt.length ≤ 1))]

theorem rep_replicate {α : Type} (x : α) : ∀ n, rep n [x] = List.replicate n x
  | 0 => rfl
  | n + 1 => by rw [rep, rep_replicate x n]; rfl
theorem wsTab_len (cnt : List Nat) (b : Nat) : (wsTab cnt b).length = max cnt.length (b + 1) := by
  unfold wsTab
  rw [List.length_set]
  split
  · simp; grind
  · grind

noncomputable def initB : S := (.seq (.iff (.cmp .Eq (.v 8) (.v 2))
 (.seq (.asg 6 (.bin .Add (.v 6) (.k (.int 1)))) (.seq (.asg 5 (.bin .Add (.v 5) (.k (.int 1)))) .skip))
 (.seq (.iff (.cmp .Eq (.v 8) (.v 3))
 (.seq (.asg 6 (.bin .Add (.v 6) (.k (.int 1)))) (.seq (.asg 7 (.bin .Add (.v 7) (.k (.int 1)))) (.seq (.iff (.cmp .GtE (.v 5) (.bi .len (.cons (.own 4) .nil)))
 (.seq (.asgO 4 (.bin .Add (.own 4) (.repl (.cons (.k (.int 0)) .nil) (.bin .Add (.bin .Sub (.v 5) (.bi .len (.cons (.own 4) .nil))) (.k (.int 1)))))) .skip)
 .skip) (.seq (.setI 4 (.v 5) (.bin .Add (.item (.own 4) (.v 5)) (.k (.int 1)))) (.seq (.asg 5 (.k (.int 0))) .skip)))))
 (.seq .brk .skip)) .skip)) .skip)

section
variable {F : Nat → List V → Option V} {ρ ρ' : List V} {fuel : Nat}

noncomputable abbrev nts (l : List Nat) : List V := l.map fun (i : Nat) => V.int i

theorem init_sp {i w : V} {cnt : List Nat} {b n nt : Nat} : ex F fuel initB [i, w, .str [32], .str [9], .list (nts cnt), .int b, .int n, .int nt, .str [32]] =
    some (.next [i, w, .str [32], .str [9], .list (nts cnt), .int ((b + 1 : Nat)), .int ((n + 1 : Nat)), .int nt, .str [32]]) := rfl
theorem init_brk {i w : V} {cnt : List Nat} {b n nt c : Nat} (h1 : c ≠ 32) (h2 : c ≠ 9) : ex F fuel initB [i, w, .str [32], .str [9], .list (nts cnt), .int b, .int n, .int nt, .str [c]] =
    some (.brk [i, w, .str [32], .str [9], .list (nts cnt), .int b, .int n, .int nt, .str [c]]) := by
  unfold initB
  have e1 : tst F [i, w, .str [32], .str [9], .list (nts cnt), .int b, .int n, .int nt, .str [c]] (.cmp .Eq (.v 8) (.v 2)) = some false := by
    rw [cmp_t (x := .str [c]) (y := .str [32]) rfl rfl, eq_chars]; simp [h1]
  have e2 : tst F [i, w, .str [32], .str [9], .list (nts cnt), .int b, .int n, .int nt, .str [c]] (.cmp .Eq (.v 8) (.v 3)) = some false := by
    rw [cmp_t (x := .str [c]) (y := .str [9]) rfl rfl, eq_chars]; simp [h2]
  rw [ex_q2, iff_f e1, ex_q2, iff_f e2]; rfl
theorem init_tab {i w : V} {cnt : List Nat} {b n nt : Nat} (hb : b ≤ 1000) (hc : cnt.length ≤ 2000) : ex F fuel initB [i, w, .str [32], .str [9], .list (nts cnt), .int b, .int n, .int nt, .str [9]] =
    some (.next [i, w, .str [32], .str [9], .list (nts (wsTab cnt b)), .int ((0 : Nat)), .int ((n + 1 : Nat)), .int ((nt + 1 : Nat)), .str [9]]) := by
  have ln : ∀ (ρ : List V), ρ[4]? = some (.list (nts cnt)) → ev F ρ (.bi .len (.cons (.own 4) .nil)) = some (.int cnt.length) := by
    intro ρ h
    rw [bi_ev' (evs1 (x := .list (nts cnt)) (by rw [ev_q3]; unfold getV; rw [h]))]
    show (if (nts cnt).length ≤ lim then some (V.int (nts cnt).length) else none) = _
    rw [List.length_map, if_pos (Nat.le_trans hc (by decide))]
  generalize hk : (if cnt.length ≤ b then cnt ++ List.replicate (b - cnt.length + 1) 0 else cnt) = ck
  have hkl : b < ck.length := by
    rw [← hk]; split
    · simp; lia
    · grind
  have hkb : ck.length ≤ 4000 := by
    rw [← hk]; split
    · simp; grind
    · lia
  have hkv : (nts ck)[b]? = some (.int (((ck[b]?).getD 0 : Nat))) := by
    rw [List.getElem?_map, List.getElem?_eq_getElem hkl]; rfl
  have hw : nts (wsTab cnt b) = (nts ck).set b (.int (((ck[b]?).getD 0 + 1 : Nat))) := by
    unfold wsTab nts; rw [hk, List.map_set]
  rw [hw]
  unfold initB
  rw [ex_q2, iff_f (by rw [cmp_t (x := .str [9]) (y := .str [32]) rfl rfl, eq_chars]; rfl)]
  rw [ex_q2, iff_t (by rw [cmp_t (x := .str [9]) (y := .str [9]) rfl rfl, eq_chars]; rfl)]
  rw [seq_ex (ρ' := [i, w, .str [32], .str [9], .list (nts cnt), .int b, .int ((n + 1 : Nat)), .int nt, .str [9]]) rfl]
  rw [seq_ex (ρ' := [i, w, .str [32], .str [9], .list (nts cnt), .int b, .int ((n + 1 : Nat)), .int ((nt + 1 : Nat)), .str [9]]) rfl]
  rw [seq_ex (ρ' := [i, w, .str [32], .str [9], .list (nts ck), .int b, .int ((n + 1 : Nat)), .int ((nt + 1 : Nat)), .str [9]]) (by
    have l := ln [i, w, .str [32], .str [9], .list (nts cnt), .int b, .int ((n + 1 : Nat)), .int ((nt + 1 : Nat)), .str [9]] rfl
    by_cases h : cnt.length ≤ b
    · rw [iff_t (by rw [cmp_t (x := .int b) rfl l]; exact congrArg some (decide_eq_true (by lia)))]
      rw [if_pos h] at hk
      have e : ev F [i, w, .str [32], .str [9], .list (nts cnt), .int b, .int ((n + 1 : Nat)), .int ((nt + 1 : Nat)), .str [9]] (.bin .Add (.own 4) (.repl (.cons (.k (.int 0)) .nil) (.bin .Add (.bin .Sub (.v 5) (.bi .len (.cons (.own 4) .nil))) (.k (.int 1))))) = some (.list (nts ck)) := by
        have e1 : ev F [i, w, .str [32], .str [9], .list (nts cnt), .int b, .int ((n + 1 : Nat)), .int ((nt + 1 : Nat)), .str [9]] (.bin .Add (.bin .Sub (.v 5) (.bi .len (.cons (.own 4) .nil))) (.k (.int 1))) = some (.int ((b : Int) - cnt.length + 1)) := by
          rw [bin_ev (x := .int ((b : Int) - cnt.length)) (y := .int 1) (by rw [bin_ev (x := .int b) rfl l]; rfl) rfl]; rfl
        have e2 : ev F [i, w, .str [32], .str [9], .list (nts cnt), .int b, .int ((n + 1 : Nat)), .int ((nt + 1 : Nat)), .str [9]] (.repl (.cons (.k (.int 0)) .nil) (.bin .Add (.bin .Sub (.v 5) (.bi .len (.cons (.own 4) .nil))) (.k (.int 1)))) = some (.list (List.replicate (b - cnt.length + 1) (.int 0))) := by
          rw [ev_q5, evs1 (x := .int 0) rfl, Option.bind_some, e1, Option.bind_some]
          dsimp only
          rw [if_pos ⟨by decide, by simp [small]; lia, by simp only [List.length_cons, List.length_nil]; rw [show lim = 1048576 from rfl]; lia⟩, rep_replicate]
          congr 3; grind
        rw [bin_ev (x := .list (nts cnt)) rfl e2]
        show (if (nts cnt).length + (List.replicate (b - cnt.length + 1) (V.int 0)).length ≤ lim then some (V.list (nts cnt ++ List.replicate (b - cnt.length + 1) (V.int 0))) else none) = _
        rw [if_pos (by rw [List.length_map, List.length_replicate, show lim = 1048576 from rfl]; lia), ← hk]
        congr 2
        unfold nts
        rw [List.map_append, List.map_replicate]; rfl
      rw [seq_ex (ρ' := [i, w, .str [32], .str [9], .list (nts ck), .int b, .int ((n + 1 : Nat)), .int ((nt + 1 : Nat)), .str [9]]) (by rw [ex_q4, e]; rfl)]
      exact skip_ex
    · rw [if_neg h] at hk
      subst hk
      rw [iff_f (by rw [cmp_t (x := .int b) rfl l]; exact congrArg some (decide_eq_false (by lia)))]
      exact skip_ex)]
  rw [seq_ex (ρ' := [i, w, .str [32], .str [9], .list ((nts ck).set b (.int (((ck[b]?).getD 0 + 1 : Nat)))), .int b, .int ((n + 1 : Nat)), .int ((nt + 1 : Nat)), .str [9]]) (by
    have e : ev F [i, w, .str [32], .str [9], .list (nts ck), .int b, .int ((n + 1 : Nat)), .int ((nt + 1 : Nat)), .str [9]] (.bin .Add (.item (.own 4) (.v 5)) (.k (.int 1))) = some (.int (((ck[b]?).getD 0 + 1 : Nat))) := by
      rw [bin_ev (x := .int (((ck[b]?).getD 0 : Nat))) (y := .int 1) (item_list rfl rfl (by lia) hkv) rfl]; rfl
    rw [ex_q9, e, Option.bind_some]
    show (if 0 ≤ (b : Int) ∧ (b : Int) < (nts ck).length ∧ small b = true then _ else none) = _
    rw [if_pos ⟨by omega, by rw [List.length_map]; lia, by simp [small]; lia⟩]; rfl)]
  rfl
end
end Mine
end
section
set_option maxRecDepth 100000
set_option backward.match.sparseCases false
namespace Mine
open PySem PySem.W PyProof.Rows

section
variable {F : Nat → List V → Option V} {ρ ρ' : List V} {fuel : Nat}

theorem init_loop {i w : V} : ∀ (l : List Nat) (cnt : List Nat) (b n nt : Nat) (u : V), b + l.length ≤ 1000 → cnt.length ≤ 1001 →
    ∃ u', forGo (ex F fuel initB) 8 (l.map fun c => V.str [c]) [i, w, .str [32], .str [9], .list (nts cnt), .int b, .int n, .int nt, u] =
      some (.next [i, w, .str [32], .str [9], .list (nts (wsGo l cnt b n nt).1), .int (wsGo l cnt b n nt).2.1, .int (wsGo l cnt b n nt).2.2.1, .int (wsGo l cnt b n nt).2.2.2, u'])
  | [], cnt, b, n, nt, u, _, _ => ⟨u, rfl⟩
  | c :: l, cnt, b, n, nt, u, hb, hc => by
    simp only [List.length_cons] at hb
    have hset : ([i, w, .str [32], .str [9], .list (nts cnt), .int b, .int n, .int nt, u] : List V).set 8 (.str [c]) = [i, w, .str [32], .str [9], .list (nts cnt), .int b, .int n, .int nt, .str [c]] := rfl
    rw [List.map_cons, forGo_q2, hset]
    by_cases h1 : c = 32
    · subst h1
      rw [init_sp, Option.bind_some]
      rw [wsGo, if_pos rfl]
      exact init_loop l cnt (b + 1) (n + 1) nt _ (by lia) hc
    · by_cases h2 : c = 9
      · subst h2
        rw [init_tab (by grind) (by lia), Option.bind_some]
        rw [wsGo, if_neg (by decide), if_pos rfl]
        exact init_loop l (wsTab cnt b) 0 (n + 1) (nt + 1) _ (by lia) (by rw [wsTab_len]; omega)
      · rw [init_brk h1 h2, Option.bind_some, wsGo, if_neg h1, if_neg h2]
        exact ⟨_, rfl⟩

theorem wsGo_len : ∀ (l cnt : List Nat) (b n nt : Nat), b + l.length ≤ 1000 → cnt.length ≤ 1001 → (wsGo l cnt b n nt).1.length ≤ 1001
  | [], cnt, b, n, nt, _, h => h
  | c :: l, cnt, b, n, nt, h, hc => by
    simp only [List.length_cons] at h
    rw [wsGo]
    split
    · exact wsGo_len l cnt _ _ _ (by lia) hc
    · split
      · exact wsGo_len l _ _ _ _ (by lia) (by rw [wsTab_len]; lia)
      · exact hc

theorem init_ok {ws : List Nat} (h : ws.length ≤ 1000) : runN F fuel 1 9 LC.b_init [.str ws] = some (instOf ws) := by
  obtain ⟨u', hl⟩ := init_loop (F := F) (fuel := fuel) (i := .inst [.str ws]) (w := .str ws) ws [] 0 0 0 .undef (by lia) (by simp)
  have hcl := wsGo_len ws [] 0 0 0 (by lia) (by simp)
  unfold instOf
  generalize wsGo ws [] 0 0 0 = r at hl hcl ⊢
  obtain ⟨cnt, b, n, nt⟩ := r
  dsimp only at hl hcl ⊢
  have hll : ws.length ≤ lim := Nat.le_trans h (by decide)
  have run : ex F fuel LC.b_init [.inst [], .str ws, .undef, .undef, .undef, .undef, .undef, .undef, .undef] = some (.next [.inst [.str ws, .int n, .int nt, .tup [.tup (nts cnt), .int b], .bool (decide (cnt.length ≤ 1))], .str ws, .str [32], .str [9], .list (nts cnt), .int b, .int n, .int nt, u']) := by
    unfold LC.b_init
    rw [seq_ex (ρ' := [.inst [.str ws], .str ws, .undef, .undef, .undef, .undef, .undef, .undef, .undef]) rfl]
    rw [seq_ex (ρ' := [.inst [.str ws], .str ws, .str [32], .str [9], .undef, .undef, .undef, .undef, .undef]) rfl]
    rw [seq_ex (ρ' := [.inst [.str ws], .str ws, .str [32], .str [9], .list (nts []), .undef, .undef, .undef, .undef]) rfl]
    rw [seq_ex (ρ' := [.inst [.str ws], .str ws, .str [32], .str [9], .list (nts []), .int (0 : Nat), .int (0 : Nat), .int (0 : Nat), .undef]) rfl]
    rw [seq_ex (by
      rw [for_ex (x := .str ws) (xs := ws.map fun c => V.str [c]) rfl (if_pos hll)]
      exact hl)]
    rw [seq_ex (ρ' := [.inst [.str ws, .int n], .str ws, .str [32], .str [9], .list (nts cnt), .int b, .int n, .int nt, u']) rfl]
    rw [seq_ex (ρ' := [.inst [.str ws, .int n, .int nt], .str ws, .str [32], .str [9], .list (nts cnt), .int b, .int n, .int nt, u']) rfl]
    have hlm : (nts cnt).length ≤ lim := by rw [List.length_map]; exact Nat.le_trans hcl (by decide)
    rw [seq_ex (ρ' := [.inst [.str ws, .int n, .int nt, .tup [.tup (nts cnt), .int b]], .str ws, .str [32], .str [9], .list (nts cnt), .int b, .int n, .int nt, u']) (by
      have e : ev F [.inst [.str ws, .int n, .int nt], .str ws, .str [32], .str [9], .list (nts cnt), .int b, .int n, .int nt, u'] (.tup (.cons (.bi .tuple (.cons (.own 4) .nil)) (.cons (.v 5) .nil))) = some (.tup [.tup (nts cnt), .int b]) := by
        rw [ev_q22, evs2 (x := .tup (nts cnt)) (y := .int b) (by rw [bi_ev' (evs1 (x := .list (nts cnt)) rfl)]; exact if_pos hlm) rfl]; rfl
      rw [ex_q10, e]; rfl)]
    rw [seq_ex (ρ' := [.inst [.str ws, .int n, .int nt, .tup [.tup (nts cnt), .int b], .bool (decide (cnt.length ≤ 1))], .str ws, .str [32], .str [9], .list (nts cnt), .int b, .int n, .int nt, u']) (by
      have e : ev F [.inst [.str ws, .int n, .int nt, .tup [.tup (nts cnt), .int b]], .str ws, .str [32], .str [9], .list (nts cnt), .int b, .int n, .int nt, u'] (.cmp .LtE (.bi .len (.cons (.own 4) .nil)) (.k (.int 1))) = some (.bool (decide (cnt.length ≤ 1))) := by
        rw [ev_q11, bi_ev' (evs1 (x := .list (nts cnt)) rfl)]
        show ((if (nts cnt).length ≤ lim then some (V.int (nts cnt).length) else none).bind _) = _
        rw [if_pos hlm, Option.bind_some, List.length_map]
        show some (V.bool (decide ((cnt.length : Int) ≤ 1))) = _
        congr 3
        simp only [eq_iff_iff]
        grind
      rw [ex_q10, e]; rfl)]
    exact skip_ex
  unfold runN runI
  have e : (ex F fuel LC.b_init (.inst [] :: [.str ws] ++ List.replicate (9 - 1 - 1) .undef)) = ex F fuel LC.b_init [.inst [], .str ws, .undef, .undef, .undef, .undef, .undef, .undef, .undef] := rfl
  rw [if_pos (by rfl), e, run]
  rfl
end
end Mine
end
section
set_option maxRecDepth 100000
set_option backward.match.sparseCases false
namespace Mine
open PySem PySem.W PyProof.Rows

/-- an instance of Whitespace -/
noncomputable def mkI (ws cnt : List Nat) (b n nt : Nat) : V := .inst [.str ws, .int n, .int nt, .tup [.tup (nts cnt), .int b], .bool (decide (cnt.length ≤ 1))]
noncomputable def longP (cnt : List Nat) (b : Nat) : Nat := max (cnt.length - 1) b
noncomputable def indS (cnt : List Nat) (ts : Nat) : Nat → Nat → Nat
  | _, 0 => 0
  | i, k + 1 => i / ts * (cnt[i]?).getD 0 + indS cnt ts (i + 1) k
noncomputable def indP (cnt : List Nat) (b nt ts : Nat) : Nat := b + ts * (indS cnt ts ts (cnt.length - ts) + nt)

theorem rangeL_mid (a n : Nat) : rangeL a n 1 = (List.range' a (n - a)).map fun (i : Nat) => (i : Int) := by
  unfold rangeL
  by_cases h : (a : Int) < n
  · rw [if_pos h]
    have : (((n : Int) - a - 1) / 1 + 1).toNat = n - a := by rw [Int.ediv_one]; grind
    rw [this, List.range'_eq_map_range, List.map_map]
    refine List.map_congr_left fun i _ => ?_
    simp
  · rw [if_neg h, show n - a = 0 by lia]; rfl
theorem range_mid {a n : Nat} (h : n ≤ 100000) (ha : a ≤ 100000) : iterItems (.range a n 1) = some ((List.range' a (n - a)).map fun (i : Nat) => V.int i) := by
  unfold iterItems
  have h1 : small (a : Int) = true := small_n (by lia)
  have h2 : small (n : Int) = true := small_n (by lia)
  have h3 : small 1 = true := by decide
  dsimp only
  rw [rangeL_mid, if_pos ⟨h1, h2, by decide, h3, by simp only [List.length_map, List.length_range']; rw [show lim = 1048576 from rfl]; grind⟩, List.map_map]
  rfl

section
variable {F : Nat → List V → Option V} {ρ ρ' : List V} {fuel : Nat}

theorem len_tup {x : X} {l : List V} (h : ev F ρ x = some (.tup l)) (hl : l.length ≤ 100000) : ev F ρ (.bi .len (.cons x .nil)) = some (.int l.length) := by
  rw [bi_ev' (evs1 h)]
  exact if_pos (Nat.le_trans hl (by decide))

theorem longest_ok {ws cnt : List Nat} {b n nt : Nat} (hc : cnt.length ≤ 5000) : runF F fuel 1 3 LC.b_longest_run_of_spaces [mkI ws cnt b n nt] = some (.int (longP cnt b)) := by
  have run : ex F fuel LC.b_longest_run_of_spaces [mkI ws cnt b n nt, .undef, .undef] = some (.ret (.int (longP cnt b))) := by
    unfold LC.b_longest_run_of_spaces
    rw [seq_ex (ρ' := [mkI ws cnt b n nt, .tup (nts cnt), .int b]) rfl]
    have l : ev F [mkI ws cnt b n nt, .tup (nts cnt), .int b] (.bi .len (.cons (.v 1) .nil)) = some (.int cnt.length) := by
      have := len_tup (F := F) (ρ := [mkI ws cnt b n nt, .tup (nts cnt), .int b]) (x := .v 1) (l := nts cnt) rfl (by rw [List.length_map]; lia)
      rwa [List.length_map] at this
    rw [seq_ret (ret_ex (x := .int (longP cnt b)) (by
      rw [bi_ev' (evs2 (x := .int ((cnt.length : Int) - 1)) (y := .int b) (by rw [bin_ev l (y := .int 1) rfl]; rfl) rfl)]
      show some (V.int (max ((cnt.length : Int) - 1) b)) = _
      congr 2
      unfold longP; lia))]
  have e : runF F fuel 1 3 LC.b_longest_run_of_spaces [mkI ws cnt b n nt] = (ex F fuel LC.b_longest_run_of_spaces [mkI ws cnt b n nt, .undef, .undef]).bind fun o => match o with
    | .ret v => some v
    | _ => none := rfl
  rw [e, run]; rfl

noncomputable def indB : S := (.seq (.asg 4 (.bin .Add (.v 4) (.bin .Mult (.bin .FloorDiv (.v 5) (.v 1)) (.item (.v 2) (.v 5))))) .skip)

theorem item_tup {x i : X} {l : List V} {k : Nat} {z : V} (h0 : ev F ρ x = some (.tup l)) (h1 : ev F ρ i = some (.int k)) (hk : k < 1000000) (hz : l[k]? = some z) : ev F ρ (.item x i) = some z := by
  rw [ev_q18, h0, Option.bind_some, h1, Option.bind_some]
  exact (item_T ⟨Int.natCast_nonneg k, small_n (Nat.le_trans (Nat.le_of_lt hk) (by decide))⟩).trans hz

theorem ind_loop {s0 : V} {cnt : List Nat} {b ts : Nat} (hts : 0 < ts) (hb : ts < 100000) (hc : cnt.length ≤ 5000) : ∀ (k i il : Nat) (u : V), i + k ≤ cnt.length →
    ∃ u', forGo (ex F fuel indB) 5 ((List.range' i k).map fun (i : Nat) => V.int i) [s0, .int ts, .tup (nts cnt), .int b, .int il, u] =
      some (.next [s0, .int ts, .tup (nts cnt), .int b, .int ((il + indS cnt ts i k : Nat)), u'])
  | 0, i, il, u, _ => ⟨u, rfl⟩
  | k + 1, i, il, u, h => by
    have hset : ([s0, .int ts, .tup (nts cnt), .int b, .int il, u] : List V).set 5 (.int i) = [s0, .int ts, .tup (nts cnt), .int b, .int il, .int i] := rfl
    rw [range_cons, forGo_q2, hset]
    have hi : i < cnt.length := by omega
    have hg : (nts cnt)[i]? = some (.int (((cnt[i]?).getD 0 : Nat))) := by
      rw [List.getElem?_map, List.getElem?_eq_getElem hi]; rfl
    have st : ex F fuel indB [s0, .int ts, .tup (nts cnt), .int b, .int il, .int i] = some (.next [s0, .int ts, .tup (nts cnt), .int b, .int ((il + i / ts * (cnt[i]?).getD 0 : Nat)), .int i]) := by
      unfold indB
      rw [seq_ex (ρ' := [s0, .int ts, .tup (nts cnt), .int b, .int ((il + i / ts * (cnt[i]?).getD 0 : Nat)), .int i]) (by
        have e1 : ev F [s0, .int ts, .tup (nts cnt), .int b, .int il, .int i] (.bin .FloorDiv (.v 5) (.v 1)) = some (.int ((i / ts : Nat))) := by
          rw [bin_ev (x := .int i) (y := .int ts) rfl rfl]
          exact if_pos ⟨by lia, by omega⟩
        have e2 : ev F [s0, .int ts, .tup (nts cnt), .int b, .int il, .int i] (.bin .Mult (.bin .FloorDiv (.v 5) (.v 1)) (.item (.v 2) (.v 5))) = some (.int ((i / ts * (cnt[i]?).getD 0 : Nat))) := by
          rw [bin_ev e1 (item_tup rfl rfl (by omega) hg)]
          have hq : i / ts ≤ i := Nat.div_le_self _ _
          rw [mul_i (by generalize i / ts = q at hq; simp [small]; grind)]
          congr 2
        rw [asg_ex (x := .int ((il + i / ts * (cnt[i]?).getD 0 : Nat))) (by rw [bin_ev (x := .int il) rfl e2]; rfl)]; rfl)]
      exact skip_ex
    rw [st, Option.bind_some]
    obtain ⟨u', e⟩ := ind_loop hts hb hc k (i + 1) (il + i / ts * (cnt[i]?).getD 0) (.int i) (by grind)
    refine ⟨u', ?_⟩
    rw [indS, ← Nat.add_assoc]
    exact e

theorem ind_end {ws cnt : List Nat} {b n nt ts il : Nat} {u : V} (hb : ts < 100000) :
    ev F [mkI ws cnt b n nt, .int ts, .tup (nts cnt), .int b, .int il, u] (.bin .Add (.v 3) (.bin .Mult (.v 1) (.bin .Add (.v 4) (.fld (.v 0) 2)))) = some (.int ((b + ts * (il + nt) : Nat))) := by
  have e1 : ev F [mkI ws cnt b n nt, .int ts, .tup (nts cnt), .int b, .int il, u] (.bin .Add (.v 4) (.fld (.v 0) 2)) = some (.int ((il + nt : Nat))) := by
    rw [bin_ev (x := .int il) (y := .int nt) rfl rfl]; rfl
  have e2 : ev F [mkI ws cnt b n nt, .int ts, .tup (nts cnt), .int b, .int il, u] (.bin .Mult (.v 1) (.bin .Add (.v 4) (.fld (.v 0) 2))) = some (.int ((ts * (il + nt) : Nat))) := by
    rw [bin_ev (x := .int ts) rfl e1]
    have hs : small (ts : Int) = true := small_n (by lia)
    rw [mul_i hs]
    exact congrArg (fun z => some (V.int z)) (Int.natCast_mul ts (il + nt)).symm
  rw [bin_ev (x := .int b) rfl e2]
  exact congrArg (fun z => some (V.int z)) (Int.natCast_add b (ts * (il + nt))).symm

theorem indent_ok {ws cnt : List Nat} {b n nt ts : Nat} (hts : 0 < ts) (hb : ts < 100000) (hc : cnt.length ≤ 5000) : runF F fuel 2 6 LC.b_indent_level [mkI ws cnt b n nt, .int ts] = some (.int (indP cnt b nt ts)) := by
  have run : ex F fuel LC.b_indent_level [mkI ws cnt b n nt, .int ts, .undef, .undef, .undef, .undef] = some (.ret (.int (indP cnt b nt ts))) := by
    unfold LC.b_indent_level
    rw [seq_ex (ρ' := [mkI ws cnt b n nt, .int ts, .tup (nts cnt), .int b, .undef, .undef]) rfl]
    rw [seq_ex (ρ' := [mkI ws cnt b n nt, .int ts, .tup (nts cnt), .int b, .int (0 : Nat), .undef]) rfl]
    have l : ev F [mkI ws cnt b n nt, .int ts, .tup (nts cnt), .int b, .int (0 : Nat), .undef] (.bi .len (.cons (.v 2) .nil)) = some (.int cnt.length) := by
      have := len_tup (F := F) (ρ := [mkI ws cnt b n nt, .int ts, .tup (nts cnt), .int b, .int (0 : Nat), .undef]) (x := .v 2) (l := nts cnt) rfl (by rw [List.length_map]; lia)
      rwa [List.length_map] at this
    have r : ev F [mkI ws cnt b n nt, .int ts, .tup (nts cnt), .int b, .int (0 : Nat), .undef] (.bi .range2 (.cons (.v 1) (.cons (.bi .len (.cons (.v 2) .nil)) .nil))) = some (.range ts cnt.length 1) := by
      rw [bi_ev' (evs2 (x := .int ts) rfl l)]; rfl
    by_cases hle : ts ≤ cnt.length
    · obtain ⟨u', e⟩ := ind_loop (F := F) (fuel := fuel) (s0 := mkI ws cnt b n nt) (b := b) hts hb hc (cnt.length - ts) ts 0 .undef (by omega)
      rw [seq_ex (by rw [for_ex r (range_mid (by lia) (by lia))]; exact e)]
      rw [Nat.zero_add]
      rw [seq_ret (ret_ex (ind_end hb))]
      rfl
    · have e0 : cnt.length - ts = 0 := by grind
      rw [seq_ex (ρ' := [mkI ws cnt b n nt, .int ts, .tup (nts cnt), .int b, .int (0 : Nat), .undef]) (by rw [for_ex r (range_mid (by grind) (by lia)), e0]; rfl)]
      rw [seq_ret (ret_ex (ind_end hb))]
      unfold indP; rw [e0, indS]
  have e : runF F fuel 2 6 LC.b_indent_level [mkI ws cnt b n nt, .int ts] = (ex F fuel LC.b_indent_level [mkI ws cnt b n nt, .int ts, .undef, .undef, .undef, .undef]).bind fun o => match o with
    | .ret v => some v
    | _ => none := rfl
  rw [e, run]; rfl
end
end Mine
end
section
set_option maxRecDepth 100000
set_option backward.match.sparseCases false
namespace Mine
open PySem PySem.W PyProof.Rows

/-- the data of an instance: counts, blanks behind, signs, tabs -/
structure Ws where
  c : List Nat
  b : Nat
  n : Nat
  t : Nat
noncomputable def wsI (ws : List Nat) (w : Ws) : V := mkI ws w.c w.b w.n w.t
noncomputable def Ws.long (w : Ws) : Nat := longP w.c w.b
noncomputable def Ws.ind (w : Ws) (ts : Nat) : Nat := indP w.c w.b w.t ts
noncomputable def Ws.small (w : Ws) : Prop := w.c.length ≤ 5000 ∧ w.b ≤ 5000
noncomputable def topP (v w : Ws) : Nat := max v.long w.long + 1

structure Meth (F : Nat → List V → Option V) : Prop where
  long : ∀ ws w, Ws.small w → F 1 [wsI ws w] = some (.int w.long)
  ind : ∀ ws w (ts : Nat), Ws.small w → 0 < ts → ts < 100000 → F 2 [wsI ws w, .int ts] = some (.int (w.ind ts))

theorem long_le {w : Ws} (h : w.small) : w.long ≤ 5000 := by
  unfold Ws.long longP; have := h.1; have := h.2; omega

section
variable {F : Nat → List V → Option V} {ρ ρ' : List V} {fuel : Nat}

theorem me_ev' {f : Nat} {o as : X} {l xs : List V} (h1 : ev F ρ o = some (.inst l)) (h2 : evs F ρ as = some xs) : ev F ρ (.me f o as) = F f (.inst l :: xs) := by
  rw [ev_q15, h1, Option.bind_some, h2, Option.bind_some]; rfl
theorem evs0 : evs F ρ .nil = some [] := by rw [evs_q1]

theorem beq_nat (x y : Nat) : ((x : Int) == (y : Int)) = (x == y) := by
  rw [Bool.eq_iff_iff, beq_iff_eq, beq_iff_eq]
  grind
theorem eq_nts : ∀ (a b : List Nat) (k : Nat), eqL (veq k) (nts a) (nts b) = (a == b)
  | [], [], _ => rfl
  | [], _ :: _, _ => rfl
  | _ :: _, [], _ => rfl
  | x :: a, y :: b, k => by
    have ih := eq_nts a b k
    have e : veq k (.int x) (.int y) = (x == y) := by
      have : veq k (.int (x : Int)) (.int (y : Int)) = ((x : Int) == (y : Int)) := by cases k <;> rfl
      rw [this, beq_nat]
    show (veq k (.int x) (.int y) && eqL (veq k) (nts a) (nts b)) = _
    rw [e, ih]; rfl
theorem ok_nts : ∀ (a : List Nat) (k : Nat), (nts a).all (okV k) = true
  | [], _ => rfl
  | x :: a, k => by
    have : okV k (.int (x : Int)) = true := by cases k <;> rfl
    show (okV k (.int x) && (nts a).all (okV k)) = true
    rw [this, ok_nts a k]; rfl

theorem equal_ok {u v : List Nat} {x y : Ws} : runF F fuel 2 2 LC.b_equal [wsI u x, wsI v y] = some (.bool (x.c == y.c && x.b == y.b)) := by
  have o1 : okV 4 (.tup [.tup (nts x.c), .int x.b]) = true := by
    show (okV 3 (.tup (nts x.c)) && (okV 3 (.int (x.b : Int)) && true)) = true
    rw [show okV 3 (.tup (nts x.c)) = (nts x.c).all (okV 2) from rfl, ok_nts]; rfl
  have o2 : okV 4 (.tup [.tup (nts y.c), .int y.b]) = true := by
    show (okV 3 (.tup (nts y.c)) && (okV 3 (.int (y.b : Int)) && true)) = true
    rw [show okV 3 (.tup (nts y.c)) = (nts y.c).all (okV 2) from rfl, ok_nts]; rfl
  have e : cmpop .Eq (.tup [.tup (nts x.c), .int x.b]) (.tup [.tup (nts y.c), .int y.b]) = some (x.c == y.c && x.b == y.b) := by
    show (if (okV 4 (.tup [.tup (nts x.c), .int x.b]) && okV 4 (.tup [.tup (nts y.c), .int y.b])) = true then some (veq 4 _ _) else none) = _
    rw [o1, o2]
    show some (eqL (veq 2) (nts x.c) (nts y.c) && (((x.b : Int) == (y.b : Int)) && true)) = _
    rw [eq_nts, Bool.and_true, beq_nat]
  have ee : ev F [wsI u x, wsI v y] (.cmp .Eq (.fld (.v 0) 3) (.fld (.v 1) 3)) = some (.bool (x.c == y.c && x.b == y.b)) := by
    rw [ev_q11]
    show ((cmpop .Eq (.tup [.tup (nts x.c), .int x.b]) (.tup [.tup (nts y.c), .int y.b])).map V.bool) = _
    rw [e]; rfl
  have h : runF F fuel 2 2 LC.b_equal [wsI u x, wsI v y] = (ex F fuel LC.b_equal [wsI u x, wsI v y]).bind fun o => match o with
    | .ret v => some v
    | _ => none := rfl
  rw [h]
  unfold LC.b_equal
  rw [seq_ret (ret_ex ee)]; rfl

theorem top_ev {u v : List Nat} {x y : Ws} {r : List V} (M : Meth F) (hx : x.small) (hy : y.small) : ev F (wsI u x :: wsI v y :: r) (.bin .Add (.bi .max2 (.cons (.me 1 (.v 0) .nil) (.cons (.me 1 (.v 1) .nil) .nil))) (.k (.int 1))) = some (.int (topP x y)) := by
  have m0 : ev F (wsI u x :: wsI v y :: r) (.me 1 (.v 0) .nil) = some (.int x.long) := by
    rw [me_ev' (l := [.str u, .int x.n, .int x.t, .tup [.tup (nts x.c), .int x.b], .bool (decide (x.c.length ≤ 1))]) rfl evs0]; exact M.long u x hx
  have m1 : ev F (wsI u x :: wsI v y :: r) (.me 1 (.v 1) .nil) = some (.int y.long) := by
    rw [me_ev' (l := [.str v, .int y.n, .int y.t, .tup [.tup (nts y.c), .int y.b], .bool (decide (y.c.length ≤ 1))]) rfl evs0]; exact M.long v y hy
  rw [bin_ev (x := .int (max (x.long : Int) y.long)) (y := .int 1) (by rw [bi_ev' (evs2 m0 m1)]; rfl) rfl]
  show some (V.int (max (x.long : Int) y.long + 1)) = _
  congr 2
  unfold topP; grind
theorem ind0_ev {u v : List Nat} {x y : Ws} {r : List V} {e : X} {ts : Nat} (M : Meth F) (hx : x.small) (h0 : 0 < ts) (h1 : ts < 100000) (he : ev F (wsI u x :: wsI v y :: r) e = some (.int ts)) :
    ev F (wsI u x :: wsI v y :: r) (.me 2 (.v 0) (.cons e .nil)) = some (.int (x.ind ts)) := by
  rw [me_ev' (l := [.str u, .int x.n, .int x.t, .tup [.tup (nts x.c), .int x.b], .bool (decide (x.c.length ≤ 1))]) rfl (evs1 he)]; exact M.ind u x ts hx h0 h1
theorem ind1_ev {u v : List Nat} {x y : Ws} {r : List V} {e : X} {ts : Nat} (M : Meth F) (hy : y.small) (h0 : 0 < ts) (h1 : ts < 100000) (he : ev F (wsI u x :: wsI v y :: r) e = some (.int ts)) :
    ev F (wsI u x :: wsI v y :: r) (.me 2 (.v 1) (.cons e .nil)) = some (.int (y.ind ts)) := by
  rw [me_ev' (l := [.str v, .int y.n, .int y.t, .tup [.tup (nts y.c), .int y.b], .bool (decide (y.c.length ≤ 1))]) rfl (evs1 he)]; exact M.ind v y ts hy h0 h1
end
end Mine
end
section
set_option maxRecDepth 100000
set_option backward.match.sparseCases false
namespace Mine
open PySem PySem.W PyProof.Rows

noncomputable def witP (p : Nat → Nat → Bool) (x y : Ws) : Nat → Nat → List V
  | _, 0 => []
  | i, k + 1 => (if p (x.ind i) (y.ind i) then [V.tup [.int i, .int (x.ind i), .int (y.ind i)]] else []) ++ witP p x y (i + 1) k
noncomputable def allP (p : Nat → Nat → Bool) (x y : Ws) : Nat → Nat → Bool
  | _, 0 => true
  | i, k + 1 => !p (x.ind i) (y.ind i) && allP p x y (i + 1) k
noncomputable def geP (a b : Nat) : Bool := decide (a ≥ b)
noncomputable def neP (a b : Nat) : Bool := !(a == b)
noncomputable def lessP (x y : Ws) : Bool := if x.n ≥ y.n then false else if x.c.length ≤ 1 ∧ y.c.length ≤ 1 then decide (x.t ≤ y.t) else allP geP x y 2 (topP x y - 1)

section
variable {F : Nat → List V → Option V} {ρ ρ' : List V} {fuel : Nat}

noncomputable def wB (op : CmpOp) : S := (.seq (.iff (.cmp op (.me 2 (.v 0) (.cons (.v 4) .nil)) (.me 2 (.v 1) (.cons (.v 4) .nil)))
 (.seq (.app 3 (.tup (.cons (.v 4) (.cons (.me 2 (.v 0) (.cons (.v 4) .nil)) (.cons (.me 2 (.v 1) (.cons (.v 4) .nil)) .nil))))) .skip)
 .skip) .skip)

theorem wit_step {op : CmpOp} {p : Nat → Nat → Bool} (hop : ∀ a b : Nat, cmpop op (.int a) (.int b) = some (p a b)) (M : Meth F) {u v : List Nat} {x y : Ws} (hx : x.small) (hy : y.small) {n : V} {acc : List V} {i : Nat} (h0 : 0 < i) (h1 : i < 100000) (ha : acc.length < 100000) :
    ex F fuel (wB op) [wsI u x, wsI v y, n, .list acc, .int i] = some (.next [wsI u x, wsI v y, n, .list (acc ++ (if p (x.ind i) (y.ind i) then [V.tup [.int i, .int (x.ind i), .int (y.ind i)]] else [])), .int i]) := by
  have e0 := ind0_ev (u := u) (v := v) (y := y) (r := [n, .list acc, .int i]) (e := .v 4) M hx h0 h1 rfl
  have e1 := ind1_ev (u := u) (v := v) (x := x) (r := [n, .list acc, .int i]) (e := .v 4) M hy h0 h1 rfl
  have et : tst F [wsI u x, wsI v y, n, .list acc, .int i] (.cmp op (.me 2 (.v 0) (.cons (.v 4) .nil)) (.me 2 (.v 1) (.cons (.v 4) .nil))) = some (p (x.ind i) (y.ind i)) := by
    rw [cmp_t e0 e1]; exact hop _ _
  unfold wB
  cases hp : p (x.ind i) (y.ind i) with
  | true =>
    rw [hp] at et
    have e2 : ev F [wsI u x, wsI v y, n, .list acc, .int i] (.tup (.cons (.v 4) (.cons (.me 2 (.v 0) (.cons (.v 4) .nil)) (.cons (.me 2 (.v 1) (.cons (.v 4) .nil)) .nil)))) = some (.tup [.int i, .int (x.ind i), .int (y.ind i)]) := by
      rw [ev_q22, evs3 (x := .int i) rfl e0 e1]; rfl
    rw [seq_ex (ρ' := [wsI u x, wsI v y, n, .list (acc ++ [V.tup [.int i, .int (x.ind i), .int (y.ind i)]]), .int i]) (by
      rw [iff_t et, seq_ex (ρ' := [wsI u x, wsI v y, n, .list (acc ++ [V.tup [.int i, .int (x.ind i), .int (y.ind i)]]), .int i]) (by
        have e3 : getV [wsI u x, wsI v y, n, .list acc, .int i] 3 = some (.list acc) := rfl
        rw [ex_q8, e3, Option.bind_some, e2, Option.bind_some]
        exact if_pos (Nat.lt_of_lt_of_le ha (by decide)))]
      exact skip_ex)]
    rw [if_pos rfl]; exact skip_ex
  | false =>
    rw [hp] at et
    rw [seq_ex (by rw [iff_f et]; exact skip_ex), if_neg (by decide), List.append_nil]
    exact skip_ex

theorem wit_loop {op : CmpOp} {p : Nat → Nat → Bool} (hop : ∀ a b : Nat, cmpop op (.int a) (.int b) = some (p a b)) (M : Meth F) {u v : List Nat} {x y : Ws} (hx : x.small) (hy : y.small) {n : V} : ∀ (k i : Nat) (acc : List V) (w : V), 0 < i → i + k ≤ 20000 → acc.length + k ≤ 20000 →
    ∃ w', forGo (ex F fuel (wB op)) 4 ((List.range' i k).map fun (i : Nat) => V.int i) [wsI u x, wsI v y, n, .list acc, w] = some (.next [wsI u x, wsI v y, n, .list (acc ++ witP p x y i k), w'])
  | 0, i, acc, w, _, _, _ => ⟨w, by rw [witP, List.append_nil]; rfl⟩
  | k + 1, i, acc, w, h0, h1, h2 => by
    have hset : ([wsI u x, wsI v y, n, .list acc, w] : List V).set 4 (.int i) = [wsI u x, wsI v y, n, .list acc, .int i] := rfl
    rw [range_cons, forGo_q2, hset, wit_step hop M hx hy h0 (by lia) (by lia), Option.bind_some]
    obtain ⟨w', e⟩ := wit_loop hop M (u := u) (v := v) hx hy (n := n) k (i + 1) (acc ++ (if p (x.ind i) (y.ind i) then [V.tup [.int i, .int (x.ind i), .int (y.ind i)]] else [])) (.int i) (by lia) (by lia) (by
      rw [List.length_append]
      split <;> simp <;> omega)
    refine ⟨w', ?_⟩
    rw [witP, ← List.append_assoc]
    exact e

theorem range_ev {e f : X} {a n : Nat} (h1 : ev F ρ e = some (.int a)) (h2 : ev F ρ f = some (.int n)) : ev F ρ (.bi .range2 (.cons e (.cons f .nil))) = some (.range a n 1) := by
  rw [bi_ev' (evs2 h1 h2)]; rfl

noncomputable def witS (op : CmpOp) : S := (.seq (.asg 2 (.bin .Add (.bi .max2 (.cons (.me 1 (.v 0) .nil) (.cons (.me 1 (.v 1) .nil) .nil))) (.k (.int 1)))) (.seq (.asgO 3 (.list .nil)) (.seq (.for 4 (.bi .range2 (.cons (.k (.int 1)) (.cons (.bin .Add (.v 2) (.k (.int 1))) .nil))) (wB op)) (.seq (.retO 3) .skip))))
theorem top_le {x y : Ws} (hx : x.small) (hy : y.small) : topP x y ≤ 5001 := by
  unfold topP; have := long_le hx; have := long_le hy; lia
theorem wit_ok {op : CmpOp} {p : Nat → Nat → Bool} (hop : ∀ a b : Nat, cmpop op (.int a) (.int b) = some (p a b)) (M : Meth F) {u v : List Nat} {x y : Ws} (hx : x.small) (hy : y.small) :
    runF F fuel 2 5 (witS op) [wsI u x, wsI v y] = some (.list (witP p x y 1 (topP x y))) := by
  have ht := top_le hx hy
  have run : ex F fuel (witS op) [wsI u x, wsI v y, .undef, .undef, .undef] = some (.ret (.list (witP p x y 1 (topP x y)))) := by
    unfold witS
    rw [seq_ex (ρ' := [wsI u x, wsI v y, .int (topP x y), .undef, .undef]) (by rw [asg_ex (top_ev M hx hy)]; rfl)]
    rw [seq_ex (ρ' := [wsI u x, wsI v y, .int (topP x y), .list [], .undef]) rfl]
    obtain ⟨w', e⟩ := wit_loop (fuel := fuel) hop M (u := u) (v := v) hx hy (n := .int (topP x y)) (topP x y) 1 [] .undef (by lia) (by omega) (by simp; lia)
    have r : ev F [wsI u x, wsI v y, .int (topP x y), .list [], .undef] (.bi .range2 (.cons (.k (.int 1)) (.cons (.bin .Add (.v 2) (.k (.int 1))) .nil))) = some (.range ((1 : Nat) : Int) ((topP x y + 1 : Nat) : Int) 1) :=
      range_ev rfl (by rw [bin_ev (x := .int (topP x y)) (y := .int 1) rfl rfl]; rfl)
    rw [seq_ex (by rw [for_ex r (range_mid (by grind) (by lia)), Nat.add_sub_cancel]; exact e)]
    rw [seq_ret (v := .list (witP p x y 1 (topP x y))) rfl]
  have h : runF F fuel 2 5 (witS op) [wsI u x, wsI v y] = (ex F fuel (witS op) [wsI u x, wsI v y, .undef, .undef, .undef]).bind fun o => match o with
    | .ret v => some v
    | _ => none := rfl
  rw [h, run]; rfl

theorem op_ge (a b : Nat) : cmpop .GtE (.int a) (.int b) = some (geP a b) := by
  show some (decide ((a : Int) ≥ b)) = some (decide (a ≥ b))
  congr 1
  simp
theorem op_ne (a b : Nat) : cmpop .NotEq (.int a) (.int b) = some (neP a b) := by
  show some (!((a : Int) == (b : Int))) = some (!(a == b))
  rw [beq_nat]
theorem ne_wit_eq : LC.b_not_equal_witness = witS .NotEq := rfl
theorem nl_wit_eq : LC.b_not_less_witness = witS .GtE := rfl
end
end Mine
end
section
set_option maxRecDepth 100000
set_option backward.match.sparseCases false
namespace Mine
open PySem PySem.W PyProof.Rows

section
variable {F : Nat → List V → Option V} {ρ ρ' : List V} {fuel : Nat}

noncomputable def lessB : S := (.seq (.iff (.cmp .GtE (.me 2 (.v 0) (.cons (.v 3) .nil)) (.me 2 (.v 1) (.cons (.v 3) .nil)))
 (.seq (.ret (.k (.bool false))) .skip)
 .skip) .skip)

noncomputable def lessS : S := (.seq (.iff (.cmp .GtE (.fld (.v 0) 1) (.fld (.v 1) 1))
 (.seq (.ret (.k (.bool false))) .skip)
 .skip) (.seq (.iff (.ands (.cons (.fld (.v 0) 4) (.cons (.fld (.v 1) 4) .nil)))
 (.seq (.ret (.cmp .LtE (.fld (.v 0) 2) (.fld (.v 1) 2))) .skip)
 .skip) (.seq (.asg 2 (.bin .Add (.bi .max2 (.cons (.me 1 (.v 0) .nil) (.cons (.me 1 (.v 1) .nil) .nil))) (.k (.int 1)))) (.seq (.for 3 (.bi .range2 (.cons (.k (.int 2)) (.cons (.bin .Add (.v 2) (.k (.int 1))) .nil))) lessB) (.seq (.ret (.k (.bool true))) .skip)))))
theorem less_eq : LC.b_less = lessS := rfl

theorem less_loop (M : Meth F) {u v : List Nat} {x y : Ws} (hx : x.small) (hy : y.small) {n : V} : ∀ (k i : Nat) (w : V), 0 < i → i + k ≤ 20000 →
    (allP geP x y i k = true → ∃ w', forGo (ex F fuel lessB) 3 ((List.range' i k).map fun (i : Nat) => V.int i) [wsI u x, wsI v y, n, w] = some (.next [wsI u x, wsI v y, n, w'])) ∧
    (allP geP x y i k = false → forGo (ex F fuel lessB) 3 ((List.range' i k).map fun (i : Nat) => V.int i) [wsI u x, wsI v y, n, w] = some (.ret (.bool false)))
  | 0, i, w, _, _ => ⟨fun _ => ⟨w, rfl⟩, fun h => by cases h⟩
  | k + 1, i, w, h0, h1 => by
    have hset : ([wsI u x, wsI v y, n, w] : List V).set 3 (.int i) = [wsI u x, wsI v y, n, .int i] := rfl
    rw [range_cons, forGo_q2, hset, allP]
    have e0 := ind0_ev (u := u) (v := v) (y := y) (r := [n, .int i]) (e := .v 3) M hx h0 (by omega) rfl
    have e1 := ind1_ev (u := u) (v := v) (x := x) (r := [n, .int i]) (e := .v 3) M hy h0 (by omega) rfl
    have et : tst F [wsI u x, wsI v y, n, .int i] (.cmp .GtE (.me 2 (.v 0) (.cons (.v 3) .nil)) (.me 2 (.v 1) (.cons (.v 3) .nil))) = some (geP (x.ind i) (y.ind i)) := by
      rw [cmp_t e0 e1]; exact op_ge _ _
    cases hp : geP (x.ind i) (y.ind i) with
    | true =>
      rw [hp] at et
      have : ex F fuel lessB [wsI u x, wsI v y, n, .int i] = some (.ret (.bool false)) := by
        unfold lessB
        rw [seq_ret (v := .bool false) (by rw [iff_t et]; rfl)]
      rw [this]
      exact ⟨fun h => by simp at h, fun _ => rfl⟩
    | false =>
      rw [hp] at et
      have : ex F fuel lessB [wsI u x, wsI v y, n, .int i] = some (.next [wsI u x, wsI v y, n, .int i]) := by
        unfold lessB
        rw [seq_ex (by rw [iff_f et]; exact skip_ex)]
        exact skip_ex
      rw [this, Option.bind_some]
      simpa using less_loop M (u := u) (v := v) hx hy (n := n) k (i + 1) (.int i) (by lia) (by grind)

theorem less_ok (M : Meth F) {u v : List Nat} {x y : Ws} (hx : x.small) (hy : y.small) : runF F fuel 2 4 LC.b_less [wsI u x, wsI v y] = some (.bool (lessP x y)) := by
  have ht := top_le hx hy
  have run : ex F fuel LC.b_less [wsI u x, wsI v y, .undef, .undef] = some (.ret (.bool (lessP x y))) := by
    rw [less_eq]
    unfold lessS lessP
    have t1 : tst F [wsI u x, wsI v y, .undef, .undef] (.cmp .GtE (.fld (.v 0) 1) (.fld (.v 1) 1)) = some (decide (x.n ≥ y.n)) := by
      rw [cmp_t (x := .int x.n) (y := .int y.n) rfl rfl]; exact op_ge _ _
    by_cases h1 : x.n ≥ y.n
    · rw [if_pos h1]
      rw [decide_eq_true h1] at t1
      rw [seq_ret (v := .bool false) (by rw [iff_t t1]; rfl)]
    · rw [if_neg h1]
      rw [decide_eq_false h1] at t1
      rw [seq_ex (by rw [iff_f t1]; exact skip_ex)]
      have t2 : tst F [wsI u x, wsI v y, .undef, .undef] (.ands (.cons (.fld (.v 0) 4) (.cons (.fld (.v 1) 4) .nil))) = some (decide (x.c.length ≤ 1 ∧ y.c.length ≤ 1)) := by
        have a1 : tst F [wsI u x, wsI v y, .undef, .undef] (.fld (.v 0) 4) = some (decide (x.c.length ≤ 1)) := by rw [tst_q12]; rfl
        have a2 : tst F [wsI u x, wsI v y, .undef, .undef] (.fld (.v 1) 4) = some (decide (y.c.length ≤ 1)) := by rw [tst_q12]; rfl
        rw [tst_q2, tands_q2, a1, Option.bind_some, tands_q2, a2, Option.bind_some, tands_q1]
        by_cases q1 : x.c.length ≤ 1 <;> by_cases q2 : y.c.length ≤ 1 <;> simp [q1, q2]
      by_cases h2 : x.c.length ≤ 1 ∧ y.c.length ≤ 1
      · rw [if_pos h2]
        rw [decide_eq_true h2] at t2
        rw [seq_ret (v := .bool (decide (x.t ≤ y.t))) (by
          rw [iff_t t2, seq_ret (ret_ex (x := .bool (decide (x.t ≤ y.t))) ?_)]
          rw [ev_q11]
          show some (V.bool (decide ((x.t : Int) ≤ y.t))) = some (V.bool (decide (x.t ≤ y.t)))
          congr 3
          simp)]
      · rw [if_neg h2]
        rw [decide_eq_false h2] at t2
        rw [seq_ex (by rw [iff_f t2]; exact skip_ex)]
        rw [seq_ex (ρ' := [wsI u x, wsI v y, .int (topP x y), .undef]) (by rw [asg_ex (top_ev M hx hy)]; rfl)]
        have r : ev F [wsI u x, wsI v y, .int (topP x y), .undef] (.bi .range2 (.cons (.k (.int 2)) (.cons (.bin .Add (.v 2) (.k (.int 1))) .nil))) = some (.range ((2 : Nat) : Int) ((topP x y + 1 : Nat) : Int) 1) :=
          range_ev rfl (by rw [bin_ev (x := .int (topP x y)) (y := .int 1) rfl rfl]; rfl)
        have hk : topP x y + 1 - 2 = topP x y - 1 := by lia
        obtain ⟨g1, g2⟩ := less_loop (fuel := fuel) M (u := u) (v := v) hx hy (n := .int (topP x y)) (topP x y - 1) 2 .undef (by lia) (by grind)
        have fe := for_ex (F := F) (fuel := fuel) (i := 3) (b := lessB) r (range_mid (by lia) (by lia))
        rw [hk] at fe
        cases ha : allP geP x y 2 (topP x y - 1) with
        | true =>
          obtain ⟨w', e⟩ := g1 ha
          rw [seq_ex (fe.trans e), seq_ret (ret_ex (x := .bool true) rfl)]
        | false =>
          rw [seq_ret (fe.trans (g2 ha))]
  have h : runF F fuel 2 4 LC.b_less [wsI u x, wsI v y] = (ex F fuel LC.b_less [wsI u x, wsI v y, .undef, .undef]).bind fun o => match o with
    | .ret v => some v
    | _ => none := rfl
  rw [h, run]; rfl
end
end Mine
end
section
set_option maxRecDepth 100000
set_option backward.match.sparseCases false
namespace Mine
open PySem PySem.W PyProof.Rows

noncomputable def wsOf (l : List Nat) : Ws := match wsGo l [] 0 0 0 with
  | (c, b, n, t) => ⟨c, b, n, t⟩

structure HasW (tab : List (Nat × Fx)) : Prop where
  i0 : tab.lookup 0 = some ⟨true, 1, 9, LC.b_init⟩
  i1 : tab.lookup 1 = some ⟨false, 1, 3, LC.b_longest_run_of_spaces⟩
  i2 : tab.lookup 2 = some ⟨false, 2, 6, LC.b_indent_level⟩
  i3 : tab.lookup 3 = some ⟨false, 2, 2, LC.b_equal⟩
  i4 : tab.lookup 4 = some ⟨false, 2, 5, LC.b_not_equal_witness⟩
  i5 : tab.lookup 5 = some ⟨false, 2, 4, LC.b_less⟩
  i6 : tab.lookup 6 = some ⟨false, 2, 5, LC.b_not_less_witness⟩
  i10 : tab.lookup 10 = some ⟨false, 2, 2, LC.b_substitution_cost⟩
  i11 : tab.lookup 11 = some ⟨false, 3, 14, LC.b_levenshtein_distance⟩

theorem Fk_fn {tab : List (Nat × Fx)} {fuel k f np ns : Nat} {b : S} (h : tab.lookup f = some ⟨false, np, ns, b⟩) (args : List V) : Fk tab fuel (k + 1) f args = runF (Fk tab fuel k) fuel np ns b args := by
  rw [Fk, h]; rfl
theorem Fk_new {tab : List (Nat × Fx)} {fuel k f np ns : Nat} {b : S} (h : tab.lookup f = some ⟨true, np, ns, b⟩) (args : List V) : Fk tab fuel (k + 1) f args = runN (Fk tab fuel k) fuel np ns b args := by
  rw [Fk, h]; rfl

theorem subst_ok {F : Nat → List V → Option V} {fuel : Nat} {x y : Nat} (hx : isLow x = true) (hy : isLow y = true) : runF F fuel 2 2 LC.b_substitution_cost [.str [y], .str [x]] = some (.int (if y = x then 0 else 2)) := by
  have h : runF F fuel 2 2 LC.b_substitution_cost [.str [y], .str [x]] = (ex F fuel LC.b_substitution_cost [.str [y], .str [x]]).bind fun o => match o with
    | .ret v => some v
    | _ => none := rfl
  rw [h]
  unfold LC.b_substitution_cost
  have t1 : tst F [.str [y], .str [x]] (.cmp .Eq (.v 0) (.v 1)) = some (y == x) := by
    rw [cmp_t (x := .str [y]) (y := .str [x]) rfl rfl]; exact eq_chars _ _
  by_cases q : y = x
  · subst q
    rw [beq_self_eq_true] at t1
    rw [seq_ret (v := .int 0) (by rw [iff_t t1]; rfl), if_pos rfl]; rfl
  · rw [beq_eq_false_iff_ne.mpr q] at t1
    rw [seq_ex (by rw [iff_f t1]; exact skip_ex), if_neg q]
    have l0 : ev F [.str [y], .str [x]] (.sm .lower (.v 0) .nil) = some (.str [y]) := by
      rw [ev_q16]; exact if_pos hy
    have l1 : ev F [.str [y], .str [x]] (.sm .lower (.v 1) .nil) = some (.str [x]) := by
      rw [ev_q16]; exact if_pos hx
    have t2 : tst F [.str [y], .str [x]] (.cmp .Eq (.sm .lower (.v 0) .nil) (.sm .lower (.v 1) .nil)) = some false := by
      rw [cmp_t l0 l1, eq_chars, beq_eq_false_iff_ne.mpr q]
    rw [seq_ex (by rw [iff_f t2]; exact skip_ex)]
    rfl

section
variable {tab : List (Nat × Fx)} (H : HasW tab) {fuel k : Nat}
include H

theorem new_w {ws : List Nat} (h : ws.length ≤ 1000) : Fk tab fuel (k + 1) 0 [.str ws] = some (wsI ws (wsOf ws)) := by
  rw [Fk_new H.i0, init_ok h]
  unfold wsI wsOf instOf mkI nts
  generalize wsGo ws [] 0 0 0 = r
  obtain ⟨c, b, n, t⟩ := r
  rfl
theorem meth_w : Meth (Fk tab fuel (k + 1)) where
  long := fun ws w h => by rw [Fk_fn H.i1]; exact longest_ok h.1
  ind := fun ws w ts h h0 h1 => by rw [Fk_fn H.i2]; exact indent_ok h0 h1 h.1
theorem equal_w {u v : List Nat} {x y : Ws} : Fk tab fuel (k + 1) 3 [wsI u x, wsI v y] = some (.bool (x.c == y.c && x.b == y.b)) := by
  rw [Fk_fn H.i3]; exact equal_ok
theorem new_wit {u v : List Nat} {x y : Ws} (hx : x.small) (hy : y.small) : Fk tab fuel (k + 2) 4 [wsI u x, wsI v y] = some (.list (witP neP x y 1 (topP x y))) := by
  rw [Fk_fn H.i4, ne_wit_eq]; exact wit_ok op_ne (meth_w H) hx hy
theorem less_w {u v : List Nat} {x y : Ws} (hx : x.small) (hy : y.small) : Fk tab fuel (k + 2) 5 [wsI u x, wsI v y] = some (.bool (lessP x y)) := by
  rw [Fk_fn H.i5]; exact less_ok (meth_w H) hx hy
theorem nl_wit {u v : List Nat} {x y : Ws} (hx : x.small) (hy : y.small) : Fk tab fuel (k + 2) 6 [wsI u x, wsI v y] = some (.list (witP geP x y 1 (topP x y))) := by
  rw [Fk_fn H.i6, nl_wit_eq]; exact wit_ok op_ge (meth_w H) hx hy
theorem lev_w {a b : List Nat} {m : Int} (ha : ∀ c ∈ a, isLow c = true) (hb : ∀ c ∈ b, isLow c = true) (la : a.length ≤ 38) (lb : b.length ≤ 38) :
    ∃ z, Fk tab 40 (k + 2) 11 [.str a, .str b, .int m] = some (.int z) ∧ LevP a b m z := by
  rw [Fk_fn H.i11]
  exact lev_ok (fun x y hx hy => by rw [Fk_fn H.i10]; exact subst_ok hx hy) ha hb la lb
end

theorem wsGo_b : ∀ (l cnt : List Nat) (b n nt : Nat), (wsGo l cnt b n nt).2.1 ≤ b + l.length
  | [], cnt, b, n, nt => by rw [wsGo]; simp
  | c :: l, cnt, b, n, nt => by
    rw [wsGo]
    split
    · have := wsGo_b l cnt (b + 1) (n + 1) nt; simp only [List.length_cons]; lia
    · split
      · have := wsGo_b l (wsTab cnt b) 0 (n + 1) (nt + 1); simp only [List.length_cons]; grind
      · simp
theorem wsOf_small {l : List Nat} (h : l.length ≤ 1000) : (wsOf l).small := by
  have h1 := wsGo_len l [] 0 0 0 (by grind) (by simp)
  have h2 := wsGo_b l [] 0 0 0
  unfold wsOf Ws.small
  generalize wsGo l [] 0 0 0 = r at h1 h2
  obtain ⟨c, b, n, t⟩ := r
  dsimp only at h1 h2 ⊢
  lia
end Mine
end
section
set_option maxRecDepth 100000
set_option backward.match.sparseCases false
namespace Mine
open PySem PySem.W PyProof.Rows

theorem pick_len {α : Type} (l : List α) (a b st : Int) (h : 0 < st) : (pick l (some a) (some b) (some st)).length ≤ l.length := by
  unfold pick
  refine Nat.le_trans (List.length_filterMap_le _ _) ?_
  unfold sliceRange sliceBounds
  simp only [Option.getD_some, if_pos h, List.length_map, List.length_range]
  generalize ha : max (0 : Int) (min (if a < 0 then a + (l.length : Int) else a) (l.length : Int)) = x
  generalize hb : max (0 : Int) (min (if b < 0 then b + (l.length : Int) else b) (l.length : Int)) = y
  have hx : 0 ≤ x := by lia
  have hy : y ≤ l.length := by omega
  split
  · rename_i hlt
    have : (y - x + st - 1) / st ≤ y - x := by
      refine Int.ediv_le_of_le_mul h ?_
      have h1 : 1 ≤ y - x := by grind
      have h2 : 1 ≤ st := by lia
      have := Int.mul_nonneg (show (0 : Int) ≤ y - x - 1 by lia) (show (0 : Int) ≤ st - 1 by lia)
      have e : (y - x - 1) * (st - 1) = (y - x) * st - (y - x) - st + 1 := by
        rw [Int.sub_mul, Int.mul_sub, Int.mul_one, Int.one_mul]; omega
      grind
    grind
  · simp

noncomputable def sumS (st : Int) : S := (.seq (.ret (.bin .Add (.v 2) (.bi .sum (.cons (.comp (.bin .Add (.bin .Mod (.v 3) (.k (.int 1000000))) (.k (.int 1))) 3 false (.sl (.v 0) (.v 1) (.k (.int 60)) (.k (.int st))) .yes) .nil)))) .skip)

section
variable {F : Nat → List V → Option V} {fuel : Nat}

theorem comp_ints {ρ : List V} : ∀ (l : List Int), ρ.length = 3 →
    compGo (fun y => (bindT 3 false y (ρ ++ [.undef, .undef])).bind fun ρ' => tst F ρ' .yes) (fun y => (bindT 3 false y (ρ ++ [.undef, .undef])).bind fun ρ' => ev F ρ' (.bin .Add (.bin .Mod (.v 3) (.k (.int 1000000))) (.k (.int 1)))) (l.map V.int) =
      some (l.map fun x => V.int (x % 1000000 + 1))
  | [], _ => rfl
  | x :: l, h => by
    obtain ⟨a, b, c, rfl⟩ : ∃ a b c, ρ = [a, b, c] := by
      match ρ, h with
      | [a, b, c], _ => exact ⟨a, b, c, rfl⟩
    rw [List.map_cons, compGo_q2]
    show ((tst F [a, b, c, .int x, .undef] .yes).bind _) = _
    rw [tst_q6, Option.bind_some, if_pos rfl]
    have e : ev F [a, b, c, .int x, .undef] (.bin .Add (.bin .Mod (.v 3) (.k (.int 1000000))) (.k (.int 1))) = some (.int (x % 1000000 + 1)) := by
      rw [bin_ev (x := .int (x % 1000000)) (y := .int 1) (by rw [bin_ev (x := .int x) (y := .int 1000000) rfl rfl]; rfl) rfl]; rfl
    show ((ev F [a, b, c, .int x, .undef] _).bind _) = _
    rw [e, Option.bind_some, comp_ints l rfl]; rfl

theorem toInts_map : ∀ (l : List Int), toInts (l.map V.int) = some l
  | [] => rfl
  | x :: l => by rw [List.map_cons, toInts_q2, toInts_map l]; rfl
theorem sum_nonneg : ∀ (l : List Int), (∀ x ∈ l, 0 ≤ x) → 0 ≤ l.sum
  | [], _ => by simp
  | x :: l, h => by
    rw [List.sum_cons]
    have := h x (by simp)
    have := sum_nonneg l fun y hy => h y (by simp [hy])
    lia
theorem pick_map {α β : Type} (f : α → β) (l : List α) (a b c : Option Int) : pick (l.map f) a b c = (pick l a b c).map f := by
  unfold pick
  rw [List.length_map, List.map_filterMap]
  congr 1
  funext i
  exact List.getElem?_map

theorem sum_law {ns : List Int} {first start st : Int} (hst : 0 < st) (hn : ns.length ≤ 63) : ∃ s, start ≤ s ∧ runF F fuel 3 3 (sumS st) [.list (ns.map .int), .int first, .int start] = some (.int s) := by
  have hp := pick_len ns first 60 st hst
  have e1 : ev F [.list (ns.map .int), .int first, .int start] (.sl (.v 0) (.v 1) (.k (.int 60)) (.k (.int st))) = some (.list ((pick ns (some first) (some 60) (some st)).map V.int)) := by
    rw [ev_q19]
    show (if (ns.map V.int).length ≤ lim ∧ some st ≠ some 0 then some (V.list (pick (ns.map V.int) (some first) (some 60) (some st))) else none) = _
    rw [if_pos ⟨by rw [List.length_map]; exact Nat.le_trans hn (by decide), by intro q; cases q; lia⟩, pick_map]
  generalize pick ns (some first) (some 60) (some st) = l at e1 hp
  have e2 : ev F [.list (ns.map .int), .int first, .int start] (.comp (.bin .Add (.bin .Mod (.v 3) (.k (.int 1000000))) (.k (.int 1))) 3 false (.sl (.v 0) (.v 1) (.k (.int 60)) (.k (.int st))) .yes) = some (.list (l.map fun x => V.int (x % 1000000 + 1))) := by
    rw [ev_q23, e1, Option.bind_some]
    show ((if (l.map V.int).length ≤ lim then some (l.map V.int) else none).bind _) = _
    rw [if_pos (by rw [List.length_map]; exact Nat.le_trans (Nat.le_trans hp hn) (by decide)), Option.bind_some, comp_ints l rfl]; rfl
  have hb : ∀ x ∈ l.map (fun x => x % 1000000 + 1), 0 ≤ x ∧ x < 1099511627776 := by
    intro x hx
    obtain ⟨y, _, rfl⟩ := List.mem_map.mp hx
    grind
  have e3 : ev F [.list (ns.map .int), .int first, .int start] (.bi .sum (.cons (.comp (.bin .Add (.bin .Mod (.v 3) (.k (.int 1000000))) (.k (.int 1))) 3 false (.sl (.v 0) (.v 1) (.k (.int 60)) (.k (.int st))) .yes) .nil)) = some (.int (l.map (fun x => x % 1000000 + 1)).sum) := by
    rw [bi_ev' (evs1 e2)]
    have e : (l.map fun x => V.int (x % 1000000 + 1)) = (l.map (fun x => x % 1000000 + 1)).map V.int := by rw [List.map_map]; rfl
    show (toInts (l.map fun x => V.int (x % 1000000 + 1))).bind _ = _
    rw [e, toInts_map, Option.bind_some]
    refine if_pos ⟨?_, by rw [List.length_map]; exact Nat.le_trans (Nat.le_trans hp hn) (by decide)⟩
    rw [List.all_eq_true]
    intro x hx
    have := hb x hx
    simp [small]; grind
  refine ⟨start + (l.map (fun x => x % 1000000 + 1)).sum, ?_, ?_⟩
  · have := sum_nonneg (l.map (fun x => x % 1000000 + 1)) fun x hx => (hb x hx).1
    lia
  · have h : runF F fuel 3 3 (sumS st) [.list (ns.map .int), .int first, .int start] = (ex F fuel (sumS st) [.list (ns.map .int), .int first, .int start]).bind fun o => match o with
      | .ret v => some v
      | _ => none := rfl
    rw [h]
    unfold sumS
    rw [seq_ret (ret_ex (x := .int (start + (l.map (fun x => x % 1000000 + 1)).sum)) (by rw [bin_ev (x := .int start) rfl e3]; rfl))]; rfl
end
end Mine
end
section
set_option maxRecDepth 100000
set_option backward.match.sparseCases false
namespace Mine
open PySem PySem.W PyProof.Rows

noncomputable def colGo (ts : Nat) : List Nat → Nat → Nat
  | [], c => c
  | x :: l, c => colGo ts l (c + (if x = 32 then 1 else ts - c % ts))
noncomputable def colP (l : List Nat) (ts : Nat) : Nat := colGo ts l 0

noncomputable def colB : S := (.seq (.asg 2 (.bin .Add (.v 2) (.ite (.cmp .Eq (.v 3) (.k (.str [32]))) (.k (.int 1)) (.bin .Sub (.v 1) (.bin .Mod (.v 2) (.v 1)))))) .skip)
noncomputable def colS : S := (.seq (.asg 2 (.k (.int 0))) (.seq (.for 3 (.v 0)
 colB) (.seq (.ret (.v 2)) .skip)))

section
variable {F : Nat → List V → Option V} {fuel : Nat}
theorem col_loop {s0 : V} {ts : Nat} (hts : 0 < ts) : ∀ (l : List Nat) (c : Nat) (u : V), ∃ u', forGo (ex F fuel colB) 3 (l.map fun x => V.str [x]) [s0, .int ts, .int c, u] = some (.next [s0, .int ts, .int (colGo ts l c), u'])
  | [], c, u => ⟨u, rfl⟩
  | x :: l, c, u => by
    have hset : ([s0, .int ts, .int c, u] : List V).set 3 (.str [x]) = [s0, .int ts, .int c, .str [x]] := rfl
    rw [List.map_cons, forGo_q2, hset]
    have e1 : tst F [s0, .int ts, .int c, .str [x]] (.cmp .Eq (.v 3) (.k (.str [32]))) = some (x == 32) := by
      rw [cmp_t (x := .str [x]) (y := .str [32]) rfl rfl]; exact eq_chars _ _
    have e2 : ev F [s0, .int ts, .int c, .str [x]] (.ite (.cmp .Eq (.v 3) (.k (.str [32]))) (.k (.int 1)) (.bin .Sub (.v 1) (.bin .Mod (.v 2) (.v 1)))) = some (.int ((if x = 32 then 1 else ts - c % ts : Nat))) := by
      rw [ev_q10, e1, Option.bind_some]
      by_cases h : x = 32
      · subst h; rfl
      · rw [if_neg h, beq_eq_false_iff_ne.mpr h]
        have em : ev F [s0, .int ts, .int c, .str [x]] (.bin .Mod (.v 2) (.v 1)) = some (.int ((c % ts : Nat))) := by
          rw [bin_ev (x := .int c) (y := .int ts) rfl rfl]
          exact if_pos (by lia)
        show ev F [s0, .int ts, .int c, .str [x]] (.bin .Sub (.v 1) (.bin .Mod (.v 2) (.v 1))) = _
        rw [bin_ev (x := .int ts) rfl em]
        have := Nat.mod_lt c hts
        show some (V.int ((ts : Int) - ((c % ts : Nat) : Int))) = _
        congr 2
        lia
    have st : ex F fuel colB [s0, .int ts, .int c, .str [x]] = some (.next [s0, .int ts, .int ((c + (if x = 32 then 1 else ts - c % ts) : Nat)), .str [x]]) := by
      unfold colB
      rw [seq_ex (ρ' := [s0, .int ts, .int ((c + (if x = 32 then 1 else ts - c % ts) : Nat)), .str [x]]) (by
        rw [asg_ex (x := .int ((c + (if x = 32 then 1 else ts - c % ts) : Nat))) (by rw [bin_ev (x := .int c) rfl e2]; rfl)]; rfl)]
      exact skip_ex
    rw [st, Option.bind_some, colGo]
    exact col_loop hts l _ _
theorem col_ok {l : List Nat} {ts : Nat} (hts : 0 < ts) (hl : l.length ≤ 10000) : runF F fuel 2 4 colS [.str l, .int ts] = some (.int (colP l ts)) := by
  have h : runF F fuel 2 4 colS [.str l, .int ts] = (ex F fuel colS [.str l, .int ts, .undef, .undef]).bind fun o => match o with
    | .ret v => some v
    | _ => none := rfl
  rw [h]
  unfold colS
  rw [seq_ex (ρ' := [.str l, .int ts, .int (0 : Nat), .undef]) rfl]
  obtain ⟨u', e⟩ := col_loop (F := F) (fuel := fuel) (s0 := .str l) hts l 0 .undef
  rw [seq_ex (by
    rw [for_ex (x := .str l) (xs := l.map fun c => V.str [c]) rfl (if_pos (Nat.le_trans hl (by decide)))]
    exact e)]
  rfl
end

/-! the columns of an instance are the columns sign by sign -/
theorem indS_app (ts : Nat) : ∀ (k i : Nat) (c d : List Nat), (∀ j, i ≤ j → j < i + k → (c[j]?).getD 0 = (d[j]?).getD 0) → indS c ts i k = indS d ts i k
  | 0, _, _, _, _ => rfl
  | k + 1, i, c, d, h => by
    rw [indS, indS, h i (Nat.le_refl _) (by grind), indS_app ts k (i + 1) c d fun j h1 h2 => h j (by lia) (by lia)]
/-- the whole sum, from 0 to any bound past the end -/
theorem indS_zero (ts : Nat) : ∀ (k i : Nat) (c : List Nat), c.length ≤ i → indS c ts i k = 0
  | 0, _, _, _ => rfl
  | k + 1, i, c, h => by
    rw [indS, List.getElem?_eq_none h, indS_zero ts k (i + 1) c (by lia)]; simp
theorem indS_add (ts : Nat) (c : List Nat) : ∀ (k i m : Nat), indS c ts i (k + m) = indS c ts i k + indS c ts (i + k) m
  | 0, i, m => by simp [indS]
  | k + 1, i, m => by
    rw [show k + 1 + m = (k + m) + 1 by grind, indS, indS, indS_add ts c k (i + 1) m, show i + 1 + k = i + (k + 1) by grind]; grind
theorem indS_low (ts : Nat) (hts : 0 < ts) (c : List Nat) : ∀ (k i : Nat), i + k ≤ ts → indS c ts i k = 0
  | 0, _, _ => rfl
  | k + 1, i, h => by
    rw [indS, Nat.div_eq_of_lt (by lia), indS_low ts hts c k (i + 1) (by lia)]; simp
noncomputable def indW (c : List Nat) (ts : Nat) : Nat := indS c ts 0 c.length
theorem indW_any (ts : Nat) (c : List Nat) {m : Nat} (h : c.length ≤ m) : indS c ts 0 m = indW c ts := by
  unfold indW
  obtain ⟨d, rfl⟩ : ∃ d, m = c.length + d := ⟨m - c.length, by grind⟩
  rw [indS_add, indS_zero ts d _ c (by lia)]; grind
theorem indW_eq (ts : Nat) (hts : 0 < ts) (c : List Nat) : indS c ts ts (c.length - ts) = indW c ts := by
  by_cases h : ts ≤ c.length
  · unfold indW
    have := indS_add ts c ts 0 (c.length - ts)
    rw [show ts + (c.length - ts) = c.length by grind, indS_low ts hts c ts 0 (by lia), Nat.zero_add, Nat.zero_add] at this
    exact this.symm
  · rw [show c.length - ts = 0 by grind, indS]
    unfold indW
    rw [indS_low ts hts c c.length 0 (by lia)]
end Mine
end
section
set_option maxRecDepth 100000
set_option backward.match.sparseCases false
namespace Mine
open PySem PySem.W PyProof.Rows

theorem indS_set (ts b v : Nat) (c : List Nat) (h : c[b]? = some v) : ∀ (k i : Nat), indS (c.set b (v + 1)) ts i k = indS c ts i k + (if i ≤ b ∧ b < i + k then b / ts else 0)
  | 0, i => by rw [indS, indS, if_neg (by lia)]
  | k + 1, i => by
    rw [indS, indS, indS_set ts b v c h k (i + 1)]
    have hb : b < c.length := by
      rcases Nat.lt_or_ge b c.length with q | q
      · exact q
      · rw [List.getElem?_eq_none q] at h; cases h
    by_cases e : i = b
    · subst e
      rw [List.getElem?_set, if_pos rfl, if_pos hb, h]
      rw [if_neg (by grind), if_pos (by lia)]
      simp only [Option.getD_some]
      rw [Nat.mul_add, Nat.mul_one]; grind
    · rw [List.getElem?_set, if_neg (by grind)]
      by_cases q : i + 1 ≤ b ∧ b < i + 1 + k
      · rw [if_pos q, if_pos (by lia)]; grind
      · rw [if_neg q, if_neg (by omega)]; grind
theorem indW_tab (ts : Nat) (cnt : List Nat) (b : Nat) : indW (wsTab cnt b) ts = indW cnt ts + b / ts := by
  unfold wsTab
  generalize hk : (if cnt.length ≤ b then cnt ++ List.replicate (b - cnt.length + 1) 0 else cnt) = ck
  have hkl : b < ck.length := by
    rw [← hk]; split
    · simp; omega
    · omega
  have hw : indW ck ts = indW cnt ts := by
    rw [← indW_any ts cnt (m := ck.length) (by rw [← hk]; split <;> simp)]
    unfold indW
    refine indS_app ts _ _ _ _ fun j _ _ => ?_
    rw [← hk]
    split
    · by_cases q : j < cnt.length
      · rw [List.getElem?_append_left q]
      · rw [List.getElem?_append_right (by grind), List.getElem?_eq_none (l := cnt) (by lia)]
        by_cases q2 : j - cnt.length < b - cnt.length + 1
        · rw [List.getElem?_replicate, if_pos q2]; rfl
        · rw [List.getElem?_replicate, if_neg q2]
    · rfl
  have hv : ck[b]? = some ((ck[b]?).getD 0) := by rw [List.getElem?_eq_getElem hkl]; rfl
  unfold indW
  rw [List.length_set, indS_set ts b _ ck hv, if_pos (by lia)]
  show indW ck ts + _ = _
  rw [hw]; rfl

noncomputable def Lead (l : List Nat) : Prop := ∀ c ∈ l, c = 32 ∨ c = 9

theorem col_ws (ts : Nat) (hts : 0 < ts) : ∀ (l cnt : List Nat) (b n nt : Nat), Lead l →
    colGo ts l (b + ts * (indW cnt ts + nt)) = (wsGo l cnt b n nt).2.1 + ts * (indW (wsGo l cnt b n nt).1 ts + (wsGo l cnt b n nt).2.2.2)
  | [], _, _, _, _, _ => rfl
  | c :: l, cnt, b, n, nt, h => by
    rw [colGo, wsGo]
    rcases h c (by simp) with rfl | rfl
    · rw [if_pos rfl, if_pos rfl, ← col_ws ts hts l cnt (b + 1) (n + 1) nt fun x hx => h x (by simp [hx])]
      congr 1; lia
    · rw [if_neg (by decide), if_neg (by decide), if_pos rfl, ← col_ws ts hts l (wsTab cnt b) 0 (n + 1) (nt + 1) fun x hx => h x (by simp [hx]), indW_tab]
      congr 1
      rw [Nat.add_mul_mod_self_left]
      have h1 := Nat.div_add_mod b ts
      have h2 := Nat.mod_lt b hts
      rw [show ts * (indW cnt ts + b / ts + (nt + 1)) = ts * (indW cnt ts + nt) + ts * (b / ts) + ts by rw [show indW cnt ts + b / ts + (nt + 1) = (indW cnt ts + nt) + (b / ts) + 1 by grind, Nat.mul_add, Nat.mul_add, Nat.mul_one]]
      lia

theorem ind_col {l : List Nat} (h : Lead l) {ts : Nat} (hts : 0 < ts) : (wsOf l).ind ts = colP l ts := by
  have := col_ws ts hts l [] 0 0 0 h
  unfold colP Ws.ind indP wsOf
  rw [show 0 + ts * (indW [] ts + 0) = 0 by simp [indW, indS]] at this
  rw [this]
  generalize wsGo l [] 0 0 0 = r
  obtain ⟨c, b, n, t⟩ := r
  dsimp only
  rw [indW_eq ts hts]

theorem wsGo_stop {x : Nat} (h1 : x ≠ 32) (h2 : x ≠ 9) (t : List Nat) : ∀ (l cnt : List Nat) (b n nt : Nat), Lead l → wsGo (l ++ x :: t) cnt b n nt = wsGo l cnt b n nt
  | [], cnt, b, n, nt, _ => by
    simp only [List.nil_append, wsGo, if_neg h1, if_neg h2]
  | c :: l, cnt, b, n, nt, h => by
    rw [List.cons_append, wsGo, wsGo]
    rcases h c (by simp) with rfl | rfl
    · rw [if_pos rfl, if_pos rfl]; exact wsGo_stop h1 h2 t l _ _ _ _ fun y hy => h y (by simp [hy])
    · rw [if_neg (by decide), if_pos rfl, if_neg (by decide), if_pos rfl]; exact wsGo_stop h1 h2 t l _ _ _ _ fun y hy => h y (by simp [hy])
theorem wsOf_stop {x : Nat} (h1 : x ≠ 32) (h2 : x ≠ 9) (t : List Nat) {l : List Nat} (h : Lead l) : wsOf (l ++ x :: t) = wsOf l := by
  unfold wsOf; rw [wsGo_stop h1 h2 t l _ _ _ _ h]
end Mine
end
section
set_option maxRecDepth 100000
set_option backward.match.sparseCases false
namespace Mine
open PySem PySem.W PyProof.Rows
theorem toStrs_map : ∀ (l : List (List Nat)), toStrs (l.map V.str) = some l
  | [] => rfl
  | x :: l => by rw [List.map_cons, toStrs_q2, toStrs_map l]; rfl
end Mine
end
section
set_option maxRecDepth 100000
set_option backward.match.sparseCases false
namespace Mine
open PySem PySem.W PyProof.Rows

section
variable {F : Nat → List V → Option V} {ρ : List V}

theorem compGo_filter {α : Type} {c : V → Option Bool} {e : V → Option V} {g f : α → V} {p : α → Bool} : ∀ (l : List α), (∀ i ∈ l, c (g i) = some (p i)) → (∀ i ∈ l, p i = true → e (g i) = some (f i)) →
    compGo c e (l.map g) = some ((l.filter p).map f)
  | [], _, _ => rfl
  | i :: l, hc, he => by
    have ih := compGo_filter (c := c) (e := e) (g := g) (f := f) (p := p) l (fun j hj => hc j (List.mem_cons_of_mem _ hj)) (fun j hj => he j (List.mem_cons_of_mem _ hj))
    rw [List.map_cons, compGo_q2, hc i (List.mem_cons_self ..), Option.bind_some, List.filter_cons]
    cases hp : p i with
    | true => rw [if_pos rfl, he i (List.mem_cons_self ..) hp, Option.bind_some, ih, if_pos rfl]; rfl
    | false => rw [if_neg (by decide), ih, if_neg (by decide)]
theorem comp_filter {α : Type} {l : List α} {g f : α → V} {p : α → Bool} {e it c : X} {tgt : Nat} {x : V} (hi : ev F ρ it = some x) (hx : iterItems x = some (l.map g))
    (hc : ∀ i ∈ l, tst F ((ρ ++ [V.undef, V.undef]).set tgt (g i)) c = some (p i)) (he : ∀ i ∈ l, p i = true → ev F ((ρ ++ [V.undef, V.undef]).set tgt (g i)) e = some (f i)) :
    ev F ρ (.comp e tgt false it c) = some (.list ((l.filter p).map f)) := by
  rw [ev_q23, hi, Option.bind_some, hx, Option.bind_some, compGo_filter (g := g) (f := f) (p := p) l]
  · rfl
  · exact hc
  · exact he
theorem comp_map {α : Type} {l : List α} {g f : α → V} {e it : X} {tgt : Nat} {x : V} (hi : ev F ρ it = some x) (hx : iterItems x = some (l.map g))
    (he : ∀ i ∈ l, ev F ((ρ ++ [V.undef, V.undef]).set tgt (g i)) e = some (f i)) :
    ev F ρ (.comp e tgt false it .yes) = some (.list (l.map f)) := by
  have := comp_filter (l := l) (g := g) (f := f) (p := fun _ => true) (c := .yes) hi hx (fun i _ => by rw [tst_q6]) (fun i hi' _ => he i hi')
  rwa [List.filter_eq_self.mpr (fun _ _ => rfl)] at this
theorem items_list {l : List V} (h : l.length ≤ lim) : iterItems (.list l) = some l := if_pos h
theorem items_tup {l : List V} (h : l.length ≤ lim) : iterItems (.tup l) = some l := if_pos h
theorem lim_le {n : Nat} (h : n ≤ 1000000) : n ≤ lim := by
  show n ≤ 1048576
  lia

/-! arithmetic of naturals -/
theorem add_n {a b : X} {x y : Nat} (h1 : ev F ρ a = some (.int x)) (h2 : ev F ρ b = some (.int y)) : ev F ρ (.bin .Add a b) = some (.int ((x + y : Nat))) := by
  rw [bin_ev h1 h2]; exact congrArg (fun z => some (V.int z)) (Int.natCast_add x y).symm
theorem mod_n {a b : X} {x y : Nat} (h1 : ev F ρ a = some (.int x)) (h2 : ev F ρ b = some (.int y)) (hs : 0 < y) : ev F ρ (.bin .Mod a b) = some (.int ((x % y : Nat))) := by
  rw [bin_ev h1 h2]
  exact if_pos (by omega)
theorem div_n {a b : X} {x y : Nat} (h1 : ev F ρ a = some (.int x)) (h2 : ev F ρ b = some (.int y)) (hs : 0 < y) (hb : y < 1000000000) : ev F ρ (.bin .FloorDiv a b) = some (.int ((x / y : Nat))) := by
  rw [bin_ev h1 h2]
  exact if_pos (by omega)
theorem cat_s {a b : X} {x y : List Nat} (h1 : ev F ρ a = some (.str x)) (h2 : ev F ρ b = some (.str y)) (h : x.length + y.length ≤ 1000000) : ev F ρ (.bin .Add a b) = some (.str (x ++ y)) := by
  rw [bin_ev h1 h2]; exact if_pos (lim_le h)
theorem cat_l {a b : X} {x y : List V} (h1 : ev F ρ a = some (.list x)) (h2 : ev F ρ b = some (.list y)) (h : x.length + y.length ≤ 1000000) : ev F ρ (.bin .Add a b) = some (.list (x ++ y)) := by
  rw [bin_ev h1 h2]; exact if_pos (lim_le h)
theorem rep_s {a b : X} {c n : Nat} (h1 : ev F ρ a = some (.str [c])) (h2 : ev F ρ b = some (.int n)) (h : n ≤ 1000000) : ev F ρ (.bin .Mult a b) = some (.str (List.replicate n c)) := by
  rw [bin_ev h1 h2]
  have hs : small (n : Int) = true := small_n (by lia)
  have h2 : [c].length * (n : Int).toNat ≤ lim := by
    show 1 * n ≤ lim
    exact lim_le (by lia)
  rw [rep_i ⟨hs, h2⟩, rep_replicate]; rfl
theorem len_l {a : X} {x : List V} (h1 : ev F ρ a = some (.list x)) (h : x.length ≤ 1000000) : ev F ρ (.bi .len (.cons a .nil)) = some (.int x.length) := by
  rw [bi_ev' (evs1 h1)]; exact if_pos (lim_le h)
theorem list_ev {a : X} {xs : List V} (h1 : evs F ρ a = some xs) (h : xs.length ≤ 1000000) : ev F ρ (.list a) = some (.list xs) := by
  rw [ev_q21, h1, Option.bind_some, if_pos (lim_le h)]
theorem tup_ev {a : X} {xs : List V} (h1 : evs F ρ a = some xs) (h : xs.length ≤ 1000000) : ev F ρ (.tup a) = some (.tup xs) := by
  rw [ev_q22, h1, Option.bind_some, if_pos (lim_le h)]
theorem new_ev' {as : X} {xs : List V} (h : evs F ρ as = some xs) : ev F ρ (.new as) = F 0 xs := by rw [ev_q14, h]; rfl
theorem cmp_ev {op : CmpOp} {a b : X} {x y : V} {t : Bool} (h1 : ev F ρ a = some x) (h2 : ev F ρ b = some y) (h : cmpop op x y = some t) : ev F ρ (.cmp op a b) = some (.bool t) := by
  rw [ev_q11, h1, Option.bind_some, h2, Option.bind_some, h]; rfl
theorem cmp_t' {op : CmpOp} {a b : X} {x y : V} {t : Bool} (h1 : ev F ρ a = some x) (h2 : ev F ρ b = some y) (h : cmpop op x y = some t) : tst F ρ (.cmp op a b) = some t := by
  rw [cmp_t h1 h2, h]
theorem lt_n (x y : Nat) : cmpop .Lt (.int x) (.int y) = some (decide (x < y)) := by
  show some (decide ((x : Int) < y)) = _
  congr 1; simp
theorem eq_n (x y : Nat) : cmpop .Eq (.int x) (.int y) = some (x == y) := by
  show some ((x : Int) == y) = _
  rw [beq_nat]
theorem ite_t {c a b : X} {z : V} (h : tst F ρ c = some true) (h1 : ev F ρ a = some z) : ev F ρ (.ite c a b) = some z := by
  rw [ev_q10, h]; exact h1
theorem ite_f {c a b : X} {z : V} (h : tst F ρ c = some false) (h1 : ev F ρ b = some z) : ev F ρ (.ite c a b) = some z := by
  rw [ev_q10, h]; exact h1
theorem ors2 {a b : X} {x y : Bool} (h1 : tst F ρ a = some x) (h2 : x = false → tst F ρ b = some y) : tst F ρ (.ors (.cons a (.cons b .nil))) = some (x || y) := by
  rw [tst_q3, tors_q2, h1, Option.bind_some]
  cases x with
  | true => rfl
  | false =>
    rw [if_neg (by decide), tors_q2, h2 rfl, Option.bind_some, tors_q1]
    cases y <;> rfl
theorem ors3 {a b c : X} {x y z : Bool} (h1 : tst F ρ a = some x) (h2 : x = false → tst F ρ b = some y) (h3 : x = false → y = false → tst F ρ c = some z) : tst F ρ (.ors (.cons a (.cons b (.cons c .nil)))) = some (x || y || z) := by
  rw [tst_q3, tors_q2, h1, Option.bind_some]
  cases x with
  | true => rfl
  | false =>
    rw [if_neg (by decide), tors_q2, h2 rfl, Option.bind_some]
    cases y with
    | true => rfl
    | false =>
      rw [if_neg (by decide), tors_q2, h3 rfl rfl, Option.bind_some, tors_q1]
      cases z <;> rfl
end

/-! rows of naturals -/
theorem eqL_refl {f : V → V → Bool} : ∀ {l : List V}, (∀ x ∈ l, f x x = true) → eqL f l l = true
  | [], _ => rfl
  | x :: l, h => by
    rw [eqL, h x (List.mem_cons_self ..), eqL_refl fun y hy => h y (List.mem_cons_of_mem _ hy)]; rfl
theorem veq_refl : ∀ (n : Nat) (v : V), okV n v = true → veq n v v = true
  | n, .none, _ => by cases n <;> rfl
  | n, .bool b, _ => by cases n <;> simp [veq]
  | n, .int i, _ => by cases n <;> simp [veq]
  | n, .str s, _ => by cases n <;> simp [veq]
  | 0, .list l, h => by cases h
  | 0, .tup l, h => by cases h
  | n + 1, .list l, h => by
    rw [okV, List.all_eq_true] at h
    rw [veq]
    exact eqL_refl fun x hx => veq_refl n x (h x hx)
  | n + 1, .tup l, h => by
    rw [okV, List.all_eq_true] at h
    rw [veq]
    exact eqL_refl fun x hx => veq_refl n x (h x hx)
  | 0, .range _ _ _, h => by cases h
  | n + 1, .range _ _ _, h => by cases h
  | 0, .inst _, h => by cases h
  | n + 1, .inst _, h => by cases h
  | 0, .undef, h => by cases h
  | n + 1, .undef, h => by cases h
theorem ne_same {v : V} (h : okV 4 v = true) : cmpop .NotEq v v = some false := by
  show (if (okV 4 v && okV 4 v) = true then some (!veq 4 v v) else none) = _
  rw [h, veq_refl 4 v h]; rfl
noncomputable def rowV (i a b : Nat) : V := .tup [.int i, .int a, .int b]
theorem ok_rows {α : Type} (l : List α) (f g h : α → Nat) : okV 4 (.list (l.map fun i => rowV (f i) (g i) (h i))) = true := by
  rw [okV, List.all_eq_true]
  intro x hx
  obtain ⟨i, _, rfl⟩ := List.mem_map.mp hx
  rfl
theorem rows_empty {α : Type} (l : List α) (f g h : α → Nat) : cmpop .Eq (.list (l.map fun i => rowV (f i) (g i) (h i))) (.list []) = some l.isEmpty := by
  show (if (okV 4 (.list (l.map fun i => rowV (f i) (g i) (h i))) && okV 4 (.list [])) = true then some (veq 4 (.list (l.map fun i => rowV (f i) (g i) (h i))) (.list [])) else none) = _
  rw [ok_rows]
  cases l <;> rfl
theorem witP_eq (p : Nat → Nat → Bool) (x y : Ws) : ∀ (k i : Nat), witP p x y i k = ((List.range' i k).filter fun j => p (x.ind j) (y.ind j)).map fun j => rowV j (x.ind j) (y.ind j)
  | 0, _ => rfl
  | k + 1, i => by
    rw [witP, List.range'_succ, List.filter_cons, witP_eq p x y k (i + 1)]
    split <;> simp [rowV]
end Mine
end
section
set_option maxRecDepth 100000
set_option backward.match.sparseCases false
namespace Mine
open PySem PySem.W PyProof.Rows

/-- a lead by its runs: rs ahead of tabs, r behind -/
noncomputable def word : List Nat → Nat → List Nat
  | [], r => List.replicate r 32
  | k :: rs, r => List.replicate k 32 ++ 9 :: word rs r
noncomputable def unw : List Nat → List Nat × Nat
  | [] => ([], 0)
  | c :: l => if c = 32 then (match unw l with | ([], r) => ([], r + 1) | (k :: ks, r) => ((k + 1) :: ks, r)) else (0 :: (unw l).1, (unw l).2)

theorem lead_tail {c : Nat} {l : List Nat} (h : Lead (c :: l)) : Lead l := fun x hx => h x (List.mem_cons_of_mem _ hx)
theorem word_unw : ∀ {l : List Nat}, Lead l → word (unw l).1 (unw l).2 = l
  | [], _ => rfl
  | c :: l, h => by
    have ih := word_unw (lead_tail h)
    rw [unw]
    rcases h c (List.mem_cons_self ..) with rfl | rfl
    · rw [if_pos rfl]
      generalize unw l = u at ih
      obtain ⟨ks, r⟩ := u
      cases ks with
      | nil => dsimp only at ih ⊢; rw [word, List.replicate_succ, ← ih, word]
      | cons k ks => dsimp only at ih ⊢; rw [word, List.replicate_succ, ← ih, word]; rfl
    · rw [if_neg (by decide)]
      dsimp only
      rw [word, ih]; rfl
theorem unw_rep : ∀ (k : Nat) (l : List Nat), unw (List.replicate k 32 ++ l) = (match unw l with | ([], r) => ([], r + k) | (j :: ks, r) => ((j + k) :: ks, r))
  | 0, l => by
    rw [List.replicate_zero, List.nil_append]
    generalize unw l = u
    obtain ⟨ks, r⟩ := u
    cases ks <;> rfl
  | k + 1, l => by
    rw [List.replicate_succ, List.cons_append, unw, if_pos rfl, unw_rep k l]
    generalize unw l = u
    obtain ⟨ks, r⟩ := u
    cases ks <;> rfl
theorem unw_word : ∀ (rs : List Nat) (r : Nat), unw (word rs r) = (rs, r)
  | [], r => by
    have := unw_rep r []
    rw [List.append_nil] at this
    rw [word, this]
    show (([], 0 + r) : List Nat × Nat) = _
    rw [Nat.zero_add]
  | k :: rs, r => by
    rw [word, unw_rep, unw, if_neg (by decide), unw_word rs r]
    show ((0 + k) :: rs, r) = _
    rw [Nat.zero_add]
theorem word_inj {rs rs' : List Nat} {r r' : Nat} (h : word rs r = word rs' r') : rs = rs' ∧ r = r' := by
  have := congrArg unw h
  rw [unw_word, unw_word] at this
  exact ⟨congrArg Prod.fst this, congrArg Prod.snd this⟩
theorem lead_rep (k : Nat) : Lead (List.replicate k 32) := fun c hc => .inl (List.eq_of_mem_replicate hc)
theorem lead_app {a b : List Nat} (ha : Lead a) (hb : Lead b) : Lead (a ++ b) := fun c hc => (List.mem_append.mp hc).elim (ha c) (hb c)
theorem lead_word : ∀ (rs : List Nat) (r : Nat), Lead (word rs r)
  | [], r => lead_rep r
  | k :: rs, r => lead_app (lead_rep k) fun c hc => by
    rcases List.mem_cons.mp hc with rfl | hc
    · exact .inr rfl
    · exact lead_word rs r c hc
theorem word_len : ∀ (rs : List Nat) (r : Nat), (word rs r).length = rs.sum + rs.length + r
  | [], r => by rw [word]; simp
  | k :: rs, r => by
    rw [word, List.length_append, List.length_cons, word_len rs r]
    simp; lia
theorem word_app : ∀ (rs rs' : List Nat) (r r' : Nat), word rs r ++ 9 :: word rs' r' = word (rs ++ r :: rs') r'
  | [], rs', r, r' => rfl
  | k :: rs, rs', r, r' => by
    rw [word, List.append_assoc, List.cons_append, word_app rs rs' r r', List.cons_append, word]

/-! the split at the tabs -/
noncomputable def spl : List Nat → List (List Nat)
  | [] => [[]]
  | c :: l => if c = 9 then [] :: spl l else match spl l with
    | [] => [[c]]
    | p :: r => (c :: p) :: r
theorem spl_app {p : List Nat} (h : 9 ∉ p) (l : List Nat) : spl (p ++ 9 :: l) = p :: spl l := by
  induction p with
  | nil => rw [List.nil_append, spl, if_pos rfl]
  | cons c p ih =>
    rw [List.cons_append, spl, if_neg (fun (q : c = 9) => h (by rw [q]; exact List.mem_cons_self ..)), ih fun q => h (List.mem_cons_of_mem _ q)]
theorem spl_free {p : List Nat} (h : 9 ∉ p) : spl p = [p] := by
  induction p with
  | nil => rfl
  | cons c p ih =>
    rw [spl, if_neg (fun (q : c = 9) => h (by rw [q]; exact List.mem_cons_self ..)), ih fun q => h (List.mem_cons_of_mem _ q)]
theorem spl_join : ∀ (ps : List (List Nat)), ps ≠ [] → (∀ p ∈ ps, 9 ∉ p) → spl (joinL [9] ps) = ps
  | [], h, _ => absurd rfl h
  | [p], _, h => by rw [joinL]; exact spl_free (h p (List.mem_cons_self ..))
  | p :: q :: r, _, h => by
    rw [joinL]
    · rw [List.append_assoc, List.singleton_append, spl_app (h p (List.mem_cons_self ..)), spl_join (q :: r) (by simp) fun x hx => h x (List.mem_cons_of_mem _ hx)]
    · simp
theorem joinStr : ∀ (ps : List Str), (Str.join ⟨#[9]⟩ ps).cps.toList = joinL [9] (ps.map fun x => x.cps.toList)
  | [] => rfl
  | [p] => rfl
  | p :: q :: r => by
    have ih := joinStr (q :: r)
    rw [List.map_cons, joinL]
    · rw [← ih]
      show (p.cps ++ #[9] ++ (Str.join ⟨#[9]⟩ (q :: r)).cps).toList = _
      simp
    · simp
theorem splitV_eq (l : List Nat) : splitV l [9] = spl l := by
  have h1 := PySem.StrLaws.join_split ⟨l.toArray⟩ ⟨#[9]⟩
  have h2 := PySem.StrLaws.split_free ⟨l.toArray⟩ 9
  have h3 := congrArg (fun s : Str => s.cps.toList) h1
  dsimp only at h3
  rw [joinStr] at h3
  have e : splitV l [9] = (Txt.split ⟨l.toArray⟩ ⟨#[9]⟩).map fun x => x.cps.toList := rfl
  have e2 : joinL [9] (splitV l [9]) = l := by rw [e, h3]
  have hp : ∀ p ∈ splitV l [9], 9 ∉ p := by
    intro p hp
    rw [e] at hp
    obtain ⟨x, hx, rfl⟩ := List.mem_map.mp hp
    exact h2 x hx
  have hn : splitV l [9] ≠ [] := by
    rw [e]
    have := split_pos ⟨l.toArray⟩ ⟨#[9]⟩
    intro q
    have := congrArg List.length q
    rw [List.length_map, List.length_nil] at this
    lia
  rw [← spl_join _ hn hp, e2]
theorem spl_word : ∀ (rs : List Nat) (r : Nat), spl (word rs r) = (rs.map fun k => List.replicate k 32) ++ [List.replicate r 32]
  | [], r => by rw [word]; exact spl_free (fun h => absurd (List.eq_of_mem_replicate h) (by decide))
  | k :: rs, r => by
    rw [word, spl_app (fun h => absurd (List.eq_of_mem_replicate h) (by decide)), spl_word rs r]; rfl
end Mine
end
section
set_option maxRecDepth 100000
set_option backward.match.sparseCases false
namespace Mine
open PySem PySem.W PyProof.Rows

/-- one more than the greatest, 0 for none -/
noncomputable def mx : List Nat → Nat
  | [] => 0
  | k :: l => max (k + 1) (mx l)
noncomputable def mxN : List Nat → Nat
  | [] => 0
  | k :: l => max k (mxN l)
theorem mxN_eq : ∀ l, mxN l = mx l - 1
  | [] => rfl
  | k :: l => by rw [mxN, mx, mxN_eq l]; exact Nat.sub_max_sub_right (k + 1) (mx l) 1
theorem mx_lt {l : List Nat} {n : Nat} : mx l ≤ n ↔ ∀ k ∈ l, k < n := by
  induction l with
  | nil => simp [mx]
  | cons k l ih =>
    rw [mx]
    constructor
    · intro h j hj
      rcases List.mem_cons.mp hj with rfl | hj
      · omega
      · exact ih.mp (by omega) j hj
    · intro h
      have h1 := h k (List.mem_cons_self ..)
      have h2 := ih.mpr fun j hj => h j (List.mem_cons_of_mem _ hj)
      lia
theorem mx_perm {a b : List Nat} (h : ∀ k, k ∈ a ↔ k ∈ b) : mx a = mx b :=
  Nat.le_antisymm (mx_lt.mpr fun k hk => mx_lt.mp (Nat.le_refl _) k ((h k).mp hk)) (mx_lt.mpr fun k hk => mx_lt.mp (Nat.le_refl _) k ((h k).mpr hk))
theorem mx_pos {k : Nat} {l : List Nat} (h : k ∈ l) : 0 < mx l := Nat.lt_of_le_of_lt (Nat.zero_le k) (mx_lt.mp (Nat.le_refl _) k h)

theorem maxL_n : ∀ (l : List Nat), l ≠ [] → maxL (l.map fun (k : Nat) => (k : Int)) = (mxN l : Nat)
  | [], h => absurd rfl h
  | [k], _ => by simp [maxL, mxN]
  | k :: j :: l, _ => by
    have ih := maxL_n (j :: l) (by simp)
    rw [List.map_cons] at ih
    rw [List.map_cons, List.map_cons, maxL, ih, mxN.eq_2 k]
    · omega
    · simp

noncomputable def cntOf (rs : List Nat) : List Nat := rs.foldl wsTab []
theorem tab_get (cnt : List Nat) (b i : Nat) : ((wsTab cnt b)[i]?).getD 0 = (cnt[i]?).getD 0 + if i = b then 1 else 0 := by
  unfold wsTab
  generalize hk : (if cnt.length ≤ b then cnt ++ List.replicate (b - cnt.length + 1) 0 else cnt) = ck
  have hl : b < ck.length := by
    rw [← hk]; split
    · simp; grind
    · grind
  have hg : ∀ j : Nat, (ck[j]?).getD 0 = (cnt[j]?).getD 0 := by
    intro j
    rw [← hk]
    split
    · by_cases q : j < cnt.length
      · rw [List.getElem?_append_left q]
      · rw [List.getElem?_append_right (by lia), List.getElem?_eq_none (l := cnt) (by lia)]
        by_cases q2 : j - cnt.length < b - cnt.length + 1
        · rw [List.getElem?_replicate, if_pos q2]; rfl
        · rw [List.getElem?_replicate, if_neg q2]
    · rfl
  rw [List.getElem?_set]
  by_cases q : b = i
  · subst q
    rw [if_pos rfl, if_pos hl, if_pos rfl]
    show (ck[b]?).getD 0 + 1 = _
    rw [hg]
  · rw [if_neg q, if_neg (fun e => q e.symm), hg]; rfl
theorem fold_get : ∀ (rs c : List Nat) (i : Nat), ((rs.foldl wsTab c)[i]?).getD 0 = (c[i]?).getD 0 + rs.count i
  | [], c, i => by simp
  | k :: rs, c, i => by
    rw [List.foldl_cons, fold_get rs, tab_get, List.count_cons]
    by_cases q : i = k
    · subst q; simp; grind
    · rw [if_neg q, if_neg (by simpa using fun e : k = i => q e.symm)]; lia
theorem fold_len : ∀ (rs c : List Nat), (rs.foldl wsTab c).length = max c.length (mx rs)
  | [], c => by rw [mx]; simp
  | k :: rs, c => by rw [List.foldl_cons, fold_len rs, wsTab_len, mx]; grind
theorem cnt_get (rs : List Nat) (i : Nat) : ((cntOf rs)[i]?).getD 0 = rs.count i := by
  unfold cntOf; rw [fold_get]; simp
theorem cnt_len (rs : List Nat) : (cntOf rs).length = mx rs := by
  unfold cntOf; rw [fold_len]; simp
theorem ext_getD {a b : List Nat} (h : a.length = b.length) (hg : ∀ i : Nat, (a[i]?).getD 0 = (b[i]?).getD 0) : a = b := by
  refine List.ext_getElem? fun i => ?_
  have := hg i
  by_cases q : i < a.length
  · rw [List.getElem?_eq_getElem q, List.getElem?_eq_getElem (show i < b.length by lia)] at this ⊢
    exact congrArg some this
  · rw [List.getElem?_eq_none (by lia), List.getElem?_eq_none (by lia)]
theorem cnt_perm {rs rs' : List Nat} : cntOf rs = cntOf rs' ↔ rs.Perm rs' := by
  constructor
  · intro h
    refine List.perm_iff_count.mpr fun i => ?_
    rw [← cnt_get rs i, h, cnt_get]
  · intro h
    refine ext_getD ?_ fun i => ?_
    · rw [cnt_len, cnt_len]; exact mx_perm fun k => h.mem_iff
    · rw [cnt_get, cnt_get]; exact List.perm_iff_count.mp h i

theorem ws_rep : ∀ (k : Nat) (l cnt : List Nat) (b n nt : Nat), wsGo (List.replicate k 32 ++ l) cnt b n nt = wsGo l cnt (b + k) (n + k) nt
  | 0, l, cnt, b, n, nt => rfl
  | k + 1, l, cnt, b, n, nt => by
    rw [List.replicate_succ, List.cons_append, wsGo, if_pos rfl, ws_rep k l]
    congr 1 <;> omega
theorem ws_word : ∀ (rs : List Nat) (r : Nat) (cnt : List Nat) (n nt : Nat), wsGo (word rs r) cnt 0 n nt = (rs.foldl wsTab cnt, r, n + (rs.sum + rs.length + r), nt + rs.length)
  | [], r, cnt, n, nt => by
    have := ws_rep r [] cnt 0 n nt
    rw [List.append_nil] at this
    rw [word, this, wsGo]
    simp
  | k :: rs, r, cnt, n, nt => by
    rw [word, ws_rep, wsGo, if_neg (by decide), if_pos rfl, ws_word rs r, List.foldl_cons]
    simp only [List.sum_cons, List.length_cons, Nat.zero_add, Prod.mk.injEq, true_and]
    lia
theorem wsOf_word (rs : List Nat) (r : Nat) : wsOf (word rs r) = ⟨cntOf rs, r, rs.sum + rs.length + r, rs.length⟩ := by
  unfold wsOf
  rw [ws_word]
  simp only [Nat.zero_add]; rfl
theorem long_word (rs : List Nat) (r : Nat) : (wsOf (word rs r)).long = max (mxN rs) r := by
  rw [wsOf_word]
  unfold Ws.long longP
  dsimp only
  rw [cnt_len, mxN_eq]

theorem col_rep (ts : Nat) : ∀ (k : Nat) (l : List Nat) (c : Nat), colGo ts (List.replicate k 32 ++ l) c = colGo ts l (c + k)
  | 0, l, c => rfl
  | k + 1, l, c => by
    rw [List.replicate_succ, List.cons_append, colGo, if_pos rfl, col_rep ts k l]
    congr 1; lia
/-- the column by the runs -/
noncomputable def colR (ts : Nat) : List Nat → Nat → Nat
  | [], r => r
  | k :: rs, r => (k / ts + 1) * ts + colR ts rs r
theorem col_word (ts : Nat) (hts : 0 < ts) : ∀ (rs : List Nat) (r m : Nat), colGo ts (word rs r) (m * ts) = m * ts + colR ts rs r
  | [], r, m => by
    have := col_rep ts r [] (m * ts)
    rw [List.append_nil] at this
    rw [word, this, colGo, colR]
  | k :: rs, r, m => by
    rw [word, col_rep, colGo, if_neg (by decide)]
    have h1 := Nat.div_add_mod k ts
    have h2 := Nat.mod_lt k hts
    have h3 : (m * ts + k) % ts = k % ts := by rw [Nat.mul_comm, Nat.mul_add_mod]
    have e : m * ts + k + (ts - (m * ts + k) % ts) = (m + (k / ts + 1)) * ts := by
      rw [h3, Nat.add_mul, Nat.add_mul, Nat.one_mul, Nat.mul_comm (k / ts) ts]; grind
    rw [e, col_word ts hts rs r, colR, Nat.add_mul]; grind
theorem colP_word {ts : Nat} (hts : 0 < ts) (rs : List Nat) (r : Nat) : colP (word rs r) ts = colR ts rs r := by
  have := col_word ts hts rs r 0
  rw [Nat.zero_mul, Nat.zero_add] at this
  exact this
theorem colR_one : ∀ (rs : List Nat) (r : Nat), colR 1 rs r = rs.sum + rs.length + r
  | [], r => by simp [colR]
  | k :: rs, r => by rw [colR, colR_one rs r, Nat.div_one]; simp; grind
theorem colR_big {ts : Nat} : ∀ (rs : List Nat) (r : Nat), (∀ k ∈ rs, k < ts) → colR ts rs r = rs.length * ts + r
  | [], r, _ => by simp [colR]
  | k :: rs, r, h => by
    rw [colR, colR_big rs r fun j hj => h j (List.mem_cons_of_mem _ hj), Nat.div_eq_of_lt (h k (List.mem_cons_self ..)), List.length_cons, Nat.add_mul, Nat.add_mul]
    grind
end Mine
end
section
set_option maxRecDepth 100000
set_option backward.match.sparseCases false
namespace Mine
open PySem PySem.W PyProof.Rows

theorem allP_iff (p : Nat → Nat → Bool) (x y : Ws) : ∀ (k i : Nat), allP p x y i k = true ↔ ∀ j, i ≤ j → j < i + k → p (x.ind j) (y.ind j) = false
  | 0, i => ⟨fun _ j h1 h2 => by lia, fun _ => rfl⟩
  | k + 1, i => by
    rw [allP, Bool.and_eq_true, allP_iff p x y k (i + 1)]
    constructor
    · rintro ⟨h1, h2⟩ j h3 h4
      by_cases q : j = i
      · subst q; simpa using h1
      · exact h2 j (by lia) (by lia)
    · intro h
      exact ⟨by simpa using h i (Nat.le_refl _) (by lia), fun j h3 h4 => h j (by lia) (by grind)⟩
/-- the sizes that speak against less -/
noncomputable def against (x y : Ws) : List Nat := (List.range' 1 (topP x y)).filter fun j => geP (x.ind j) (y.ind j)
theorem against_iff (x y : Ws) : (against x y).isEmpty = true ↔ ∀ j, 1 ≤ j → j ≤ topP x y → x.ind j < y.ind j := by
  unfold against
  rw [List.isEmpty_iff, List.filter_eq_nil_iff]
  constructor
  · intro h j h1 h2
    have := h j (List.mem_range'_1.mpr ⟨h1, by lia⟩)
    unfold geP at this
    simpa using this
  · intro h j hj
    have hj := List.mem_range'_1.mp hj
    have := h j hj.1 (by grind)
    unfold geP
    simpa using this
theorem ind_word {ts : Nat} (hts : 0 < ts) (rs : List Nat) (r : Nat) : (wsOf (word rs r)).ind ts = colR ts rs r := by
  rw [ind_col (lead_word rs r) hts, colP_word hts]
theorem less_word (rs rs' : List Nat) (r r' : Nat) : lessP (wsOf (word rs r)) (wsOf (word rs' r')) = (against (wsOf (word rs r)) (wsOf (word rs' r'))).isEmpty := by
  have tp : topP (wsOf (word rs r)) (wsOf (word rs' r')) = max (max (mxN rs) r) (max (mxN rs') r') + 1 := by
    unfold topP; rw [long_word, long_word]
  rw [Bool.eq_iff_iff, against_iff]
  unfold lessP
  have e1 : (wsOf (word rs r)).n = colR 1 rs r := by rw [wsOf_word, colR_one]
  have e2 : (wsOf (word rs' r')).n = colR 1 rs' r' := by rw [wsOf_word, colR_one]
  have i1 := fun j (h : 0 < j) => ind_word h rs r
  have i2 := fun j (h : 0 < j) => ind_word h rs' r'
  by_cases h1 : (wsOf (word rs r)).n ≥ (wsOf (word rs' r')).n
  · rw [if_pos h1]
    constructor
    · intro h; cases h
    · intro h
      have := h 1 (Nat.le_refl _) (by lia)
      rw [i1 1 (by decide), i2 1 (by decide)] at this
      grind
  · rw [if_neg h1]
    by_cases h2 : (wsOf (word rs r)).c.length ≤ 1 ∧ (wsOf (word rs' r')).c.length ≤ 1
    · rw [if_pos h2]
      have hz : ∀ {l : List Nat} {q : Nat}, (wsOf (word l q)).c.length ≤ 1 → (∀ k ∈ l, k < 1) := by
        intro l q h
        rw [wsOf_word, cnt_len] at h
        exact mx_lt.mp h
      have z1 := hz h2.1
      have z2 := hz h2.2
      have c1 : ∀ j, 0 < j → colR j rs r = rs.length * j + r := fun j hj => colR_big rs r fun k hk => Nat.lt_of_lt_of_le (z1 k hk) hj
      have c2 : ∀ j, 0 < j → colR j rs' r' = rs'.length * j + r' := fun j hj => colR_big rs' r' fun k hk => Nat.lt_of_lt_of_le (z2 k hk) hj
      rw [e1, e2, c1 1 (by decide), c2 1 (by decide)] at h1
      have t1 : (wsOf (word rs r)).t = rs.length := by rw [wsOf_word]
      have t2 : (wsOf (word rs' r')).t = rs'.length := by rw [wsOf_word]
      rw [decide_eq_true_iff, t1, t2]
      constructor
      · intro h j hj _
        rw [i1 j hj, i2 j hj, c1 j hj, c2 j hj]
        obtain ⟨i, rfl⟩ : ∃ i, j = i + 1 := ⟨j - 1, by lia⟩
        rw [Nat.mul_add, Nat.mul_add]
        have := Nat.mul_le_mul_right i h
        grind
      · intro h
        have h := h (topP (wsOf (word rs r)) (wsOf (word rs' r'))) (by lia) (Nat.le_refl _)
        have hp : 0 < topP (wsOf (word rs r)) (wsOf (word rs' r')) := by omega
        rw [i1 _ hp, i2 _ hp, c1 _ hp, c2 _ hp] at h
        rcases Nat.lt_or_ge rs'.length rs.length with q | q
        · have := Nat.mul_le_mul_right (topP (wsOf (word rs r)) (wsOf (word rs' r'))) (show rs'.length + 1 ≤ rs.length from q)
          rw [Nat.add_mul, Nat.one_mul] at this
          grind
        · exact q
    · rw [if_neg h2, allP_iff]
      constructor
      · intro h j h3 h4
        by_cases q : j = 1
        · subst q
          rw [i1 1 (by decide), i2 1 (by decide), ← e1, ← e2]; lia
        · have := h j (by lia) (by grind)
          unfold geP at this
          simpa using this
      · intro h j h3 h4
        have := h j (by lia) (by grind)
        unfold geP
        simpa using this
theorem less_lead {a b : List Nat} (ha : Lead a) (hb : Lead b) : lessP (wsOf a) (wsOf b) = (against (wsOf a) (wsOf b)).isEmpty := by
  rw [← word_unw ha, ← word_unw hb]; exact less_word _ _ _ _
/-- the longest run of blanks, told by the split -/
theorem long_lead {a : List Nat} (ha : Lead a) : (wsOf a).long = max (mxN (unw a).1) (unw a).2 := by
  have := long_word (unw a).1 (unw a).2
  rwa [word_unw ha] at this
theorem mxN_app : ∀ (a b : List Nat), mxN (a ++ b) = max (mxN a) (mxN b)
  | [], b => by rw [mxN]; simp
  | k :: a, b => by rw [List.cons_append, mxN, mxN, mxN_app a b]; grind
theorem splen_word (rs : List Nat) (r : Nat) : (spl (word rs r)).map List.length = rs ++ [r] := by
  rw [spl_word, List.map_append, List.map_map, show (List.length ∘ fun k => List.replicate k 32) = id from funext fun k => List.length_replicate, List.map_id]
  simp
theorem splen_top {a b : List Nat} (ha : Lead a) (hb : Lead b) : 1 + mxN ((spl (a ++ 9 :: b)).map List.length) = topP (wsOf a) (wsOf b) := by
  have h := word_app (unw a).1 (unw b).1 (unw a).2 (unw b).2
  rw [word_unw ha, word_unw hb] at h
  rw [h, splen_word]
  unfold topP
  rw [long_lead ha, long_lead hb, mxN_app, mxN_app, mxN, mxN, mxN]
  grind
/-- equal norms: the same runs in any order and the same blanks behind -/
theorem eq_word (rs rs' : List Nat) (r r' : Nat) : ((wsOf (word rs r)).c == (wsOf (word rs' r')).c && (wsOf (word rs r)).b == (wsOf (word rs' r')).b) = true ↔ rs.Perm rs' ∧ r = r' := by
  rw [wsOf_word, wsOf_word, Bool.and_eq_true, beq_iff_eq, beq_iff_eq]
  dsimp only
  rw [cnt_perm]
end Mine
end
section
set_option maxRecDepth 100000
set_option backward.match.sparseCases false
namespace Mine
open PySem PySem.W PyProof.Rows

section
variable {F : Nat → List V → Option V} {ρ : List V} {fuel : Nat}
theorem runF_ret {np ns : Nat} {b : S} {args : List V} {v : V} (hl : args.length = np) (h : ex F fuel b (args ++ List.replicate (ns - np) .undef) = some (.ret v)) : runF F fuel np ns b args = some v := by
  unfold runF; rw [if_pos hl, h]; rfl
theorem joinL_nil : ∀ (ps : List (List Nat)), joinL [] ps = ps.flatten
  | [] => rfl
  | [p] => by rw [joinL]; simp
  | p :: q :: r => by
    rw [joinL]
    · rw [joinL_nil (q :: r)]; simp
    · simp
theorem word_flat : ∀ (rs : List Nat) (r : Nat), word rs r = (rs.map fun k => List.replicate k 32 ++ [9]).flatten ++ List.replicate r 32
  | [], r => rfl
  | k :: rs, r => by
    rw [word, List.map_cons, List.flatten_cons, word_flat rs r]
    simp
theorem join_ev {s a : X} {ps : List (List Nat)} (h0 : ev F ρ s = some (.str [])) (h1 : ev F ρ a = some (.list (ps.map V.str))) (hl : ps.flatten.length ≤ 1000000) : ev F ρ (.sm .join s (.cons a .nil)) = some (.str ps.flatten) := by
  rw [ev_q16, h0, Option.bind_some, evs1 h1, Option.bind_some]
  show (toStrs (ps.map V.str)).bind _ = _
  rw [toStrs_map, Option.bind_some, if_pos, joinL_nil]
  have e : ps.map (fun x => x.length + ([] : List Nat).length) = ps.map List.length := by simp
  rw [e, ← List.length_flatten]
  exact lim_le hl

theorem flat_len : ∀ (rs : List Nat), (∀ k ∈ rs, k ≤ 100) → (rs.map fun k => List.replicate k 32 ++ [9]).flatten.length ≤ rs.length * 101
  | [], _ => by simp
  | k :: rs, h => by
    have := flat_len rs fun j hj => h j (List.mem_cons_of_mem _ hj)
    have := h k (List.mem_cons_self ..)
    rw [List.map_cons, List.flatten_cons, List.length_append, List.length_cons, Nat.add_mul]
    simp only [List.length_append, List.length_replicate, List.length_cons, List.length_nil]
    lia
theorem word_ok {rs : List Nat} {r : Nat} (hl : rs.length ≤ 100) (hk : ∀ k ∈ rs, k ≤ 100) (hr : r ≤ 100) : runF F fuel 2 2 L1.b_law_word [.list (nts rs), .int r] = some (.str (word rs r)) := by
  have fl := flat_len rs hk
  refine runF_ret rfl ?_
  show ex F fuel L1.b_law_word [.list (nts rs), .int r] = _
  unfold L1.b_law_word
  refine seq_ret (ret_ex ?_)
  rw [word_flat]
  refine cat_s (join_ev rfl ?_ (by grind)) (rep_s rfl rfl (by lia)) (by rw [List.length_replicate]; lia)
  have := comp_map (F := F) (ρ := [.list (nts rs), .int r]) (l := rs) (g := fun (k : Nat) => V.int k) (f := fun k => V.str (List.replicate k 32 ++ [9])) (e := .bin .Add (.bin .Mult (.k (.str [32])) (.v 2)) (.k (.str [9]))) (it := .v 0) (tgt := 2) (x := .list (nts rs)) rfl
    (items_list (by rw [List.length_map]; exact lim_le (by lia))) (fun k hk' => cat_s (rep_s rfl rfl (by have := hk k hk'; lia)) rfl (by have := hk k hk'; simp; grind))
  rw [this, List.map_map]; rfl

noncomputable def ordB : S := (.seq (.asg 5 (.bin .Mod (.v 1) (.bi .len (.cons (.v 3) .nil)))) (.seq (.asg 1 (.bin .FloorDiv (.v 1) (.bi .len (.cons (.v 3) .nil)))) (.seq (.app 2 (.item (.v 3) (.v 5))) (.seq (.asg 3 (.bin .Add (.sl (.v 3) .non (.v 5) .non) (.sl (.v 3) (.bin .Add (.v 5) (.k (.int 1))) .non .non))) .skip))))
theorem to_l {x i : X} {l : List V} {p : Nat} (h0 : ev F ρ x = some (.list l)) (h1 : ev F ρ i = some (.int p)) (hl : l.length ≤ 1000000) : ev F ρ (.sl x .non i .non) = some (.list (l.take p)) := by
  simp only [ev_q19, ev_q20]
  rw [h0, h1]
  show (if l.length ≤ lim ∧ (none : Option Int) ≠ some 0 then some (V.list (pick l none (some (p : Int)) none)) else none) = _
  rw [if_pos ⟨lim_le hl, by simp⟩, pick_to]
theorem from_l {x i : X} {l : List V} {p : Nat} (h0 : ev F ρ x = some (.list l)) (h1 : ev F ρ i = some (.int p)) (hl : l.length ≤ 1000000) : ev F ρ (.sl x i .non .non) = some (.list (l.drop p)) := by
  simp only [ev_q19, ev_q20]
  rw [h0, h1]
  show (if l.length ≤ lim ∧ (none : Option Int) ≠ some 0 then some (V.list (pick l (some (p : Int)) none none)) else none) = _
  rw [if_pos ⟨lim_le hl, by simp⟩, pick_from]
theorem to_s {x i : X} {l : List Nat} {p : Nat} (h0 : ev F ρ x = some (.str l)) (h1 : ev F ρ i = some (.int p)) (hl : l.length ≤ 1000000) : ev F ρ (.sl x .non i .non) = some (.str (l.take p)) := by
  simp only [ev_q19, ev_q20]
  rw [h0, h1]
  show (if l.length ≤ lim then some (V.str (pick l none (some (p : Int)) none)) else none) = _
  rw [if_pos (lim_le hl), pick_to]
theorem from_s {x i : X} {l : List Nat} {p : Nat} (h0 : ev F ρ x = some (.str l)) (h1 : ev F ρ i = some (.int p)) (hl : l.length ≤ 1000000) : ev F ρ (.sl x i .non .non) = some (.str (l.drop p)) := from_ev h0 h1 (lim_le hl)
theorem app_ex {i : Nat} {e : X} {l : List V} {y : V} (h0 : getV ρ i = some (.list l)) (h1 : ev F ρ e = some y) (hl : l.length ≤ 1000000) : ex F fuel (.app i e) ρ = some (.next (ρ.set i (.list (l ++ [y])))) := by
  rw [ex_q8, h0, Option.bind_some, h1, Option.bind_some]
  have : l.length < lim := by show l.length < 1048576; omega
  dsimp only
  rw [if_pos this]

theorem ord_loop {r0 : V} : ∀ (left : List Nat) (i num : Nat) (row : List Nat) (u4 u5 : V), left.length ≤ 100 → row.length + left.length ≤ 100 → ∀ k, left.length = k →
    ∃ (row' : List Nat) (u1 u3 u4' u5' : V), forGo (ex F fuel ordB) 4 ((List.range' i k).map fun (i : Nat) => V.int i) [r0, .int num, .list (nts row), .list (nts left), u4, u5] = some (.next [r0, u1, .list (nts row'), u3, u4', u5']) ∧ row'.Perm (row ++ left)
  | left, i, num, row, u4, u5, hl, hrl, 0, hk => by
    rw [List.length_eq_zero_iff] at hk
    subst hk
    exact ⟨row, _, _, _, _, rfl, by rw [List.append_nil]⟩
  | left, i, num, row, u4, u5, hl, hrl, k + 1, hk => by
    have hpos : 0 < left.length := by grind
    have hp : num % left.length < left.length := Nat.mod_lt _ hpos
    have ln : ∀ {ρ : List V}, ev F ρ (.v 3) = some (.list (nts left)) → ev F ρ (.bi .len (.cons (.v 3) .nil)) = some (.int left.length) := by
      intro ρ h
      have := len_l h (by rw [List.length_map]; lia)
      rwa [List.length_map] at this
    generalize hq : num % left.length = p at hp
    have hg : left[p]? = some left[p] := List.getElem?_eq_getElem hp
    have st : ex F fuel ordB [r0, .int num, .list (nts row), .list (nts left), .int i, u5] = some (.next [r0, .int ((num / left.length : Nat)), .list (nts (row ++ [left[p]])), .list (nts (left.take p ++ left.drop (p + 1))), .int i, .int p]) := by
      unfold ordB
      rw [seq_ex (ρ' := [r0, .int num, .list (nts row), .list (nts left), .int i, .int p]) (by
        rw [asg_ex (mod_n (x := num) rfl (ln rfl) hpos), hq]; rfl)]
      rw [seq_ex (ρ' := [r0, .int ((num / left.length : Nat)), .list (nts row), .list (nts left), .int i, .int p]) (by
        rw [asg_ex (div_n (x := num) rfl (ln rfl) hpos (by omega))]; rfl)]
      rw [seq_ex (ρ' := [r0, .int ((num / left.length : Nat)), .list (nts (row ++ [left[p]])), .list (nts left), .int i, .int p]) (by
        rw [app_ex (l := nts row) (y := .int left[p]) rfl (item_list (l := nts left) (k := p) rfl rfl (by grind) (by rw [List.getElem?_map, hg]; rfl)) (by rw [List.length_map]; lia)]
        unfold nts; rw [List.map_append]; rfl)]
      rw [seq_ex (ρ' := [r0, .int ((num / left.length : Nat)), .list (nts (row ++ [left[p]])), .list (nts (left.take p ++ left.drop (p + 1))), .int i, .int p]) (by
        rw [asg_ex (cat_l (to_l (l := nts left) (p := p) rfl rfl (by rw [List.length_map]; lia)) (from_l (l := nts left) (p := p + 1) rfl (add_n (x := p) (y := 1) rfl rfl) (by rw [List.length_map]; lia)) (by simp; grind))]
        have e : nts (left.take p ++ left.drop (p + 1)) = (nts left).take p ++ (nts left).drop (p + 1) := by unfold nts; rw [List.map_append, List.map_take, List.map_drop]
        rw [e]; rfl)]
      exact skip_ex
    have hset : ([r0, .int num, .list (nts row), .list (nts left), u4, u5] : List V).set 4 (.int i) = [r0, .int num, .list (nts row), .list (nts left), .int i, u5] := rfl
    have hlen : (left.take p ++ left.drop (p + 1)).length = k := by
      rw [List.length_append, List.length_take, List.length_drop]; grind
    rw [range_cons, forGo_q2, hset, st, Option.bind_some]
    obtain ⟨row', u1, u3, u4', u5', e, hperm⟩ := ord_loop (r0 := r0) (left.take p ++ left.drop (p + 1)) (i + 1) (num / left.length) (row ++ [left[p]]) (.int i) (.int p) (by lia) (by rw [hlen]; simp; lia) k hlen
    refine ⟨row', u1, u3, u4', u5', e, hperm.trans ?_⟩
    rw [List.append_assoc]
    refine List.Perm.append_left row ?_
    have h1 : left = left.take p ++ left[p] :: left.drop (p + 1) := by
      rw [List.getElem_cons_drop, List.take_append_drop]
    conv => rhs; rw [h1]
    exact (List.perm_middle (l₁ := left.take p) (a := left[p]) (l₂ := left.drop (p + 1))).symm

theorem order_ok {rs : List Nat} {num : Nat} (hl : rs.length ≤ 100) : ∃ row : List Nat, runF F fuel 2 6 L1.b_law_order [.list (nts rs), .int num] = some (.list (nts row)) ∧ row.Perm rs := by
  obtain ⟨row', u1, u3, u4', u5', e, hp⟩ := ord_loop (F := F) (fuel := fuel) (r0 := .list (nts rs)) rs 0 num [] .undef .undef hl (by simpa using hl) rs.length rfl
  refine ⟨row', runF_ret rfl ?_, by simpa using hp⟩
  show ex F fuel L1.b_law_order [.list (nts rs), .int num, .undef, .undef, .undef, .undef] = _
  unfold L1.b_law_order
  rw [seq_ex (ρ' := [.list (nts rs), .int num, .list (nts []), .undef, .undef, .undef]) rfl]
  rw [seq_ex (ρ' := [.list (nts rs), .int num, .list (nts []), .list (nts rs), .undef, .undef]) rfl]
  have ln : ev F [.list (nts rs), .int num, .list (nts []), .list (nts rs), .undef, .undef] (.bi .len (.cons (.v 0) .nil)) = some (.int rs.length) := by
    have := len_l (F := F) (ρ := [.list (nts rs), .int num, .list (nts []), .list (nts rs), .undef, .undef]) (a := .v 0) (x := nts rs) rfl (by rw [List.length_map]; lia)
    rwa [List.length_map] at this
  have rg : ev F [.list (nts rs), .int num, .list (nts []), .list (nts rs), .undef, .undef] (.bi .range1 (.cons (.bi .len (.cons (.v 0) .nil)) .nil)) = some (.range 0 rs.length 1) := by
    rw [bi_ev' (evs1 ln)]; rfl
  rw [seq_ex (by rw [for_ex rg (range_items (by grind)), List.range_eq_range']; exact e)]
  rfl
end
end Mine
end
section
set_option maxRecDepth 100000
set_option backward.match.sparseCases false
namespace Mine
open PySem PySem.W PyProof.Rows

theorem stroke_ed {a b : List Nat} (h : Stroke a b) : ed a b ≤ 1 := by
  have := ed_stroke h b
  rwa [ed_self] at this
theorem cut_at {l : List Nat} {p : Nat} (hp : p < l.length) : l = l.take p ++ l[p] :: l.drop (p + 1) := by
  rw [List.getElem_cons_drop, List.take_append_drop]
theorem ed_one_iff {a b : List Nat} : ed a b = 1 ↔ a ≠ b ∧ Stroke a b := by
  constructor
  · intro h
    refine ⟨fun e => ?_, ?_⟩
    · rw [e, ed_self] at h; cases h
    · have r := ed_iff.mp (Nat.le_of_eq h)
      cases r with
      | refl => rw [ed_self] at h; cases h
      | step s r =>
        cases r
        exact s
  · rintro ⟨h1, h2⟩
    have := stroke_ed h2
    have : ed a b ≠ 0 := fun e => h1 (ed_zero e)
    grind

noncomputable def ham : List Nat → List Nat → Nat
  | x :: a, y :: b => (if x = y then 0 else 1) + ham a b
  | _, _ => 0
theorem ham_self : ∀ a, ham a a = 0
  | [] => rfl
  | x :: a => by rw [ham, if_pos rfl, ham_self a]
theorem ham_zero : ∀ {a b : List Nat}, a.length = b.length → ham a b = 0 → a = b
  | [], [], _, _ => rfl
  | x :: a, y :: b, hl, h => by
    rw [ham] at h
    by_cases q : x = y
    · have ih := ham_zero (a := a) (b := b) (by simpa using hl) (by rw [if_pos q] at h; grind)
      rw [q, ih]
    · rw [if_neg q] at h; grind
  | [], y :: b, hl, _ => by simp at hl
  | x :: a, [], hl, _ => by simp at hl
theorem ham_stroke : ∀ {a b : List Nat}, a.length = b.length → ham a b = 1 → Stroke a b
  | [], [], _, h => by cases h
  | x :: a, y :: b, hl, h => by
    rw [ham] at h
    by_cases q : x = y
    · subst q
      rw [if_pos rfl, Nat.zero_add] at h
      exact (ham_stroke (by simpa using hl) h).cons x
    · rw [if_neg q] at h
      obtain rfl := ham_zero (by simpa using hl) (show ham a b = 0 by lia)
      exact Stroke.sub [] a x y
  | [], y :: b, hl, _ => by simp at hl
  | x :: a, [], hl, _ => by simp at hl
theorem ham_sub : ∀ (p s : List Nat) (c d : Nat), ham (p ++ c :: s) (p ++ d :: s) ≤ 1
  | [], s, c, d => by rw [List.nil_append, List.nil_append, ham, ham_self]; split <;> grind
  | x :: p, s, c, d => by
    rw [List.cons_append, List.cons_append, ham, if_pos rfl]
    have := ham_sub p s c d
    omega
theorem ham_iff {a b : List Nat} (hl : a.length = b.length) : ham a b = 1 ↔ ed a b = 1 := by
  rw [ed_one_iff]
  constructor
  · intro h
    refine ⟨fun e => ?_, ham_stroke hl h⟩
    rw [e, ham_self] at h; cases h
  · rintro ⟨h1, h2⟩
    have h0 : ham a b ≠ 0 := fun e => h1 (ham_zero hl e)
    cases h2 with
    | ins p s c => simp at hl
    | del p s c => simp at hl
    | sub p s c d => have := ham_sub p s c d; lia
theorem ham_filter : ∀ (a b : List Nat), a.length = b.length → ((List.range a.length).filter fun k => !((a[k]?).getD 0 == (b[k]?).getD 0)).length = ham a b
  | [], [], _ => rfl
  | x :: a, y :: b, hl => by
    have ih := ham_filter a b (by simpa using hl)
    rw [List.length_cons, List.range_succ_eq_map, List.filter_cons, List.filter_map, ham, ← ih]
    by_cases q : x = y
    · subst q
      simp; rfl
    · simp [q, Nat.add_comm]; rfl
  | [], y :: b, hl => by simp at hl
  | x :: a, [], hl => by simp at hl
theorem cut_iff {a b : List Nat} (hl : a.length < b.length) : (∃ k, k < b.length ∧ b.take k ++ b.drop (k + 1) = a) ↔ ed a b = 1 := by
  rw [ed_one_iff]
  constructor
  · rintro ⟨k, hk, rfl⟩
    refine ⟨fun e => by rw [e] at hl; grind, ?_⟩
    have h := cut_at hk
    have s := Stroke.ins (b.take k) (b.drop (k + 1)) b[k]
    rwa [← h] at s
  · rintro ⟨_, h2⟩
    cases h2 with
    | ins p s c => exact ⟨p.length, by simp, by simp⟩
    | del p s c => simp at hl; lia
    | sub p s c d => simp at hl

section
variable {F : Nat → List V → Option V} {ρ : List V} {fuel : Nat}
theorem len_s {x : X} {l : List Nat} (h : ev F ρ x = some (.str l)) (hl : l.length ≤ 1000) : ev F ρ (.bi .len (.cons x .nil)) = some (.int l.length) := len_ev h (by lia)
theorem ne_chars (c d : Nat) : cmpop .NotEq (.str [c]) (.str [d]) = some (!(c == d)) := by
  unfold cmpop
  simp only [okV, Bool.and_self, if_true, veq]
  congr 2
  simp
theorem eq_strs (a b : List Nat) : cmpop .Eq (.str a) (.str b) = some (a == b) := rfl
theorem ne_strs (a b : List Nat) : cmpop .NotEq (.str a) (.str b) = some (!(a == b)) := rfl
theorem in_strs {α : Type} (s : List Nat) (l : List α) (f : α → List Nat) : cmpop .In (.str s) (.list (l.map fun i => V.str (f i))) = some (l.any fun i => f i == s) := by
  show (if (okV 4 (.str s) && okV 5 (.list (l.map fun i => V.str (f i)))) = true then some ((l.map fun i => V.str (f i)).any fun y => veq 4 y (.str s)) else none) = _
  have h : okV 5 (.list (l.map fun i => V.str (f i))) = true := by
    rw [okV, List.all_eq_true]
    intro x hx
    obtain ⟨i, _, rfl⟩ := List.mem_map.mp hx
    rfl
  rw [h, List.any_map]
  rfl

theorem one_ok {a b : List Nat} (ha : a.length ≤ 1000) (hb : b.length ≤ 1000) : runF F fuel 2 4 L1.b_law_one_stroke [.str a, .str b] = some (.bool (decide (ed a b = 1))) := by
  refine runF_ret rfl ?_
  show ex F fuel L1.b_law_one_stroke [.str a, .str b, .undef, .undef] = _
  unfold L1.b_law_one_stroke
  have tl : tst F [.str a, .str b, .undef, .undef] (.cmp .Eq (.bi .len (.cons (.v 0) .nil)) (.bi .len (.cons (.v 1) .nil))) = some (a.length == b.length) := cmp_t' (len_s rfl ha) (len_s rfl hb) (eq_n _ _)
  by_cases hl : a.length = b.length
  · rw [hl, beq_self_eq_true] at tl
    refine seq_ret ?_
    rw [iff_t tl]
    refine seq_ret (ret_ex ?_)
    have hc := comp_filter (F := F) (ρ := [.str a, .str b, .undef, .undef]) (l := List.range a.length) (g := fun (k : Nat) => V.int k) (f := fun k => V.int k) (p := fun k => !((a[k]?).getD 0 == (b[k]?).getD 0)) (e := .v 4) (it := .bi .range1 (.cons (.bi .len (.cons (.v 0) .nil)) .nil)) (tgt := 4) (c := .cmp .NotEq (.item (.v 0) (.v 4)) (.item (.v 1) (.v 4))) (x := .range 0 a.length 1)
      (range_len rfl (by grind)) (range_items (by lia)) (fun k hk => by
        rw [List.mem_range] at hk
        have g0 : a[k]? = some a[k] := List.getElem?_eq_getElem hk
        have g1 : b[k]? = some (b[k]'(by lia)) := List.getElem?_eq_getElem _
        rw [g0, g1]
        exact cmp_t' (item_s (k := k) rfl rfl (by lia) g0) (item_s (k := k) rfl rfl (by lia) g1) (ne_chars _ _)) (fun k _ _ => rfl)
    have hlen := len_l hc (by
      rw [List.length_map]
      have := List.length_filter_le (fun k => !((a[k]?).getD 0 == (b[k]?).getD 0)) (List.range a.length)
      rw [List.length_range] at this; lia)
    refine cmp_ev hlen (y := .int ((1 : Nat) : Int)) rfl ?_
    rw [eq_n, List.length_map, ham_filter a b hl]
    congr 1
    have := ham_iff hl
    by_cases q : ham a b = 1
    · rw [q, decide_eq_true (this.mp q)]; rfl
    · rw [decide_eq_false fun e => q (this.mpr e), beq_eq_false_iff_ne.mpr q]
  · rw [beq_eq_false_iff_ne.mpr hl] at tl
    rw [seq_ex (by rw [iff_f tl]; exact skip_ex)]
    have key : ∀ (s l : List Nat), s.length < l.length → l.length ≤ 1000 → ev F [.str a, .str b, .str s, .str l] (.cmp .In (.v 2) (.comp (.bin .Add (.sl (.v 3) .non (.v 4) .non) (.sl (.v 3) (.bin .Add (.v 4) (.k (.int 1))) .non .non)) 4 false (.bi .range1 (.cons (.bi .len (.cons (.v 3) .nil)) .nil)) .yes)) = some (.bool (decide (ed s l = 1))) := by
      intro s l hsl hll
      have hc := comp_map (F := F) (ρ := [.str a, .str b, .str s, .str l]) (l := List.range l.length) (g := fun (k : Nat) => V.int k) (f := fun k => V.str (l.take k ++ l.drop (k + 1))) (e := .bin .Add (.sl (.v 3) .non (.v 4) .non) (.sl (.v 3) (.bin .Add (.v 4) (.k (.int 1))) .non .non)) (it := .bi .range1 (.cons (.bi .len (.cons (.v 3) .nil)) .nil)) (tgt := 4) (x := .range 0 l.length 1)
        (range_len rfl (by lia)) (range_items (by lia)) (fun k hk => cat_s (to_s (p := k) rfl rfl (by lia)) (from_s (p := k + 1) rfl (add_n (x := k) (y := 1) rfl rfl) (by lia)) (by simp; grind))
      refine cmp_ev rfl hc ?_
      rw [in_strs]
      congr 1
      have := cut_iff hsl
      rw [Bool.eq_iff_iff, List.any_eq_true, decide_eq_true_iff, ← this]
      constructor
      · rintro ⟨k, h1, h2⟩
        exact ⟨k, List.mem_range.mp h1, by simpa using h2⟩
      · rintro ⟨k, h1, h2⟩
        exact ⟨k, List.mem_range.mpr h1, by simpa using h2⟩
    have tlt : tst F [.str a, .str b, .undef, .undef] (.cmp .Lt (.bi .len (.cons (.v 0) .nil)) (.bi .len (.cons (.v 1) .nil))) = some (decide (a.length < b.length)) := cmp_t' (len_s rfl ha) (len_s rfl hb) (lt_n _ _)
    by_cases q : a.length < b.length
    · rw [decide_eq_true q] at tlt
      rw [seq_ex (ρ' := [.str a, .str b, .str a, .str b]) (by
        rw [ex_q6, ite_t (z := .tup [.str a, .str b]) tlt rfl]; rfl)]
      exact seq_ret (ret_ex (key a b q hb))
    · rw [decide_eq_false q] at tlt
      rw [seq_ex (ρ' := [.str a, .str b, .str b, .str a]) (by
        rw [ex_q6, ite_f (z := .tup [.str b, .str a]) tlt rfl]; rfl)]
      rw [ed_comm]
      exact seq_ret (ret_ex (key b a (by lia) ha))
end
end Mine
end
section
set_option maxRecDepth 100000
set_option backward.match.sparseCases false
namespace Mine
open PySem PySem.W PyProof.Rows

section
variable {F : Nat → List V → Option V} {ρ : List V} {fuel : Nat}

theorem lead_take {l : List Nat} (h : Lead l) (k : Nat) : Lead (l.take k) := fun c hc => h c (List.mem_of_mem_take hc)
theorem lead_drop {l : List Nat} (h : Lead l) (k : Nat) : Lead (l.drop k) := fun c hc => h c (List.mem_of_mem_drop hc)
theorem lead_one {c : Nat} (h : c = 32 ∨ c = 9) : Lead [c] := fun x hx => by
  rw [List.mem_singleton] at hx; rw [hx]; exact h

theorem stroke_ok {lead : List Nat} {n : Nat} (hL : Lead lead) (hl : lead.length ≤ 100) : ∃ l' : List Nat, runF F fuel 2 4 L1.b_law_stroke [.str lead, .int n] = some (.str l') ∧ Lead l' ∧ ed lead l' ≤ 1 ∧ l'.length ≤ lead.length + 1 := by
  have R : ∀ {l' : List Nat}, ex F fuel L1.b_law_stroke [.str lead, .int n, .undef, .undef] = some (.ret (.str l')) → runF F fuel 2 4 L1.b_law_stroke [.str lead, .int n] = some (.str l') := fun h => runF_ret rfl h
  obtain ⟨sg, hs, es⟩ : ∃ sg, (sg = 32 ∨ sg = 9) ∧ ev F [.str lead, .int n, .undef, .undef] (.item (.k (.str [32, 9])) (.bin .Mod (.bin .FloorDiv (.v 1) (.k (.int 3))) (.k (.int 2)))) = some (.str [sg]) := by
    have e : ev F [.str lead, .int n, .undef, .undef] (.bin .Mod (.bin .FloorDiv (.v 1) (.k (.int 3))) (.k (.int 2))) = some (.int ((n / 3 % 2 : Nat))) := mod_n (div_n (x := n) (y := 3) rfl rfl (by decide) (by decide)) (y := 2) rfl (by decide)
    rcases Nat.mod_two_eq_zero_or_one (n / 3) with q | q
    · rw [q] at e; exact ⟨32, .inl rfl, item_s (k := 0) rfl e (by decide) rfl⟩
    · rw [q] at e; exact ⟨9, .inr rfl, item_s (k := 1) rfl e (by decide) rfl⟩
  have ep : ev F [.str lead, .int n, .str [sg], .undef] (.bin .Mod (.bin .FloorDiv (.v 1) (.k (.int 6))) (.k (.int 20))) = some (.int ((n / 6 % 20 : Nat))) := mod_n (div_n (x := n) (y := 6) rfl rfl (by decide) (by decide)) (y := 20) rfl (by decide)
  generalize hp : n / 6 % 20 = p at ep
  have h3 : ev F [.str lead, .int n, .str [sg], .int p] (.bin .Mod (.v 1) (.k (.int 3))) = some (.int ((n % 3 : Nat))) := mod_n (x := n) (y := 3) rfl rfl (by decide)
  have tc : tst F [.str lead, .int n, .str [sg], .int p] (.ors (.cons (.cmp .Eq (.bin .Mod (.v 1) (.k (.int 3))) (.k (.int 0))) (.cons (.cmp .Eq (.v 0) (.k (.str []))) .nil))) = some ((n % 3 == 0) || (lead == [])) :=
    ors2 (cmp_t' h3 (y := .int ((0 : Nat) : Int)) rfl (eq_n _ _)) fun _ => cmp_t' (x := .str lead) (y := .str []) rfl rfl (eq_strs _ _)
  have start : ∀ {o : Option Out}, ex F fuel (.seq (.iff (.ors (.cons (.cmp .Eq (.bin .Mod (.v 1) (.k (.int 3))) (.k (.int 0))) (.cons (.cmp .Eq (.v 0) (.k (.str []))) .nil)))
 (.seq (.asg 3 (.bin .Mod (.v 3) (.bin .Add (.bi .len (.cons (.v 0) .nil)) (.k (.int 1))))) (.seq (.ret (.bin .Add (.bin .Add (.sl (.v 0) .non (.v 3) .non) (.v 2)) (.sl (.v 0) (.v 3) .non .non))) .skip))
 .skip) (.seq (.asg 3 (.bin .Mod (.v 3) (.bi .len (.cons (.v 0) .nil)))) (.seq (.ret (.bin .Add (.bin .Add (.sl (.v 0) .non (.v 3) .non) (.ite (.cmp .Eq (.bin .Mod (.v 1) (.k (.int 3))) (.k (.int 2))) (.v 2) (.k (.str [])))) (.sl (.v 0) (.bin .Add (.v 3) (.k (.int 1))) .non .non))) .skip))) [.str lead, .int n, .str [sg], .int p] = o → ex F fuel L1.b_law_stroke [.str lead, .int n, .undef, .undef] = o := by
    intro o h
    unfold L1.b_law_stroke
    rw [seq_ex (ρ' := [.str lead, .int n, .str [sg], .undef]) (by rw [asg_ex es]; rfl)]
    rw [seq_ex (ρ' := [.str lead, .int n, .str [sg], .int p]) (by rw [asg_ex ep]; rfl)]
    exact h
  by_cases hc : n % 3 = 0 ∨ lead = []
  · have hb : ((n % 3 == 0) || (lead == [])) = true := by
      rcases hc with q | q <;> simp [q]
    rw [hb] at tc
    generalize hq : p % (lead.length + 1) = q
    have hql : q ≤ lead.length := by have := Nat.mod_lt p (show 0 < lead.length + 1 by lia); lia
    refine ⟨lead.take q ++ [sg] ++ lead.drop q, R (start ?_), lead_app (lead_app (lead_take hL q) (lead_one hs)) (lead_drop hL q), ?_, by simp; lia⟩
    · refine seq_ret ?_
      rw [iff_t tc]
      rw [seq_ex (ρ' := [.str lead, .int n, .str [sg], .int q]) (by
        rw [asg_ex (mod_n (x := p) rfl (add_n (len_s rfl (by omega)) (y := 1) rfl) (by lia)), hq]; rfl)]
      exact seq_ret (ret_ex (cat_s (cat_s (to_s (p := q) rfl rfl (by omega)) (y := [sg]) rfl (by simp; lia)) (from_s (p := q) rfl rfl (by omega)) (by simp; omega)))
    · have s := Stroke.ins (lead.take q) (lead.drop q) sg
      rw [List.take_append_drop] at s
      rw [List.append_assoc]
      exact stroke_ed s
  · have hn : ¬ n % 3 = 0 := fun q => hc (.inl q)
    have hne : lead ≠ [] := fun q => hc (.inr q)
    have hb : ((n % 3 == 0) || (lead == [])) = false := by simp [hn, hne]
    rw [hb] at tc
    have hpos : 0 < lead.length := List.length_pos_iff.mpr hne
    generalize hq : p % lead.length = q
    have hql : q < lead.length := by rw [← hq]; exact Nat.mod_lt _ hpos
    obtain ⟨md, hmd, em⟩ : ∃ md : List Nat, (md = [sg] ∨ md = []) ∧ ev F [.str lead, .int n, .str [sg], .int q] (.ite (.cmp .Eq (.bin .Mod (.v 1) (.k (.int 3))) (.k (.int 2))) (.v 2) (.k (.str []))) = some (.str md) := by
      have h3' : ev F [.str lead, .int n, .str [sg], .int q] (.bin .Mod (.v 1) (.k (.int 3))) = some (.int ((n % 3 : Nat))) := mod_n (x := n) (y := 3) rfl rfl (by decide)
      have t2 : tst F [.str lead, .int n, .str [sg], .int q] (.cmp .Eq (.bin .Mod (.v 1) (.k (.int 3))) (.k (.int 2))) = some (n % 3 == 2) := cmp_t' h3' (y := .int ((2 : Nat) : Int)) rfl (eq_n _ _)
      cases h2 : (n % 3 == 2) with
      | true => rw [h2] at t2; exact ⟨[sg], .inl rfl, ite_t t2 rfl⟩
      | false => rw [h2] at t2; exact ⟨[], .inr rfl, ite_f t2 rfl⟩
    have hml : md.length ≤ 1 := by rcases hmd with rfl | rfl <;> simp
    have hmL : Lead md := by
      rcases hmd with rfl | rfl
      · exact lead_one hs
      · exact fun c hc => by cases hc
    refine ⟨lead.take q ++ md ++ lead.drop (q + 1), R (start ?_), lead_app (lead_app (lead_take hL q) hmL) (lead_drop hL _), ?_, by simp; omega⟩
    · rw [seq_ex (by rw [iff_f tc]; exact skip_ex)]
      rw [seq_ex (ρ' := [.str lead, .int n, .str [sg], .int q]) (by
        rw [asg_ex (mod_n (x := p) rfl (len_s rfl (by omega)) hpos), hq]; rfl)]
      exact seq_ret (ret_ex (cat_s (cat_s (to_s (p := q) rfl rfl (by omega)) em (by simp; grind)) (from_s (p := q + 1) rfl (add_n (x := q) (y := 1) rfl rfl) (by omega)) (by simp; grind)))
    · have h := cut_at hql
      rcases hmd with rfl | rfl
      · have s := Stroke.sub (lead.take q) (lead.drop (q + 1)) lead[q] sg
        rw [← h] at s
        rw [List.append_assoc]
        exact stroke_ed s
      · have s := Stroke.del (lead.take q) (lead.drop (q + 1)) lead[q]
        rw [← h] at s
        rw [List.append_nil]
        exact stroke_ed s
end
end Mine
end
section
set_option maxRecDepth 100000
set_option backward.match.sparseCases false
namespace Mine
open PySem PySem.W PyProof.Rows

noncomputable def gN (rs : List Nat) (i : Nat) : Nat := (rs[i]?).getD 0
noncomputable def moveP (rs : List Nat) (k m : Nat) (tw : List Nat) : List Nat :=
  if k < m then rs.take k ++ tw ++ (rs.drop (k + 1)).take (m - (k + 1)) ++ [gN rs k] ++ rs.drop (m + 2)
  else rs.take m ++ [gN rs k] ++ (rs.drop (m + 2)).take (k - (m + 2)) ++ tw ++ rs.drop (k + 1)
noncomputable def pairP (rs : List Nat) (m : Nat) : List Nat := (rs.drop m).take 2
noncomputable def look1 (rs : List Nat) (k m : Nat) : List (List Nat) := if gN rs k = 0 then [(rs.take k ++ rs.drop (k + 1)).take m ++ [0] ++ (rs.take k ++ rs.drop (k + 1)).drop m] else []
noncomputable def look2 (rs : List Nat) (k m : Nat) : List (List Nat) := if gN rs m = gN rs k + 1 ∨ m = k + 1 then [(List.range rs.length).map fun i => if i = k then gN rs m else if i = m then gN rs k else gN rs i] else []
noncomputable def look3 (rs : List Nat) (k m : Nat) : List (List Nat) := if (pairP rs m).length = 2 ∧ k ≠ m ∧ k ≠ m + 1 ∧ (gN rs k = (pairP rs m).sum ∨ gN rs k = (pairP rs m).sum + 1) then
  [moveP rs k m (pairP rs m), moveP rs k m [gN rs (m + 1), gN rs m]] else []
noncomputable def lookKM (rs : List Nat) (k m : Nat) : List (List Nat) := look1 rs k m ++ look2 rs k m ++ look3 rs k m
noncomputable def looksP (rs : List Nat) : List (List Nat) := rs :: (List.range rs.length).flatMap fun k => (List.range rs.length).flatMap fun m => lookKM rs k m

noncomputable abbrev lls (l : List (List Nat)) : List V := l.map fun x => V.list (nts x)

noncomputable def ml1 : S := (.iff (.cmp .Eq (.item (.v 0) (.v 2)) (.k (.int 0)))
 (.seq (.app 1 (.bin .Add (.bin .Add (.sl (.v 3) .non (.v 4) .non) (.list (.cons (.k (.int 0)) .nil))) (.sl (.v 3) (.v 4) .non .non))) .skip)
 .skip)
noncomputable def ml2 : S := (.iff (.ors (.cons (.cmp .Eq (.item (.v 0) (.v 4)) (.bin .Add (.item (.v 0) (.v 2)) (.k (.int 1)))) (.cons (.cmp .Eq (.v 4) (.bin .Add (.v 2) (.k (.int 1)))) .nil)))
 (.seq (.app 1 (.comp (.ite (.cmp .Eq (.v 7) (.v 2)) (.item (.v 0) (.v 4)) (.ite (.cmp .Eq (.v 7) (.v 4)) (.item (.v 0) (.v 2)) (.item (.v 0) (.v 7)))) 7 false (.bi .range1 (.cons (.bi .len (.cons (.v 0) .nil)) .nil)) .yes)) .skip)
 .skip)
noncomputable def ml3i : S := (.seq (.iff (.cmp .Lt (.v 2) (.v 4))
 (.seq (.app 1 (.bin .Add (.bin .Add (.bin .Add (.bin .Add (.sl (.v 0) .non (.v 2) .non) (.v 6)) (.sl (.v 0) (.bin .Add (.v 2) (.k (.int 1))) (.v 4) .non)) (.list (.cons (.item (.v 0) (.v 2)) .nil))) (.sl (.v 0) (.bin .Add (.v 4) (.k (.int 2))) .non .non))) .skip)
 (.seq (.app 1 (.bin .Add (.bin .Add (.bin .Add (.bin .Add (.sl (.v 0) .non (.v 4) .non) (.list (.cons (.item (.v 0) (.v 2)) .nil))) (.sl (.v 0) (.bin .Add (.v 4) (.k (.int 2))) (.v 2) .non)) (.v 6)) (.sl (.v 0) (.bin .Add (.v 2) (.k (.int 1))) .non .non))) .skip)) .skip)
noncomputable def ml3c : X := (.ands (.cons (.cmp .Eq (.bi .len (.cons (.v 5) .nil)) (.k (.int 2))) (.cons (.cmp .NotEq (.v 2) (.v 4)) (.cons (.cmp .NotEq (.v 2) (.bin .Add (.v 4) (.k (.int 1)))) (.cons (.cmp .In (.bin .Sub (.item (.v 0) (.v 2)) (.bi .sum (.cons (.v 5) .nil))) (.tup (.cons (.k (.int 0)) (.cons (.k (.int 1)) .nil)))) .nil)))))
noncomputable def ml3 : S := (.iff ml3c
 (.seq (.for 6 (.tup (.cons (.v 5) (.cons (.list (.cons (.item (.v 5) (.k (.int 1))) (.cons (.item (.v 5) (.k (.int 0))) .nil))) .nil)))
 ml3i) .skip)
 .skip)
noncomputable def mlB : S := (.seq (.asg 5 (.sl (.v 0) (.v 4) (.bin .Add (.v 4) (.k (.int 2))) .non)) (.seq ml1 (.seq ml2 (.seq ml3 .skip))))
noncomputable def klB : S := (.seq (.asg 3 (.bin .Add (.sl (.v 0) .non (.v 2) .non) (.sl (.v 0) (.bin .Add (.v 2) (.k (.int 1))) .non .non))) (.seq (.for 4 (.bi .range1 (.cons (.bi .len (.cons (.v 0) .nil)) .nil)) mlB) .skip))
theorem looks_eq : L1.b_law_looks = (.seq (.asgO 1 (.list (.cons (.v 0) .nil))) (.seq (.for 2 (.bi .range1 (.cons (.bi .len (.cons (.v 0) .nil)) .nil)) klB) (.seq (.retO 1) .skip))) := rfl

section
variable {F : Nat → List V → Option V} {ρ : List V} {fuel : Nat}

theorem take_min {α : Type} (l : List α) (a b : Nat) : (l.drop (min a l.length)).take (min b l.length - min a l.length) = (l.drop a).take (b - a) := by
  refine List.ext_getElem? fun i => ?_
  rw [List.getElem?_take, List.getElem?_take, List.getElem?_drop, List.getElem?_drop]
  by_cases h : a ≤ l.length
  · rw [Nat.min_eq_left h]
    by_cases q : i < b - a
    · rw [if_pos q]
      by_cases q2 : i < min b l.length - a
      · rw [if_pos q2]
      · rw [if_neg q2, List.getElem?_eq_none (by omega)]
    · rw [if_neg q, if_neg (by grind)]
  · rw [Nat.min_eq_right (a := a) (b := l.length) (by omega), if_neg (by omega), List.getElem?_eq_none (by grind)]
    split <;> rfl
theorem mid_l {x i j : X} {l : List V} {a b : Nat} (h0 : ev F ρ x = some (.list l)) (h1 : ev F ρ i = some (.int a)) (h2 : ev F ρ j = some (.int b)) (hl : l.length ≤ 1000000) : ev F ρ (.sl x i j .non) = some (.list ((l.drop a).take (b - a))) := by
  simp only [ev_q19, ev_q20]
  rw [h0, h1, h2]
  show (if l.length ≤ lim ∧ (none : Option Int) ≠ some 0 then some (V.list (pick l (some (a : Int)) (some (b : Int)) none)) else none) = _
  rw [if_pos ⟨lim_le hl, by simp⟩, pick_plain]
  simp only [Option.elim, clip_pos, take_min]
theorem nts_len (l : List Nat) : (nts l).length = l.length := List.length_map ..
theorem nts_take (l : List Nat) (k : Nat) : nts (l.take k) = (nts l).take k := List.map_take ..
theorem nts_drop (l : List Nat) (k : Nat) : nts (l.drop k) = (nts l).drop k := List.map_drop ..
theorem nts_app (a b : List Nat) : nts (a ++ b) = nts a ++ nts b := List.map_append ..
theorem item_nts {x i : X} {l : List Nat} {k : Nat} (h0 : ev F ρ x = some (.list (nts l))) (h1 : ev F ρ i = some (.int k)) (hk : k < l.length) (hl : l.length ≤ 1000) : ev F ρ (.item x i) = some (.int (gN l k)) := by
  refine item_list h0 h1 (by lia) ?_
  rw [List.getElem?_map, List.getElem?_eq_getElem hk]
  unfold gN
  rw [List.getElem?_eq_getElem hk]; rfl
theorem len_nts {x : X} {l : List Nat} (h0 : ev F ρ x = some (.list (nts l))) (hl : l.length ≤ 1000) : ev F ρ (.bi .len (.cons x .nil)) = some (.int l.length) := by
  have := len_l h0 (by rw [nts_len]; grind)
  rwa [nts_len] at this
theorem range_nts {x : X} {l : List Nat} (h0 : ev F ρ x = some (.list (nts l))) (hl : l.length ≤ 1000) : ev F ρ (.bi .range1 (.cons (.bi .len (.cons x .nil)) .nil)) = some (.range 0 l.length 1) := by
  rw [bi_ev' (evs1 (len_nts h0 hl))]; rfl
theorem ne_n (x y : Nat) : cmpop .NotEq (.int x) (.int y) = some (!(x == y)) := by
  show some (!((x : Int) == y)) = _
  rw [beq_nat]
theorem toInts_nts : ∀ l : List Nat, toInts (nts l) = some (l.map fun (k : Nat) => (k : Int))
  | [] => rfl
  | k :: l => by
    show (toInts (nts l)).map _ = _
    rw [toInts_nts l]; rfl
theorem sum_int : ∀ l : List Nat, (l.map fun (k : Nat) => (k : Int)).sum = (l.sum : Nat)
  | [] => rfl
  | k :: l => by rw [List.map_cons, List.sum_cons, sum_int l, List.sum_cons]; lia
theorem sum_nts {x : X} {l : List Nat} (h0 : ev F ρ x = some (.list (nts l))) (hl : l.length ≤ 1000) (hk : ∀ k ∈ l, k ≤ 1000000) : ev F ρ (.bi .sum (.cons x .nil)) = some (.int (l.sum : Nat)) := by
  rw [bi_ev' (evs1 h0)]
  show (toInts (nts l)).bind _ = _
  rw [toInts_nts, Option.bind_some, if_pos, sum_int]
  refine ⟨?_, lim_le (by rw [List.length_map]; lia)⟩
  rw [List.all_eq_true]
  intro x hx
  obtain ⟨k, h1, rfl⟩ := List.mem_map.mp hx
  have := hk k h1
  simp [small]; grind
theorem in01 (d : Int) : cmpop .In (.int d) (.tup [.int 0, .int 1]) = some ((0 == d) || (1 == d)) := by
  show some ((0 == d) || ((1 == d) || false)) = _
  rw [Bool.or_false]

theorem ml1_ok {rs : List Nat} {k m : Nat} {acc : List (List Nat)} {p q : V} (hk : k < rs.length) (hl : rs.length ≤ 100) (ha : acc.length ≤ 100000) :
    ex F fuel ml1 [.list (nts rs), .list (lls acc), .int k, .list (nts (rs.take k ++ rs.drop (k + 1))), .int m, p, q] = some (.next [.list (nts rs), .list (lls (acc ++ look1 rs k m)), .int k, .list (nts (rs.take k ++ rs.drop (k + 1))), .int m, p, q]) := by
  have ll : (rs.take k ++ rs.drop (k + 1)).length ≤ 100 := by simp; lia
  generalize hleft : rs.take k ++ rs.drop (k + 1) = left at ll
  have t : tst F [.list (nts rs), .list (lls acc), .int k, .list (nts left), .int m, p, q] (.cmp .Eq (.item (.v 0) (.v 2)) (.k (.int 0))) = some (gN rs k == 0) :=
    cmp_t' (item_nts (l := rs) (k := k) rfl rfl hk (by lia)) (y := .int ((0 : Nat) : Int)) rfl (eq_n _ _)
  unfold ml1
  by_cases h : gN rs k = 0
  · rw [h] at t
    rw [iff_t t]
    refine (seq_ex (app_ex (l := lls acc) (y := .list (nts (left.take m ++ [0] ++ left.drop m))) rfl ?_ (by rw [List.length_map]; lia))).trans ?_
    · rw [nts_app, nts_app, nts_take, nts_drop]
      exact cat_l (cat_l (to_l (l := nts left) (p := m) rfl rfl (by rw [nts_len]; lia)) (y := nts [0]) rfl (by simp; omega)) (from_l (l := nts left) (p := m) rfl rfl (by rw [nts_len]; lia)) (by simp; grind)
    · rw [skip_ex]
      unfold look1
      rw [if_pos h, hleft]
      unfold lls
      rw [List.map_append]; rfl
  · rw [beq_eq_false_iff_ne.mpr h] at t
    rw [iff_f t, skip_ex]
    unfold look1
    rw [if_neg h, List.append_nil]

theorem ml2_ok {rs : List Nat} {k m : Nat} {acc : List (List Nat)} {l p q : V} (hk : k < rs.length) (hm : m < rs.length) (hl : rs.length ≤ 100) (ha : acc.length ≤ 100000) :
    ex F fuel ml2 [.list (nts rs), .list (lls acc), .int k, l, .int m, p, q] = some (.next [.list (nts rs), .list (lls (acc ++ look2 rs k m)), .int k, l, .int m, p, q]) := by
  have t : tst F [.list (nts rs), .list (lls acc), .int k, l, .int m, p, q] (.ors (.cons (.cmp .Eq (.item (.v 0) (.v 4)) (.bin .Add (.item (.v 0) (.v 2)) (.k (.int 1)))) (.cons (.cmp .Eq (.v 4) (.bin .Add (.v 2) (.k (.int 1)))) .nil))) = some ((gN rs m == gN rs k + 1) || (m == k + 1)) :=
    ors2 (cmp_t' (item_nts (l := rs) (k := m) rfl rfl hm (by lia)) (add_n (item_nts (l := rs) (k := k) rfl rfl hk (by lia)) (y := 1) rfl) (eq_n _ _)) fun _ => cmp_t' (x := .int m) rfl (add_n (x := k) (y := 1) rfl rfl) (eq_n _ _)
  unfold ml2
  by_cases h : gN rs m = gN rs k + 1 ∨ m = k + 1
  · have hb : ((gN rs m == gN rs k + 1) || (m == k + 1)) = true := by rcases h with h | h <;> simp [h]
    rw [hb] at t
    rw [iff_t t]
    refine (seq_ex (app_ex (l := lls acc) (y := .list (nts ((List.range rs.length).map fun i => if i = k then gN rs m else if i = m then gN rs k else gN rs i))) rfl ?_ (by rw [List.length_map]; lia))).trans ?_
    · have := comp_map (F := F) (ρ := [.list (nts rs), .list (lls acc), .int k, l, .int m, p, q]) (l := List.range rs.length) (g := fun (i : Nat) => V.int i) (f := fun i => V.int ((if i = k then gN rs m else if i = m then gN rs k else gN rs i : Nat))) (e := .ite (.cmp .Eq (.v 7) (.v 2)) (.item (.v 0) (.v 4)) (.ite (.cmp .Eq (.v 7) (.v 4)) (.item (.v 0) (.v 2)) (.item (.v 0) (.v 7)))) (it := .bi .range1 (.cons (.bi .len (.cons (.v 0) .nil)) .nil)) (tgt := 7) (x := .range 0 rs.length 1)
        (range_nts rfl (by lia)) (range_items (by lia)) (fun i hi => by
          rw [List.mem_range] at hi
          have t1 : ∀ (r : List V), tst F (.list (nts rs) :: .list (lls acc) :: .int k :: l :: .int m :: p :: q :: .int i :: r) (.cmp .Eq (.v 7) (.v 2)) = some (i == k) := fun r => cmp_t' (x := .int i) (y := .int k) rfl rfl (eq_n _ _)
          have t2 : ∀ (r : List V), tst F (.list (nts rs) :: .list (lls acc) :: .int k :: l :: .int m :: p :: q :: .int i :: r) (.cmp .Eq (.v 7) (.v 4)) = some (i == m) := fun r => cmp_t' (x := .int i) (y := .int m) rfl rfl (eq_n _ _)
          by_cases q1 : i = k
          · rw [if_pos q1]
            exact ite_t ((t1 _).trans (by rw [q1, beq_self_eq_true])) (item_nts (l := rs) (k := m) rfl rfl hm (by lia))
          · rw [if_neg q1]
            refine ite_f ((t1 _).trans (by rw [beq_eq_false_iff_ne.mpr q1])) ?_
            by_cases q2 : i = m
            · rw [if_pos q2]
              exact ite_t ((t2 _).trans (by rw [q2, beq_self_eq_true])) (item_nts (l := rs) (k := k) rfl rfl hk (by lia))
            · rw [if_neg q2]
              exact ite_f ((t2 _).trans (by rw [beq_eq_false_iff_ne.mpr q2])) (item_nts (l := rs) (k := i) rfl rfl hi (by lia)))
      rw [this]
      unfold nts
      rw [List.map_map]; rfl
    · rw [skip_ex]
      unfold look2
      rw [if_pos h]
      unfold lls
      rw [List.map_append]; rfl
  · have hb : ((gN rs m == gN rs k + 1) || (m == k + 1)) = false := by
      rw [Bool.or_eq_false_iff, beq_eq_false_iff_ne, beq_eq_false_iff_ne]
      exact ⟨fun e => h (.inl e), fun e => h (.inr e)⟩
    rw [hb] at t
    rw [iff_f t, skip_ex]
    unfold look2
    rw [if_neg h, List.append_nil]
end
end Mine
end
section
set_option maxRecDepth 100000
set_option backward.match.sparseCases false
namespace Mine
open PySem PySem.W PyProof.Rows

section
variable {F : Nat → List V → Option V} {ρ : List V} {fuel : Nat}

theorem gN_le {rs : List Nat} (h : ∀ k ∈ rs, k ≤ 1000) (i : Nat) : gN rs i ≤ 1000 := by
  unfold gN
  by_cases q : i < rs.length
  · rw [List.getElem?_eq_getElem q]; exact h _ (List.getElem_mem q)
  · rw [List.getElem?_eq_none (by lia)]; exact Nat.zero_le _

theorem eq_le {a b c : Nat} (h : a = b) (k : b ≤ c) : a ≤ c := h ▸ k
theorem lbc {a b : X} {x y : List V} {m n : Nat} (h1 : ev F ρ a = some (.list x) ∧ x.length ≤ m) (h2 : ev F ρ b = some (.list y) ∧ y.length ≤ n) (h : m + n ≤ 1000000) :
    ev F ρ (.bin .Add a b) = some (.list (x ++ y)) ∧ (x ++ y).length ≤ m + n :=
  have hl : x.length + y.length ≤ m + n := Nat.add_le_add h1.2 h2.2
  ⟨cat_l h1.1 h2.1 (Nat.le_trans hl h), eq_le List.length_append hl⟩
theorem nt_le {l : List V} {n : Nat} (h : l.length ≤ n) (k : Nat) : (l.take k).length ≤ n := Nat.le_trans (List.length_take_le' ..) h
theorem nd_le {l : List V} {n : Nat} (h : l.length ≤ n) (k : Nat) : (l.drop k).length ≤ n := Nat.le_trans (eq_le List.length_drop (Nat.sub_le ..)) h
theorem ml3i_ok {rs : List Nat} {k m : Nat} {acc : List (List Nat)} {tw : List Nat} {l p : V} (hk : k < rs.length) (hl : rs.length ≤ 100) (ha : acc.length ≤ 100000) (ht : tw.length ≤ 2) :
    ex F fuel ml3i [.list (nts rs), .list (lls acc), .int k, l, .int m, p, .list (nts tw)] = some (.next [.list (nts rs), .list (lls (acc ++ [moveP rs k m tw])), .int k, l, .int m, p, .list (nts tw)]) := by
  have e : lls (acc ++ [moveP rs k m tw]) = lls acc ++ [.list (nts (moveP rs k m tw))] := by unfold lls; rw [List.map_append]; rfl
  have hn : (nts rs).length = rs.length := nts_len rs
  have hr2 : (nts rs).length ≤ 100 := eq_le hn hl
  have hr6 : (nts rs).length ≤ 1000000 := Nat.le_trans hr2 (by decide)
  have ht2 : (nts tw).length ≤ 2 := eq_le (nts_len tw) ht
  have one : ev F [.list (nts rs), .list (lls acc), .int k, l, .int m, p, .list (nts tw)] (.list (.cons (.item (.v 0) (.v 2)) .nil)) = some (.list (nts [gN rs k])) :=
    list_ev (evs1 (item_nts (l := rs) (k := k) rfl rfl hk (by lia))) (by simp)
  have k1 : ev F [.list (nts rs), .list (lls acc), .int k, l, .int m, p, .list (nts tw)] (.bin .Add (.v 2) (.k (.int 1))) = some (.int ((k + 1 : Nat))) := add_n (x := k) (y := 1) rfl rfl
  have m2 : ev F [.list (nts rs), .list (lls acc), .int k, l, .int m, p, .list (nts tw)] (.bin .Add (.v 4) (.k (.int 2))) = some (.int ((m + 2 : Nat))) := add_n (x := m) (y := 2) rfl rfl
  have t : tst F [.list (nts rs), .list (lls acc), .int k, l, .int m, p, .list (nts tw)] (.cmp .Lt (.v 2) (.v 4)) = some (decide (k < m)) := cmp_t' (x := .int k) (y := .int m) rfl rfl (lt_n _ _)
  unfold ml3i
  by_cases h : k < m
  · rw [decide_eq_true h] at t
    rw [seq_ex (ρ' := [.list (nts rs), .list (lls (acc ++ [moveP rs k m tw])), .int k, l, .int m, p, .list (nts tw)]) (by
      rw [iff_t t]
      refine (seq_ex (app_ex (l := lls acc) (y := .list (nts (moveP rs k m tw))) rfl ?_ (by rw [List.length_map]; omega))).trans ?_
      · unfold moveP
        rw [if_pos h, nts_app, nts_app, nts_app, nts_app, nts_take, nts_take, nts_drop, nts_drop]
        exact (lbc (lbc (lbc (lbc ⟨to_l (l := nts rs) (p := k) rfl rfl hr6, nt_le hr2 k⟩ (y := nts tw) ⟨rfl, ht2⟩ (by decide)) ⟨mid_l (l := nts rs) (a := k + 1) (b := m) rfl k1 rfl hr6, nt_le (nd_le hr2 _) _⟩ (by decide)) ⟨one, Nat.le_refl 1⟩ (by decide)) ⟨from_l (l := nts rs) (p := m + 2) rfl m2 hr6, nd_le hr2 _⟩ (by decide)).1
      · rw [skip_ex, e]; rfl)]
    exact skip_ex
  · rw [decide_eq_false h] at t
    rw [seq_ex (ρ' := [.list (nts rs), .list (lls (acc ++ [moveP rs k m tw])), .int k, l, .int m, p, .list (nts tw)]) (by
      rw [iff_f t]
      refine (seq_ex (app_ex (l := lls acc) (y := .list (nts (moveP rs k m tw))) rfl ?_ (by rw [List.length_map]; omega))).trans ?_
      · unfold moveP
        rw [if_neg h, nts_app, nts_app, nts_app, nts_app, nts_take, nts_take, nts_drop, nts_drop]
        exact (lbc (lbc (lbc (lbc ⟨to_l (l := nts rs) (p := m) rfl rfl hr6, nt_le hr2 m⟩ ⟨one, Nat.le_refl 1⟩ (by decide)) ⟨mid_l (l := nts rs) (a := m + 2) (b := k) rfl m2 rfl hr6, nt_le (nd_le hr2 _) _⟩ (by decide)) (y := nts tw) ⟨rfl, ht2⟩ (by decide)) ⟨from_l (l := nts rs) (p := k + 1) rfl k1 hr6, nd_le hr2 _⟩ (by decide)).1
      · rw [skip_ex, e]; rfl)]
    exact skip_ex

theorem two_of {l : List Nat} (h : l.length = 2) : l = [gN l 0, gN l 1] := by
  match l, h with
  | [a, b], _ => rfl
theorem pair_get {rs : List Nat} {m : Nat} (h : (pairP rs m).length = 2) : pairP rs m = [gN rs m, gN rs (m + 1)] ∧ m + 1 < rs.length := by
  have hlen : m + 1 < rs.length := by
    unfold pairP at h
    rw [List.length_take, List.length_drop] at h; lia
  refine ⟨?_, hlen⟩
  rw [two_of h]
  unfold gN pairP
  rw [List.getElem?_take, List.getElem?_take, List.getElem?_drop, List.getElem?_drop]
  rfl

theorem and4 {a b c d : X} {x y z w : Bool} (h1 : tst F ρ a = some x) (h2 : x = true → tst F ρ b = some y) (h3 : x = true → y = true → tst F ρ c = some z) (h4 : x = true → y = true → z = true → tst F ρ d = some w) :
    tst F ρ (.ands (.cons a (.cons b (.cons c (.cons d .nil))))) = some (x && y && z && w) := by
  rw [tst_q2, tands_q2, h1, Option.bind_some]
  cases x with
  | false => rfl
  | true =>
    rw [if_pos rfl, tands_q2, h2 rfl, Option.bind_some]
    cases y with
    | false => rfl
    | true =>
      rw [if_pos rfl, tands_q2, h3 rfl rfl, Option.bind_some]
      cases z with
      | false => rfl
      | true =>
        rw [if_pos rfl, tands_q2, h4 rfl rfl rfl, Option.bind_some, tands_q1]
        cases w <;> rfl

theorem ml3_ok {rs : List Nat} {k m : Nat} {acc : List (List Nat)} {l q : V} (hk : k < rs.length) (hl : rs.length ≤ 100) (hb : ∀ k ∈ rs, k ≤ 1000) (ha : acc.length ≤ 99000) :
    ∃ q', ex F fuel ml3 [.list (nts rs), .list (lls acc), .int k, l, .int m, .list (nts (pairP rs m)), q] = some (.next [.list (nts rs), .list (lls (acc ++ look3 rs k m)), .int k, l, .int m, .list (nts (pairP rs m)), q']) := by
  have hpl : (pairP rs m).length ≤ 2 := by unfold pairP; rw [List.length_take]; lia
  have hpb : ∀ k ∈ pairP rs m, k ≤ 1000000 := fun k hk => by
    have := hb k (List.mem_of_mem_drop (List.mem_of_mem_take hk)); grind
  have t : tst F [.list (nts rs), .list (lls acc), .int k, l, .int m, .list (nts (pairP rs m)), q] ml3c =
      some (((pairP rs m).length == 2) && (!(k == m)) && (!(k == m + 1)) && ((0 == ((gN rs k : Int) - ((pairP rs m).sum : Nat))) || (1 == ((gN rs k : Int) - ((pairP rs m).sum : Nat))))) := by
    unfold ml3c
    refine and4 (cmp_t' (len_nts (l := pairP rs m) rfl (by lia)) (y := .int ((2 : Nat) : Int)) rfl (eq_n _ _)) (fun _ => cmp_t' (x := .int k) (y := .int m) rfl rfl (ne_n _ _)) (fun _ _ => cmp_t' (x := .int k) rfl (add_n (x := m) (y := 1) rfl rfl) (ne_n _ _)) (fun _ _ _ => ?_)
    refine cmp_t' (x := .int ((gN rs k : Int) - ((pairP rs m).sum : Nat))) (y := .tup [.int 0, .int 1]) ?_ rfl (in01 _)
    rw [bin_ev (item_nts (l := rs) (k := k) rfl rfl hk (by grind)) (sum_nts (l := pairP rs m) rfl (by omega) hpb)]; rfl
  unfold ml3
  by_cases h : (pairP rs m).length = 2 ∧ k ≠ m ∧ k ≠ m + 1 ∧ (gN rs k = (pairP rs m).sum ∨ gN rs k = (pairP rs m).sum + 1)
  · have hc : (((pairP rs m).length == 2) && (!(k == m)) && (!(k == m + 1)) && ((0 == ((gN rs k : Int) - ((pairP rs m).sum : Nat))) || (1 == ((gN rs k : Int) - ((pairP rs m).sum : Nat))))) = true := by
      obtain ⟨h1, h2, h3, h4⟩ := h
      rw [h1, beq_eq_false_iff_ne.mpr h2, beq_eq_false_iff_ne.mpr h3]
      rcases h4 with h4 | h4
      · rw [h4, Int.sub_self]; rfl
      · rw [h4, show (((pairP rs m).sum + 1 : Nat) : Int) - ((pairP rs m).sum : Nat) = 1 by lia]; rfl
    rw [hc] at t
    obtain ⟨hp, hlen⟩ := pair_get h.1
    refine ⟨.list (nts [gN rs (m + 1), gN rs m]), ?_⟩
    rw [iff_t t]
    have hr : ev F [.list (nts rs), .list (lls acc), .int k, l, .int m, .list (nts (pairP rs m)), q] (.tup (.cons (.v 5) (.cons (.list (.cons (.item (.v 5) (.k (.int 1))) (.cons (.item (.v 5) (.k (.int 0))) .nil))) .nil))) = some (.tup [.list (nts (pairP rs m)), .list (nts [gN rs (m + 1), gN rs m])]) := by
      refine tup_ev (evs2 rfl (list_ev (evs2 (x := .int (gN rs (m + 1))) (y := .int (gN rs m)) ?_ ?_) (by simp))) (by simp)
      · refine item_list (l := nts (pairP rs m)) (k := 1) rfl rfl (by lia) ?_
        rw [hp]; rfl
      · refine item_list (l := nts (pairP rs m)) (k := 0) rfl rfl (by lia) ?_
        rw [hp]; rfl
    have i1 := ml3i_ok (F := F) (fuel := fuel) (rs := rs) (k := k) (m := m) (acc := acc) (tw := pairP rs m) (l := l) (p := .list (nts (pairP rs m))) hk hl (by lia) hpl
    have i2 := ml3i_ok (F := F) (fuel := fuel) (rs := rs) (k := k) (m := m) (acc := acc ++ [moveP rs k m (pairP rs m)]) (tw := [gN rs (m + 1), gN rs m]) (l := l) (p := .list (nts (pairP rs m))) hk hl (by simp; grind) (by simp)
    have hset1 : ([.list (nts rs), .list (lls acc), .int k, l, .int m, .list (nts (pairP rs m)), q] : List V).set 6 (.list (nts (pairP rs m))) = [.list (nts rs), .list (lls acc), .int k, l, .int m, .list (nts (pairP rs m)), .list (nts (pairP rs m))] := rfl
    have hset2 : ([.list (nts rs), .list (lls (acc ++ [moveP rs k m (pairP rs m)])), .int k, l, .int m, .list (nts (pairP rs m)), .list (nts (pairP rs m))] : List V).set 6 (.list (nts [gN rs (m + 1), gN rs m])) = [.list (nts rs), .list (lls (acc ++ [moveP rs k m (pairP rs m)])), .int k, l, .int m, .list (nts (pairP rs m)), .list (nts [gN rs (m + 1), gN rs m])] := rfl
    have lp : ex F fuel (.for 6 (.tup (.cons (.v 5) (.cons (.list (.cons (.item (.v 5) (.k (.int 1))) (.cons (.item (.v 5) (.k (.int 0))) .nil))) .nil))) ml3i) [.list (nts rs), .list (lls acc), .int k, l, .int m, .list (nts (pairP rs m)), q] = some (.next [.list (nts rs), .list (lls (acc ++ look3 rs k m)), .int k, l, .int m, .list (nts (pairP rs m)), .list (nts [gN rs (m + 1), gN rs m])]) := by
      rw [for_ex hr (items_tup (by exact lim_le (by simp))), forGo_q2, hset1, i1, Option.bind_some]
      dsimp only
      rw [forGo_q2, hset2, i2, Option.bind_some]
      dsimp only
      rw [forGo_q1]
      unfold look3
      rw [if_pos h, List.append_assoc]; rfl
    rw [seq_ex lp]
    exact skip_ex
  · have hc : (((pairP rs m).length == 2) && (!(k == m)) && (!(k == m + 1)) && ((0 == ((gN rs k : Int) - ((pairP rs m).sum : Nat))) || (1 == ((gN rs k : Int) - ((pairP rs m).sum : Nat))))) = false := by
      cases hb' : (((pairP rs m).length == 2) && (!(k == m)) && (!(k == m + 1)) && ((0 == ((gN rs k : Int) - ((pairP rs m).sum : Nat))) || (1 == ((gN rs k : Int) - ((pairP rs m).sum : Nat))))) with
      | false => rfl
      | true =>
        refine absurd ?_ h
        simp only [Bool.and_eq_true, Bool.or_eq_true, beq_iff_eq, Bool.not_eq_true', beq_eq_false_iff_ne] at hb'
        obtain ⟨⟨⟨h1, h2⟩, h3⟩, h4⟩ := hb'
        exact ⟨h1, h2, h3, by grind⟩
    rw [hc] at t
    refine ⟨q, ?_⟩
    rw [iff_f t, skip_ex]
    unfold look3
    rw [if_neg h, List.append_nil]

theorem mlB_ok {rs : List Nat} {k m : Nat} {acc : List (List Nat)} {p q : V} (hk : k < rs.length) (hm : m < rs.length) (hl : rs.length ≤ 100) (hb : ∀ k ∈ rs, k ≤ 1000) (ha : acc.length ≤ 90000) :
    ∃ p' q', ex F fuel mlB [.list (nts rs), .list (lls acc), .int k, .list (nts (rs.take k ++ rs.drop (k + 1))), .int m, p, q] = some (.next [.list (nts rs), .list (lls (acc ++ lookKM rs k m)), .int k, .list (nts (rs.take k ++ rs.drop (k + 1))), .int m, p', q']) := by
  have l1 : (look1 rs k m).length ≤ 1 := by unfold look1; split <;> simp
  have l2 : (look2 rs k m).length ≤ 1 := by unfold look2; split <;> simp
  have ep : ev F [.list (nts rs), .list (lls acc), .int k, .list (nts (rs.take k ++ rs.drop (k + 1))), .int m, p, q] (.sl (.v 0) (.v 4) (.bin .Add (.v 4) (.k (.int 2))) .non) = some (.list (nts (pairP rs m))) := by
    have := mid_l (F := F) (ρ := [.list (nts rs), .list (lls acc), .int k, .list (nts (rs.take k ++ rs.drop (k + 1))), .int m, p, q]) (x := .v 0) (i := .v 4) (j := .bin .Add (.v 4) (.k (.int 2))) (l := nts rs) (a := m) (b := m + 2) rfl rfl (add_n (x := m) (y := 2) rfl rfl) (by rw [nts_len]; grind)
    rw [this]
    unfold pairP
    rw [nts_take, nts_drop, show m + 2 - m = 2 by grind]
  obtain ⟨q', e3⟩ := ml3_ok (F := F) (fuel := fuel) (rs := rs) (k := k) (m := m) (acc := acc ++ look1 rs k m ++ look2 rs k m) (l := .list (nts (rs.take k ++ rs.drop (k + 1)))) (q := q) hk hl hb (by simp; omega)
  refine ⟨.list (nts (pairP rs m)), q', ?_⟩
  unfold mlB
  rw [seq_ex (ρ' := [.list (nts rs), .list (lls acc), .int k, .list (nts (rs.take k ++ rs.drop (k + 1))), .int m, .list (nts (pairP rs m)), q]) (by rw [asg_ex ep]; rfl)]
  rw [seq_ex (ml1_ok hk hl (by omega)), seq_ex (ml2_ok hk hm hl (by simp; lia)), seq_ex e3]
  unfold lookKM
  rw [← List.append_assoc, ← List.append_assoc]
  exact skip_ex

theorem ml_loop {rs : List Nat} {k : Nat} (hk : k < rs.length) (hl : rs.length ≤ 100) (hb : ∀ k ∈ rs, k ≤ 1000) : ∀ (n i : Nat) (acc : List (List Nat)) (m p q : V), i + n ≤ rs.length → acc.length + 4 * n ≤ 80000 →
    ∃ m' p' q', forGo (ex F fuel mlB) 4 ((List.range' i n).map fun (i : Nat) => V.int i) [.list (nts rs), .list (lls acc), .int k, .list (nts (rs.take k ++ rs.drop (k + 1))), m, p, q] =
      some (.next [.list (nts rs), .list (lls (acc ++ (List.range' i n).flatMap fun m => lookKM rs k m)), .int k, .list (nts (rs.take k ++ rs.drop (k + 1))), m', p', q'])
  | 0, i, acc, m, p, q, _, _ => ⟨m, p, q, by rw [List.range'_zero, List.flatMap_nil, List.append_nil]; rfl⟩
  | n + 1, i, acc, m, p, q, h, ha => by
    have hset : ([.list (nts rs), .list (lls acc), .int k, .list (nts (rs.take k ++ rs.drop (k + 1))), m, p, q] : List V).set 4 (.int i) = [.list (nts rs), .list (lls acc), .int k, .list (nts (rs.take k ++ rs.drop (k + 1))), .int i, p, q] := rfl
    obtain ⟨p', q', e⟩ := mlB_ok (F := F) (fuel := fuel) (rs := rs) (k := k) (m := i) (acc := acc) (p := p) (q := q) hk (by grind) hl hb (by omega)
    have hkm : (lookKM rs k i).length ≤ 4 := by
      unfold lookKM look1 look2 look3
      simp only [List.length_append]
      split <;> split <;> split <;> simp
    rw [range_cons, forGo_q2, hset, e, Option.bind_some]
    obtain ⟨m', p'', q'', e'⟩ := ml_loop hk hl hb n (i + 1) (acc ++ lookKM rs k i) (.int i) p' q' (by lia) (by simp; grind)
    refine ⟨m', p'', q'', ?_⟩
    rw [List.range'_succ, List.flatMap_cons, ← List.append_assoc]
    exact e'

theorem kl_loop {rs : List Nat} (hl : rs.length ≤ 100) (hb : ∀ k ∈ rs, k ≤ 1000) : ∀ (n i : Nat) (acc : List (List Nat)) (k l m p q : V), i + n ≤ rs.length → acc.length + 400 * n ≤ 70000 →
    ∃ k' l' m' p' q', forGo (ex F fuel klB) 2 ((List.range' i n).map fun (i : Nat) => V.int i) [.list (nts rs), .list (lls acc), k, l, m, p, q] =
      some (.next [.list (nts rs), .list (lls (acc ++ (List.range' i n).flatMap fun k => (List.range rs.length).flatMap fun m => lookKM rs k m)), k', l', m', p', q'])
  | 0, i, acc, k, l, m, p, q, _, _ => ⟨k, l, m, p, q, by rw [List.range'_zero, List.flatMap_nil, List.append_nil]; rfl⟩
  | n + 1, i, acc, k, l, m, p, q, h, ha => by
    have hset : ([.list (nts rs), .list (lls acc), k, l, m, p, q] : List V).set 2 (.int i) = [.list (nts rs), .list (lls acc), .int i, l, m, p, q] := rfl
    obtain ⟨m', p', q', e⟩ := ml_loop (F := F) (fuel := fuel) (rs := rs) (k := i) (by grind) hl hb rs.length 0 acc m p q (by lia) (by lia)
    have hn : (nts rs).length = rs.length := nts_len rs
    have st : ex F fuel klB [.list (nts rs), .list (lls acc), .int i, l, m, p, q] = some (.next [.list (nts rs), .list (lls (acc ++ (List.range' 0 rs.length).flatMap fun m => lookKM rs i m)), .int i, .list (nts (rs.take i ++ rs.drop (i + 1))), m', p', q']) := by
      unfold klB
      rw [seq_ex (ρ' := [.list (nts rs), .list (lls acc), .int i, .list (nts (rs.take i ++ rs.drop (i + 1))), m, p, q]) (by
        rw [asg_ex (cat_l (to_l (l := nts rs) (p := i) rfl rfl (by grind)) (from_l (l := nts rs) (p := i + 1) rfl (add_n (x := i) (y := 1) rfl rfl) (by lia)) (by simp; lia)), nts_app, nts_take, nts_drop]; rfl)]
      rw [seq_ex (by rw [for_ex (range_nts (l := rs) rfl (by grind)) (range_items (by lia)), List.range_eq_range']; exact e)]
      exact skip_ex
    have hkm : ((List.range' 0 rs.length).flatMap fun m => lookKM rs i m).length ≤ 400 := by
      have : ∀ l : List Nat, (l.flatMap fun m => lookKM rs i m).length ≤ 4 * l.length := by
        intro l
        induction l with
        | nil => simp
        | cons x l ih =>
          have : (lookKM rs i x).length ≤ 4 := by
            unfold lookKM look1 look2 look3
            simp only [List.length_append]
            split <;> split <;> split <;> simp
          rw [List.flatMap_cons, List.length_append, List.length_cons]; grind
      have := this (List.range' 0 rs.length)
      rw [List.length_range'] at this
      lia
    rw [range_cons, forGo_q2, hset, st, Option.bind_some]
    obtain ⟨k', l', m'', p'', q'', e'⟩ := kl_loop hl hb n (i + 1) (acc ++ (List.range' 0 rs.length).flatMap fun m => lookKM rs i m) (.int i) (.list (nts (rs.take i ++ rs.drop (i + 1)))) m' p' q' (by grind) (by rw [List.length_append]; grind)
    refine ⟨k', l', m'', p'', q'', ?_⟩
    rw [List.range'_succ, List.flatMap_cons, ← List.append_assoc]
    conv => rhs; rw [List.range_eq_range']
    rw [List.range_eq_range'] at e'
    exact e'

theorem looks_ok {rs : List Nat} (hl : rs.length ≤ 100) (hb : ∀ k ∈ rs, k ≤ 1000) : runF F fuel 1 7 L1.b_law_looks [.list (nts rs)] = some (.list (lls (looksP rs))) := by
  refine runF_ret rfl ?_
  show ex F fuel L1.b_law_looks [.list (nts rs), .undef, .undef, .undef, .undef, .undef, .undef] = _
  rw [looks_eq]
  rw [seq_ex (ρ' := [.list (nts rs), .list (lls [rs]), .undef, .undef, .undef, .undef, .undef]) rfl]
  obtain ⟨k', l', m', p', q', e⟩ := kl_loop (F := F) (fuel := fuel) hl hb rs.length 0 [rs] .undef .undef .undef .undef .undef (by lia) (by simp; omega)
  rw [seq_ex (by rw [for_ex (range_nts (l := rs) rfl (by lia)) (range_items (by lia)), List.range_eq_range']; exact e)]
  unfold looksP
  rw [← List.range_eq_range' (n := rs.length)]
  rfl
end
end Mine
end
section
set_option maxRecDepth 100000
set_option backward.match.sparseCases false
namespace Mine
open PySem PySem.W PyProof.Rows

/-- is the distance at most k (n: steps allowed) -/
noncomputable def near : Nat → Nat → List Nat → List Nat → Bool
  | 0, _, _, _ => true
  | n + 1, k, [], b => Nat.ble b.length k
  | n + 1, k, x :: a, [] => Nat.ble (a.length + 1) k
  | n + 1, k, x :: a, y :: b => bif Nat.beq x y then near n k a b else bif Nat.beq k 0 then false else near n (k - 1) a b || (near n (k - 1) a (y :: b) || near n (k - 1) (x :: a) b)
theorem near_cons (n k x y : Nat) (a b : List Nat) : near (n + 1) k (x :: a) (y :: b) = (bif Nat.beq x y then near n k a b else bif Nat.beq k 0 then false else near n (k - 1) a b || (near n (k - 1) a (y :: b) || near n (k - 1) (x :: a) b)) := rfl
theorem near_of : ∀ (n k : Nat) (a b : List Nat), ed a b ≤ k → near n k a b = true
  | 0, _, _, _, _ => rfl
  | n + 1, k, [], b, h => by rw [ed_nil] at h; rw [near]; exact Nat.ble_eq_true_of_le h
  | n + 1, k, x :: a, [], h => by rw [ed_nil'] at h; rw [near]; exact Nat.ble_eq_true_of_le h
  | n + 1, k, x :: a, y :: b, h => by
    rw [near_cons]
    cases hb : Nat.beq x y with
    | true =>
      have : x = y := Nat.eq_of_beq_eq_true hb
      subst this
      rw [ed_eq] at h
      exact near_of n k a b h
    | false =>
      have : x ≠ y := Nat.ne_of_beq_eq_false hb
      rw [ed_ne this] at h
      cases k with
      | zero => lia
      | succ k =>
        show (near n k a b || (near n k a (y :: b) || near n k (x :: a) b)) = true
        have e : ed a b ≤ k ∨ ed a (y :: b) ≤ k ∨ ed (x :: a) b ≤ k := by grind
        rcases e with e | e | e
        · rw [near_of n k a b e]; rfl
        · rw [near_of n k a (y :: b) e]; simp
        · rw [near_of n k (x :: a) b e]; simp
theorem near_ed : ∀ (n k : Nat) (a b : List Nat), a.length + b.length < n → near n k a b = true → ed a b ≤ k
  | 0, _, _, _, h, _ => absurd h (Nat.not_lt_zero _)
  | n + 1, k, [], b, _, h => by rw [near] at h; rw [ed_nil]; exact Nat.le_of_ble_eq_true h
  | n + 1, k, x :: a, [], _, h => by rw [near] at h; rw [ed_nil']; exact Nat.le_of_ble_eq_true h
  | n + 1, k, x :: a, y :: b, hn, h => by
    rw [near_cons] at h
    simp only [List.length_cons] at hn
    cases hb : Nat.beq x y with
    | true =>
      have : x = y := Nat.eq_of_beq_eq_true hb
      subst this
      rw [hb] at h
      rw [ed_eq]
      exact near_ed n k a b (by omega) h
    | false =>
      have : x ≠ y := Nat.ne_of_beq_eq_false hb
      rw [hb] at h
      rw [ed_ne this]
      cases k with
      | zero => cases h
      | succ k =>
        have h : (near n k a b || (near n k a (y :: b) || near n k (x :: a) b)) = true := h
        rw [Bool.or_eq_true, Bool.or_eq_true] at h
        rcases h with h | h | h
        · have := near_ed n k a b (by omega) h; grind
        · have := near_ed n k a (y :: b) (by simp; lia) h; omega
        · have := near_ed n k (x :: a) b (by simp; grind) h; grind

noncomputable def insAll (x : Nat) : List Nat → List (List Nat)
  | [] => [[x]]
  | y :: l => (x :: y :: l) :: (insAll x l).map (y :: ·)
noncomputable def permsOf : List Nat → List (List Nat)
  | [] => [[]]
  | x :: l => (permsOf l).flatMap (insAll x)
theorem ins_mem (x : Nat) : ∀ (s t : List Nat), s ++ x :: t ∈ insAll x (s ++ t)
  | [], t => by cases t <;> simp [insAll]
  | y :: s, t => by
    rw [List.cons_append, List.cons_append, insAll]
    exact List.mem_cons_of_mem _ (List.mem_map_of_mem (ins_mem x s t))
theorem perms_mem : ∀ {l p : List Nat}, p.Perm l → p ∈ permsOf l
  | [], p, h => by rw [h.eq_nil, permsOf]; simp
  | x :: l, p, h => by
    obtain ⟨s, t, rfl⟩ := List.append_of_mem (h.mem_iff.mpr (List.mem_cons_self ..))
    have hp : (s ++ t).Perm l := (List.perm_cons x).mp ((List.perm_middle).symm.trans h)
    rw [permsOf, List.mem_flatMap]
    exact ⟨s ++ t, perms_mem hp, ins_mem x s t⟩

noncomputable def allR : Nat → List (List Nat)
  | 0 => [[]]
  | n + 1 => (List.range 4).flatMap fun k => (allR n).map (k :: ·)
theorem allR_mem : ∀ (n : Nat) (l : List Nat), l.length = n → (∀ k ∈ l, k < 4) → l ∈ allR n
  | 0, l, h, _ => by rw [List.length_eq_zero_iff.mp h, allR]; simp
  | n + 1, [], h, _ => by simp at h
  | n + 1, k :: l, h, hk => by
    rw [allR, List.mem_flatMap]
    exact ⟨k, List.mem_range.mpr (hk k (List.mem_cons_self ..)), List.mem_map_of_mem (allR_mem n l (by simpa using h) fun j hj => hk j (List.mem_cons_of_mem _ hj))⟩

noncomputable def lookC (rs : List Nat) : Bool :=
  (looksP rs).all (fun p => List.isPerm p rs) && (permsOf rs).all fun p => near 50 2 (word rs 0) (word p 0) == (looksP rs).contains p
theorem lookC0 : (allR 0).all lookC = true := by kernel_rfl
theorem lookC1 : (allR 1).all lookC = true := by kernel_rfl
theorem lookC2 : (allR 2).all lookC = true := by kernel_rfl
theorem lookC3 : (allR 3).all lookC = true := by kernel_rfl
theorem lookC40 : ((allR 3).map (0 :: ·)).all lookC = true := by kernel_rfl
theorem lookC41 : ((allR 3).map (1 :: ·)).all lookC = true := by kernel_rfl
theorem lookC42 : ((allR 3).map (2 :: ·)).all lookC = true := by kernel_rfl
theorem lookC43 : ((allR 3).map (3 :: ·)).all lookC = true := by kernel_rfl

theorem lookC_all {rs : List Nat} (hl : rs.length ≤ 4) (hk : ∀ k ∈ rs, k < 4) : lookC rs = true := by
  have hm := allR_mem rs.length rs rfl hk
  have : rs.length = 0 ∨ rs.length = 1 ∨ rs.length = 2 ∨ rs.length = 3 ∨ rs.length = 4 := by lia
  rcases this with h | h | h | h | h
  · rw [h] at hm; exact List.all_eq_true.mp lookC0 rs hm
  · rw [h] at hm; exact List.all_eq_true.mp lookC1 rs hm
  · rw [h] at hm; exact List.all_eq_true.mp lookC2 rs hm
  · rw [h] at hm; exact List.all_eq_true.mp lookC3 rs hm
  · rw [h, allR, List.mem_flatMap] at hm
    obtain ⟨k, h1, h2⟩ := hm
    rw [List.mem_range] at h1
    have : k = 0 ∨ k = 1 ∨ k = 2 ∨ k = 3 := by grind
    rcases this with rfl | rfl | rfl | rfl
    · exact List.all_eq_true.mp lookC40 rs h2
    · exact List.all_eq_true.mp lookC41 rs h2
    · exact List.all_eq_true.mp lookC42 rs h2
    · exact List.all_eq_true.mp lookC43 rs h2
theorem sum_le4 : ∀ (l : List Nat), (∀ k ∈ l, k < 4) → l.sum ≤ 3 * l.length
  | [], _ => by simp
  | k :: l, h => by
    have := sum_le4 l fun j hj => h j (List.mem_cons_of_mem _ hj)
    have := h k (List.mem_cons_self ..)
    rw [List.sum_cons, List.length_cons]; lia
theorem word_len4 {rs : List Nat} (hl : rs.length ≤ 4) (hk : ∀ k ∈ rs, k < 4) (r : Nat) : (word rs r).length ≤ 16 + r := by
  rw [word_len]
  have := sum_le4 rs hk
  grind
theorem word_rest (rs : List Nat) (r : Nat) : word rs r = word rs 0 ++ List.replicate r 32 := by
  rw [word_flat, word_flat rs 0]; simp
theorem ed_rest (rs p : List Nat) (r : Nat) : ed (word rs r) (word p r) = ed (word rs 0) (word p 0) := by
  rw [word_rest rs r, word_rest p r, ed_post]
theorem looks_spec {rs : List Nat} (hl : rs.length ≤ 4) (hk : ∀ k ∈ rs, k < 4) : (∀ p ∈ looksP rs, p.Perm rs) ∧ ∀ p, p.Perm rs → ∀ r, (p ∈ looksP rs ↔ ed (word rs r) (word p r) ≤ 2) := by
  have h := lookC_all hl hk
  unfold lookC at h
  rw [Bool.and_eq_true, List.all_eq_true, List.all_eq_true] at h
  refine ⟨fun p hp => List.isPerm_iff.mp (h.1 p hp), fun p hp r => ?_⟩
  have h2 := eq_of_beq (h.2 p (perms_mem hp))
  have hk' : ∀ k ∈ p, k < 4 := fun k hkp => hk k (hp.mem_iff.mp hkp)
  have l1 := word_len4 hl hk 0
  have l2 := word_len4 (rs := p) (by rw [hp.length_eq]; exact hl) hk' 0
  rw [ed_rest]
  constructor
  · intro hm
    rw [List.contains_iff_mem.mpr hm] at h2
    exact near_ed 50 2 _ _ (by lia) h2
  · intro he
    rw [near_of 50 2 _ _ he] at h2
    exact List.contains_iff_mem.mp h2.symm
theorem count_word : ∀ (rs : List Nat) (r : Nat), (word rs r).count 9 = rs.length
  | [], r => by rw [word, List.count_eq_zero.mpr]; rfl; exact fun h => absurd (List.eq_of_mem_replicate h) (by decide)
  | k :: rs, r => by
    rw [word, List.count_append, List.count_cons, count_word rs r, List.count_eq_zero.mpr]
    · simp
    · exact fun h => absurd (List.eq_of_mem_replicate h) (by decide)
/-- two orders of the same runs are never one stroke apart -/
theorem ed_perm {rs p : List Nat} (h : p.Perm rs) (r : Nat) : ed (word rs r) (word p r) ≠ 1 := by
  intro e
  obtain ⟨h1, h2⟩ := ed_one_iff.mp e
  have hc : (word rs r).count 9 = (word p r).count 9 := by rw [count_word, count_word, h.length_eq]
  have hl : (word rs r).length = (word p r).length := by rw [word_len, word_len, h.length_eq, h.sum_nat]
  have L1 := lead_word rs r
  have L2 := lead_word p r
  generalize word rs r = a at h1 h2 hc hl L1
  generalize word p r = b at h1 h2 hc hl L2
  cases h2 with
  | ins p s c => simp at hl
  | del p s c => simp at hl
  | sub p s c d =>
    refine h1 ?_
    have c1 := L1 c (by simp)
    have c2 := L2 d (by simp)
    rw [List.count_append, List.count_append, List.count_cons, List.count_cons] at hc
    rcases c1 with rfl | rfl <;> rcases c2 with rfl | rfl
    · rfl
    · simp at hc
    · simp at hc
    · rfl
theorem perm_ws {rs p : List Nat} (h : p.Perm rs) (r : Nat) : wsOf (word p r) = wsOf (word rs r) := by
  rw [wsOf_word, wsOf_word, cnt_perm.mpr h, h.length_eq, h.sum_nat]
end Mine
end
section
set_option maxRecDepth 100000
set_option backward.match.sparseCases false
namespace Mine
open PySem PySem.W PyProof.Rows

theorem hasW1 : HasW L1.tab := ⟨rfl, rfl, rfl, rfl, rfl, rfl, rfl, rfl, rfl⟩
noncomputable def F1 : Nat → List V → Option V := Fk L1.tab 40 2
theorem f1_fn {f np ns : Nat} {b : S} (h : L1.tab.lookup f = some ⟨false, np, ns, b⟩) (args : List V) : F1 f args = runF (Fk L1.tab 40 1) 40 np ns b args := Fk_fn h args
theorem f1_sum {ns : List Int} {first start : Int} (hs : 0 ≤ start) (hn : ns.length ≤ 63) : ∃ s : Nat, start ≤ s ∧ F1 12 [.list (ns.map .int), .int first, .int start] = some (.int s) := by
  obtain ⟨s, h1, h2⟩ := sum_law (F := Fk L1.tab 40 1) (fuel := 40) (ns := ns) (first := first) (start := start) (st := 4) (by decide) hn
  refine ⟨s.toNat, by omega, ?_⟩
  rw [f1_fn (np := 3) (ns := 3) (b := L1.b_law_sum) rfl]
  have : ((s.toNat : Nat) : Int) = s := by omega
  rw [this]; exact h2
theorem f1_word {rs : List Nat} {r : Nat} (hl : rs.length ≤ 100) (hk : ∀ k ∈ rs, k ≤ 100) (hr : r ≤ 100) : F1 13 [.list (nts rs), .int r] = some (.str (word rs r)) := by
  rw [f1_fn (np := 2) (ns := 2) (b := L1.b_law_word) rfl]; exact word_ok hl hk hr
theorem f1_looks {rs : List Nat} (hl : rs.length ≤ 100) (hb : ∀ k ∈ rs, k ≤ 1000) : F1 14 [.list (nts rs)] = some (.list (lls (looksP rs))) := by
  rw [f1_fn (np := 1) (ns := 7) (b := L1.b_law_looks) rfl]; exact looks_ok hl hb
theorem f1_order {rs : List Nat} {num : Nat} (hl : rs.length ≤ 100) : ∃ row : List Nat, F1 15 [.list (nts rs), .int num] = some (.list (nts row)) ∧ row.Perm rs := by
  rw [f1_fn (np := 2) (ns := 6) (b := L1.b_law_order) rfl]; exact order_ok hl
theorem f1_stroke {lead : List Nat} {n : Nat} (hL : Lead lead) (hl : lead.length ≤ 100) : ∃ l' : List Nat, F1 16 [.str lead, .int n] = some (.str l') ∧ Lead l' ∧ ed lead l' ≤ 1 ∧ l'.length ≤ lead.length + 1 := by
  rw [f1_fn (np := 2) (ns := 4) (b := L1.b_law_stroke) rfl]; exact stroke_ok hL hl
theorem f1_one {a b : List Nat} (ha : a.length ≤ 1000) (hb : b.length ≤ 1000) : F1 17 [.str a, .str b] = some (.bool (decide (ed a b = 1))) := by
  rw [f1_fn (np := 2) (ns := 4) (b := L1.b_law_one_stroke) rfl]; exact one_ok ha hb
theorem f1_col {l : List Nat} {ts : Nat} (hts : 0 < ts) (hl : l.length ≤ 10000) : F1 18 [.str l, .int ts] = some (.int (colP l ts)) := by
  rw [f1_fn (np := 2) (ns := 4) (b := L1.b_law_column) rfl]; exact col_ok hts hl
theorem f1_new {ws : List Nat} (h : ws.length ≤ 1000) : F1 0 [.str ws] = some (wsI ws (wsOf ws)) := new_w hasW1 h
theorem f1_lev {a b : List Nat} {m : Int} (ha : Lead a) (hb : Lead b) (la : a.length ≤ 38) (lb : b.length ≤ 38) : ∃ z, F1 11 [.str a, .str b, .int m] = some (.int z) ∧ LevP a b m z :=
  lev_w (k := 0) hasW1 (fun c hc => by rcases ha c hc with rfl | rfl <;> rfl) (fun c hc => by rcases hb c hc with rfl | rfl <;> rfl) la lb

section
variable {F : Nat → List V → Option V} {ρ : List V} {fuel : Nat}
theorem me_ws {f : Nat} {o as : X} {u : List Nat} {x : Ws} {xs : List V} (h1 : ev F ρ o = some (wsI u x)) (h2 : evs F ρ as = some xs) : ev F ρ (.me f o as) = F f (wsI u x :: xs) := by
  rw [ev_q15, h1, Option.bind_some, h2, Option.bind_some]; rfl
theorem is_b (a b : Bool) : cmpop .IsNot (.bool a) (.bool b) = some (!(a == b)) := rfl
theorem is_same (a : Bool) : cmpop .IsNot (.bool a) (.bool a) = some false := by rw [is_b]; simp
/-- the split's lengths, greatest -/
theorem max_ev {x : X} {l : List Nat} (h : ev F ρ x = some (.list (nts l))) (hn : l ≠ []) (hl : l.length ≤ 1000) : ev F ρ (.bi .max1 (.cons x .nil)) = some (.int (mxN l)) := by
  rw [bi_ev' (evs1 h)]
  show (toInts (nts l)).bind _ = _
  rw [toInts_nts, Option.bind_some]
  have h0 : ¬ (l.map (fun (k : Nat) => (k : Int)) = [] ∨ lim < (l.map fun (k : Nat) => (k : Int)).length) := by
    rw [List.length_map]
    intro q
    rcases q with q | q
    · exact hn (by simpa using q)
    · have : lim < l.length := q
      have : lim = 1048576 := rfl
      lia
  rw [if_neg h0, maxL_n l hn]
theorem split_ev {x s : X} {l : List Nat} (h : ev F ρ x = some (.str l)) (h' : ev F ρ s = some (.str [9])) (hl : l.length ≤ 1000) (hs : (spl l).length ≤ 1000) : ev F ρ (.sm .split x (.cons s .nil)) = some (.list ((spl l).map V.str)) := by
  rw [ev_q16, h, Option.bind_some, evs1 h', Option.bind_some]
  show (if l.length ≤ lim ∧ (splitV l [9]).length ≤ lim then some (V.list ((splitV l [9]).map V.str)) else none) = _
  rw [splitV_eq, if_pos ⟨lim_le (by lia), lim_le (by omega)⟩]
theorem spl_len : ∀ l : List Nat, (spl l).length ≤ l.length + 1
  | [] => by simp [spl]
  | c :: l => by
    have := spl_len l
    rw [spl]
    split
    · simp; omega
    · split
      · simp
      · rename_i p r e
        rw [e] at this
        simp at this ⊢; lia
theorem spl_short : ∀ (l p : List Nat), p ∈ spl l → p.length ≤ l.length
  | [], p, h => by
    rw [spl, List.mem_singleton] at h; rw [h]; exact Nat.le_refl _
  | c :: l, p, h => by
    rw [spl] at h
    split at h
    · rcases List.mem_cons.mp h with rfl | h
      · simp
      · have := spl_short l p h; simp; omega
    · split at h
      · rw [List.mem_singleton] at h; rw [h]; simp
      · rename_i q r e
        rcases List.mem_cons.mp h with rfl | h
        · have := spl_short l q (by rw [e]; exact List.mem_cons_self ..)
          simp; omega
        · have := spl_short l p (by rw [e]; exact List.mem_cons_of_mem _ h)
          simp; omega
/-- the lengths of the runs, as a comprehension over the split -/
theorem splen_ev {x s : X} {l : List Nat} {n : Nat} (hn : ρ.length = n) (h : ev F ρ x = some (.str l)) (h' : ev F ρ s = some (.str [9])) (hl : l.length ≤ 900) :
    ev F ρ (.comp (.bi .len (.cons (.v n) .nil)) n false (.sm .split x (.cons s .nil)) .yes) = some (.list (nts ((spl l).map List.length))) := by
  have hs := spl_len l
  have := comp_map (F := F) (ρ := ρ) (l := spl l) (g := V.str) (f := fun p => V.int p.length) (e := .bi .len (.cons (.v n) .nil)) (tgt := n) (split_ev h h' (by lia) (by lia)) (items_list (by rw [List.length_map]; exact lim_le (by grind))) (fun p hp => by
    refine len_s (l := p) ?_ (by have := spl_short l p hp; lia)
    rw [ev_q2]
    unfold getV
    rw [List.getElem?_set, if_pos rfl, if_pos (by simp [hn])])
  rw [this]
  unfold nts
  rw [List.map_map]; rfl
end

/-! rows by the columns -/
noncomputable def rowC (a b : List Nat) (j : Nat) : V := rowV j (colP a j) (colP b j)
theorem wit_col {p : Nat → Nat → Bool} {a b : List Nat} (ha : Lead a) (hb : Lead b) (k : Nat) : witP p (wsOf a) (wsOf b) 1 k = ((List.range' 1 k).filter fun j => p (colP a j) (colP b j)).map (rowC a b) := by
  rw [witP_eq]
  have e : (List.range' 1 k).filter (fun j => p ((wsOf a).ind j) ((wsOf b).ind j)) = (List.range' 1 k).filter fun j => p (colP a j) (colP b j) := by
    refine List.filter_congr fun j hj => ?_
    have := (List.mem_range'_1.mp hj).1
    rw [ind_col ha this, ind_col hb this]
  rw [e]
  refine List.map_congr_left fun j hj => ?_
  have := (List.mem_range'_1.mp (List.mem_filter.mp hj).1).1
  rw [ind_col ha this, ind_col hb this]; rfl
theorem less_col {a b : List Nat} (ha : Lead a) (hb : Lead b) : lessP (wsOf a) (wsOf b) = ((List.range' 1 (topP (wsOf a) (wsOf b))).filter fun j => geP (colP a j) (colP b j)).isEmpty := by
  rw [less_lead ha hb]
  unfold against
  congr 1
  refine List.filter_congr fun j hj => ?_
  have := (List.mem_range'_1.mp hj).1
  rw [ind_col ha this, ind_col hb this]
theorem topP_comm (x y : Ws) : topP x y = topP y x := by unfold topP; grind
end Mine
end
section
set_option maxRecDepth 100000
set_option backward.match.sparseCases false
namespace Mine
open PySem PySem.W PyProof.Rows

theorem f1_eq {u v : List Nat} {x y : Ws} : F1 3 [wsI u x, wsI v y] = some (.bool (x.c == y.c && x.b == y.b)) := equal_w hasW1
theorem f1_nw {u v : List Nat} {x y : Ws} (hx : x.small) (hy : y.small) : F1 4 [wsI u x, wsI v y] = some (.list (witP neP x y 1 (topP x y))) := new_wit (k := 0) hasW1 hx hy
theorem f1_less {u v : List Nat} {x y : Ws} (hx : x.small) (hy : y.small) : F1 5 [wsI u x, wsI v y] = some (.bool (lessP x y)) := less_w (k := 0) hasW1 hx hy
theorem f1_nl {u v : List Nat} {x y : Ws} (hx : x.small) (hy : y.small) : F1 6 [wsI u x, wsI v y] = some (.list (witP geP x y 1 (topP x y))) := nl_wit (k := 0) hasW1 hx hy

/-- the state of law 01 inside its loops -/
noncomputable def St (s v1 v3 lk ord strk onc : V) (last rest : Nat) (lead : List Nat) (h o t top rows ag told col : V) : List V :=
  [s, v1, .int last, v3, .int rest, .str lead, lk, ord, strk, onc, h, o, t, top, rows, ag, told, col]

noncomputable def a1 : S := (.asg 12 (.new (.cons (.bin .Add (.v 11) (.k (.str [10]))) .nil)))
noncomputable def a2 : S := (.asg 13 (.bin .Add (.k (.int 1)) (.bi .max1 (.cons (.comp (.bi .len (.cons (.v 18) .nil)) 18 false (.sm .split (.bin .Add (.bin .Add (.v 5) (.k (.str [9]))) (.v 11)) (.cons (.k (.str [9])) .nil)) .yes) .nil))))
noncomputable def a3 : S := (.asg 14 (.comp (.tup (.cons (.v 18) (.cons (.fn 18 (.cons (.v 5) (.cons (.v 18) .nil))) (.cons (.fn 18 (.cons (.v 11) (.cons (.v 18) .nil))) .nil)))) 18 false (.bi .range2 (.cons (.k (.int 1)) (.cons (.bin .Add (.v 13) (.k (.int 1))) .nil))) .yes))
noncomputable def rf : S := .seq (.ret (.k (.bool false))) .skip
noncomputable def c1 : X := (.cmp .NotEq (.me 4 (.v 10) (.cons (.v 12) .nil)) (.comp (.v 18) 18 false (.v 14) (.cmp .NotEq (.item (.v 18) (.k (.int 1))) (.item (.v 18) (.k (.int 2))))))
noncomputable def a4 : S := (.asg 15 (.comp (.v 18) 18 false (.v 14) (.cmp .GtE (.item (.v 18) (.k (.int 1))) (.item (.v 18) (.k (.int 2))))))
noncomputable def c2 : X := (.ors (.cons (.cmp .NotEq (.me 6 (.v 10) (.cons (.v 12) .nil)) (.v 15)) (.cons (.cmp .IsNot (.me 5 (.v 10) (.cons (.v 12) .nil)) (.cmp .Eq (.v 15) (.list .nil))) .nil)))
noncomputable def c3 : X := (.cmp .IsNot (.me 5 (.v 12) (.cons (.v 10) .nil)) (.cmp .Eq (.comp (.v 18) 18 false (.v 14) (.cmp .GtE (.item (.v 18) (.k (.int 2))) (.item (.v 18) (.k (.int 1))))) (.list .nil)))
noncomputable def c4 : X := (.cmp .IsNot (.me 3 (.v 10) (.cons (.v 12) .nil)) (.cmp .In (.v 11) (.v 6)))
noncomputable def a5 : S := (.asg 16 (.fn 11 (.cons (.v 5) (.cons (.v 11) (.cons (.k (.int 4)) .nil)))))
noncomputable def c5 : X := (.ors (.cons (.bi .isBool (.cons (.v 16) .nil)) (.cons (.cmp .NotEq (.v 16) (.ite (.cmp .Eq (.v 11) (.v 5)) (.k (.int 0)) (.ite (.fn 17 (.cons (.v 5) (.cons (.v 11) .nil))) (.k (.int 2)) (.k (.int 4))))) .nil)))
noncomputable def lpB1 : S := .seq a1 (.seq a2 (.seq a3 (.seq (.iff c1 rf .skip) (.seq a4 (.seq (.iff c2 rf .skip) (.seq (.iff c3 rf .skip) (.seq (.iff c4 rf .skip) (.seq a5 (.seq (.iff c5 rf .skip) .skip)))))))))

section
variable {F : Nat → List V → Option V} {ρ : List V} {fuel : Nat}
theorem iff_skip {c : X} {a : S} {b : S} (h : tst F ρ c = some false) : ex F fuel (.seq (.iff c a .skip) b) ρ = ex F fuel b ρ := seq_ex (by rw [iff_f h]; exact skip_ex)
end

theorem spl_ne : ∀ l : List Nat, spl l ≠ []
  | [] => by simp [spl]
  | c :: l => by
    rw [spl]
    split
    · simp
    · split <;> simp
section
variable {F : Nat → List V → Option V} {ρ : List V} {op : CmpOp} {p : Nat → Nat → Bool} {a b l : List Nat} {it : X} {n : Nat}
theorem get_last {x : V} (hn : ρ.length = n) (hx : x ≠ .undef) : ev F ((ρ ++ [V.undef, V.undef]).set n x) (.v n) = some x := by
  rw [ev_q2]
  unfold getV
  rw [List.getElem?_set, if_pos rfl, if_pos (by simp [hn])]
  cases x <;> first | rfl | exact absurd rfl hx
theorem rows12 (hop : ∀ a b : Nat, cmpop op (.int a) (.int b) = some (p a b)) (hn : ρ.length = n) (hi : ev F ρ it = some (.list (l.map (rowC a b)))) (hl : l.length ≤ 10000) :
    ev F ρ (.comp (.v n) n false it (.cmp op (.item (.v n) (.k (.int 1))) (.item (.v n) (.k (.int 2))))) = some (.list ((l.filter fun j => p (colP a j) (colP b j)).map (rowC a b))) := by
  refine comp_filter hi (items_list (by rw [List.length_map]; exact lim_le (by lia))) (fun j _ => ?_) (fun j _ _ => get_last hn (by unfold rowC rowV; simp))
  have g := get_last (F := F) (x := rowC a b j) hn (by unfold rowC rowV; simp)
  exact cmp_t' (item_tup (k := 1) (z := .int (colP a j)) g (by rw [ev_q1]; rfl) (by decide) rfl) (item_tup (k := 2) (z := .int (colP b j)) g (by rw [ev_q1]; rfl) (by decide) rfl) (hop _ _)
theorem rows21 (hop : ∀ a b : Nat, cmpop op (.int a) (.int b) = some (p a b)) (hn : ρ.length = n) (hi : ev F ρ it = some (.list (l.map (rowC a b)))) (hl : l.length ≤ 10000) :
    ev F ρ (.comp (.v n) n false it (.cmp op (.item (.v n) (.k (.int 2))) (.item (.v n) (.k (.int 1))))) = some (.list ((l.filter fun j => p (colP b j) (colP a j)).map (rowC a b))) := by
  refine comp_filter hi (items_list (by rw [List.length_map]; exact lim_le (by omega))) (fun j _ => ?_) (fun j _ _ => get_last hn (by unfold rowC rowV; simp))
  have g := get_last (F := F) (x := rowC a b j) hn (by unfold rowC rowV; simp)
  exact cmp_t' (item_tup (k := 2) (z := .int (colP b j)) g (by rw [ev_q1]; rfl) (by decide) rfl) (item_tup (k := 1) (z := .int (colP a j)) g (by rw [ev_q1]; rfl) (by decide) rfl) (hop _ _)
end

theorem ok_rowC (a b : List Nat) (l : List Nat) : okV 4 (.list (l.map (rowC a b))) = true := ok_rows l id (colP a) (colP b)
theorem rowC_empty (a b : List Nat) (l : List Nat) : cmpop .Eq (.list (l.map (rowC a b))) (.list []) = some l.isEmpty := rows_empty l id (colP a) (colP b)

theorem lp1 {s v1 v3 ord strk onc : V} {last rest : Nat} {lead other : List Nat} {t top rows ag told col : V} {u : List Nat} {lks : List (List Nat)}
    (hL : Lead lead) (hO : Lead other) (ll : lead.length ≤ 30) (lo : other.length ≤ 35)
    (hE : ((wsOf lead).c == (wsOf other).c && (wsOf lead).b == (wsOf other).b) = lks.any fun l => l == other) (he : ed lead other ≤ 2) :
    ∃ t' top' rows' ag' told', ex F1 40 lpB1 (St s v1 v3 (.list (lks.map V.str)) ord strk onc last rest lead (wsI u (wsOf lead)) (.str other) t top rows ag told col) =
      some (.next (St s v1 v3 (.list (lks.map V.str)) ord strk onc last rest lead (wsI u (wsOf lead)) (.str other) t' top' rows' ag' told' col)) := by
  have sL : (wsOf lead).small := wsOf_small (by omega)
  have sO : (wsOf other).small := wsOf_small (by lia)
  have tp := splen_top hL hO
  have ht := top_le sL sO
  obtain ⟨z, ez, hz⟩ := f1_lev (m := 4) hL hO (by lia) (by lia)
  generalize hT : topP (wsOf lead) (wsOf other) = T at tp ht
  have hzz : z = 2 * ed lead other := by
    rcases hz with hz | ⟨h1, _⟩
    · exact hz
    · lia
  refine ⟨wsI (other ++ [10]) (wsOf other), .int T, .list ((List.range' 1 T).map (rowC lead other)), .list (((List.range' 1 T).filter fun j => geP (colP lead j) (colP other j)).map (rowC lead other)), .int z, ?_⟩
  unfold lpB1
  -- there
  rw [seq_ex (ρ' := St s v1 v3 (.list (lks.map V.str)) ord strk onc last rest lead (wsI u (wsOf lead)) (.str other) (wsI (other ++ [10]) (wsOf other)) top rows ag told col) (by
    unfold a1
    rw [asg_ex (x := wsI (other ++ [10]) (wsOf other)) (by
      rw [new_ev' (evs1 (cat_s (x := other) (y := [10]) rfl rfl (by simp; lia))), f1_new (by simp; lia), wsOf_stop (by decide) (by decide) [] hO])]; rfl)]
  -- top
  rw [seq_ex (ρ' := St s v1 v3 (.list (lks.map V.str)) ord strk onc last rest lead (wsI u (wsOf lead)) (.str other) (wsI (other ++ [10]) (wsOf other)) (.int T) rows ag told col) (by
    unfold a2
    have e1 := splen_ev (F := F1) (ρ := St s v1 v3 (.list (lks.map V.str)) ord strk onc last rest lead (wsI u (wsOf lead)) (.str other) (wsI (other ++ [10]) (wsOf other)) top rows ag told col) (x := .bin .Add (.bin .Add (.v 5) (.k (.str [9]))) (.v 11)) (s := .k (.str [9])) (n := 18) rfl
      (cat_s (x := lead ++ [9]) (y := other) (cat_s (x := lead) (y := [9]) rfl rfl (by simp; lia)) rfl (by simp; lia)) rfl (by simp; lia)
    rw [List.append_assoc] at e1
    have hsl := spl_len (lead ++ 9 :: other)
    have e2 := max_ev e1 (by
      rw [ne_eq, List.map_eq_nil_iff]; exact spl_ne _) (by
      rw [List.length_map]
      show (spl (lead ++ 9 :: other)).length ≤ 1000
      simp at hsl
      lia)
    rw [asg_ex (x := .int T) (by
      have e3 := add_n (x := 1) (a := .k (.int 1)) (F := F1) (ρ := St s v1 v3 (.list (lks.map V.str)) ord strk onc last rest lead (wsI u (wsOf lead)) (.str other) (wsI (other ++ [10]) (wsOf other)) top rows ag told col) rfl e2
      have : 1 + mxN ((spl (lead ++ ([9] ++ other))).map List.length) = T := tp
      rw [this] at e3
      exact e3)]; rfl)]
  -- rows
  rw [seq_ex (ρ' := St s v1 v3 (.list (lks.map V.str)) ord strk onc last rest lead (wsI u (wsOf lead)) (.str other) (wsI (other ++ [10]) (wsOf other)) (.int T) (.list ((List.range' 1 T).map (rowC lead other))) ag told col) (by
    unfold a3
    have e1 := comp_map (F := F1) (ρ := St s v1 v3 (.list (lks.map V.str)) ord strk onc last rest lead (wsI u (wsOf lead)) (.str other) (wsI (other ++ [10]) (wsOf other)) (.int T) rows ag told col) (l := List.range' 1 T) (g := fun (j : Nat) => V.int j) (f := rowC lead other) (e := .tup (.cons (.v 18) (.cons (.fn 18 (.cons (.v 5) (.cons (.v 18) .nil))) (.cons (.fn 18 (.cons (.v 11) (.cons (.v 18) .nil))) .nil)))) (it := .bi .range2 (.cons (.k (.int 1)) (.cons (.bin .Add (.v 13) (.k (.int 1))) .nil))) (tgt := 18) (x := .range (1 : Nat) ((T + 1 : Nat)) 1)
      (range_ev rfl (add_n (x := T) (y := 1) rfl rfl)) (by rw [range_mid (by lia) (by omega), Nat.add_sub_cancel]) (fun j hj => by
        have hj := (List.mem_range'_1.mp hj).1
        exact tup_ev (evs3 (x := .int j) (y := .int (colP lead j)) (z := .int (colP other j)) rfl (by rw [fn_ev' (evs2 (x := .str lead) (y := .int j) rfl rfl)]; exact f1_col hj (by grind)) (by rw [fn_ev' (evs2 (x := .str other) (y := .int j) rfl rfl)]; exact f1_col hj (by lia))) (by simp))
    rw [asg_ex e1]; rfl)]
  have lr : (List.range' 1 T).length ≤ 10000 := by rw [List.length_range']; grind
  -- the first test
  rw [iff_skip (c := c1) (by
    unfold c1
    refine cmp_t' (x := .list (((List.range' 1 T).filter fun j => neP (colP lead j) (colP other j)).map (rowC lead other))) ?_ (rows12 (n := 18) op_ne rfl rfl lr) (ne_same (ok_rowC _ _ _))
    rw [me_ws (u := u) (x := wsOf lead) rfl (evs1 (x := wsI (other ++ [10]) (wsOf other)) rfl), f1_nw sL sO, wit_col hL hO, hT])]
  -- against
  rw [seq_ex (ρ' := St s v1 v3 (.list (lks.map V.str)) ord strk onc last rest lead (wsI u (wsOf lead)) (.str other) (wsI (other ++ [10]) (wsOf other)) (.int T) (.list ((List.range' 1 T).map (rowC lead other))) (.list (((List.range' 1 T).filter fun j => geP (colP lead j) (colP other j)).map (rowC lead other))) told col) (by
    unfold a4
    rw [asg_ex (rows12 (n := 18) (l := List.range' 1 T) (a := lead) (b := other) op_ge rfl rfl lr)]; rfl)]
  rw [iff_skip (c := c2) (by
    unfold c2
    refine ors2 (x := false) (y := false) ?_ fun _ => ?_
    · refine cmp_t' (x := .list (((List.range' 1 T).filter fun j => geP (colP lead j) (colP other j)).map (rowC lead other))) ?_ rfl (ne_same (ok_rowC _ _ _))
      rw [me_ws (u := u) (x := wsOf lead) rfl (evs1 (x := wsI (other ++ [10]) (wsOf other)) rfl), f1_nl sL sO, wit_col hL hO, hT]
    · refine cmp_t' (x := .bool ((List.range' 1 T).filter fun j => geP (colP lead j) (colP other j)).isEmpty) ?_ (cmp_ev rfl (list_ev evs0 (by simp)) (rowC_empty _ _ _)) (is_same _)
      rw [me_ws (u := u) (x := wsOf lead) rfl (evs1 (x := wsI (other ++ [10]) (wsOf other)) rfl), f1_less sL sO, less_col hL hO, hT])]
  rw [iff_skip (c := c3) (by
    unfold c3
    refine cmp_t' (x := .bool ((List.range' 1 T).filter fun j => geP (colP other j) (colP lead j)).isEmpty) ?_ (cmp_ev (rows21 (n := 18) (l := List.range' 1 T) (a := lead) (b := other) op_ge rfl rfl lr) (list_ev evs0 (by simp)) (rowC_empty _ _ _)) (is_same _)
    rw [me_ws (u := other ++ [10]) (x := wsOf other) rfl (evs1 (x := wsI u (wsOf lead)) rfl), f1_less sO sL, less_col hO hL, topP_comm, hT])]
  rw [iff_skip (c := c4) (by
    unfold c4
    refine cmp_t' (x := .bool (lks.any fun l => l == other)) ?_ (cmp_ev (x := .str other) (y := .list (lks.map V.str)) rfl rfl (in_strs other lks fun l => l)) (is_same _)
    rw [me_ws (u := u) (x := wsOf lead) rfl (evs1 (x := wsI (other ++ [10]) (wsOf other)) rfl), f1_eq, hE])]
  -- told
  rw [seq_ex (ρ' := St s v1 v3 (.list (lks.map V.str)) ord strk onc last rest lead (wsI u (wsOf lead)) (.str other) (wsI (other ++ [10]) (wsOf other)) (.int T) (.list ((List.range' 1 T).map (rowC lead other))) (.list (((List.range' 1 T).filter fun j => geP (colP lead j) (colP other j)).map (rowC lead other))) (.int z) col) (by
    unfold a5
    rw [asg_ex (x := .int z) (by rw [fn_ev' (evs3 (x := .str lead) (y := .str other) (z := .int 4) rfl rfl rfl)]; exact ez)]; rfl)]
  rw [iff_skip (c := c5) (by
    unfold c5
    refine ors2 (x := false) (y := false) rfl fun _ => ?_
    refine cmp_t' (x := .int z) (y := .int z) rfl ?_ (ne_same rfl)
    have tE : ∀ ρ : List V, ev F1 ρ (.v 11) = some (.str other) → ev F1 ρ (.v 5) = some (.str lead) → tst F1 ρ (.cmp .Eq (.v 11) (.v 5)) = some (other == lead) := fun ρ h1 h2 => cmp_t' h1 h2 (eq_strs _ _)
    by_cases q : other = lead
    · refine ite_t ((tE _ rfl rfl).trans (by rw [q, beq_self_eq_true])) ?_
      rw [hzz, q, ed_self]; rfl
    · refine ite_f ((tE _ rfl rfl).trans (by rw [beq_eq_false_iff_ne.mpr q])) ?_
      have hne : ed lead other ≠ 0 := fun e => q (ed_zero e).symm
      have tO : tst F1 (St s v1 v3 (.list (lks.map V.str)) ord strk onc last rest lead (wsI u (wsOf lead)) (.str other) (wsI (other ++ [10]) (wsOf other)) (.int T) (.list ((List.range' 1 T).map (rowC lead other))) (.list (((List.range' 1 T).filter fun j => geP (colP lead j) (colP other j)).map (rowC lead other))) (.int z) col) (.fn 17 (.cons (.v 5) (.cons (.v 11) .nil))) = some (decide (ed lead other = 1)) := by
        rw [tst_q9, evs2 (x := .str lead) (y := .str other) rfl rfl, Option.bind_some, f1_one (by lia) (by lia)]; rfl
      by_cases q1 : ed lead other = 1
      · refine ite_t (tO.trans (by rw [decide_eq_true q1])) ?_
        rw [hzz, q1]; rfl
      · refine ite_f (tO.trans (by rw [decide_eq_false q1])) ?_
        rw [hzz, show ed lead other = 2 by lia]; rfl)]
  exact skip_ex
end Mine
end
section
set_option maxRecDepth 100000
set_option backward.match.sparseCases false
namespace Mine
open PySem PySem.W PyProof.Rows

noncomputable def b1 : S := (.asg 12 (.new (.cons (.bin .Add (.v 11) (.k (.str [35, 9, 32]))) .nil)))
noncomputable def b2 : S := (.asg 17 (.comp (.fn 18 (.cons (.v 5) (.cons (.v 18) .nil))) 18 false (.bi .range2 (.cons (.k (.int 1)) (.cons (.bin .Add (.k (.int 2)) (.bi .max1 (.cons (.bin .Add (.list (.cons (.v 4) .nil)) (.v 3)) .nil))) .nil))) .yes))
noncomputable def d1 : X := (.cmp .NotEq (.me 6 (.v 10) (.cons (.v 12) .nil)) (.comp (.tup (.cons (.bin .Add (.v 18) (.k (.int 1))) (.cons (.item (.v 17) (.v 18)) (.cons (.item (.v 17) (.v 18)) .nil)))) 18 false (.bi .range1 (.cons (.bi .len (.cons (.v 17) .nil)) .nil)) .yes))
noncomputable def d2 : X := (.ors (.cons (.cmp .IsNot (.me 3 (.v 10) (.cons (.v 12) .nil)) (.k (.bool true))) (.cons (.cmp .IsNot (.me 5 (.v 10) (.cons (.v 12) .nil)) (.k (.bool false))) (.cons (.cmp .IsNot (.me 5 (.v 12) (.cons (.v 10) .nil)) (.k (.bool false))) .nil))))
noncomputable def d3 : X := (.ite (.cmp .In (.v 11) (.v 6)) (.cmp .NotEq (.v 16) (.ite (.cmp .Eq (.v 11) (.v 5)) (.k (.int 0)) (.k (.int 4)))) (.cmp .LtE (.v 16) (.k (.int 4))))
noncomputable def d4 : X := (.cmp .IsNot (.cmp .Gt (.fn 11 (.cons (.v 11) (.cons (.v 5) (.cons (.k (.int 2)) .nil)))) (.k (.int 2))) (.cmp .NotEq (.v 11) (.v 5)))
noncomputable def lpB2 : S := .seq b1 (.seq b2 (.seq (.iff d1 rf .skip) (.seq (.iff d2 rf .skip) (.seq a5 (.seq (.iff d3 rf .skip) (.seq (.iff d4 rf .skip) .skip))))))

theorem lessP_self (x : Ws) : lessP x x = false := by unfold lessP; rw [if_pos (Nat.le_refl _)]
theorem tst_ite_t {F : Nat → List V → Option V} {ρ : List V} {c a b : X} {t : Bool} (h : tst F ρ c = some true) (h1 : tst F ρ a = some t) : tst F ρ (.ite c a b) = some t := by rw [tst_q4, h]; exact h1
theorem tst_ite_f {F : Nat → List V → Option V} {ρ : List V} {c a b : X} {t : Bool} (h : tst F ρ c = some false) (h1 : tst F ρ b = some t) : tst F ρ (.ite c a b) = some t := by rw [tst_q4, h]; exact h1

theorem lp2 {s v1 ord strk onc : V} {last r : Nat} {rs p : List Nat} {t top rows ag told col : V} {u : List Nat} {lks : List (List Nat)}
    (hl : rs.length ≤ 4) (hk : ∀ k ∈ rs, k < 4) (hr : r ≤ 10) (hp : p.Perm rs) (hin : (lks.any fun l => l == word p r) = decide (ed (word rs r) (word p r) ≤ 2)) :
    ∃ t' col' told', ex F1 40 lpB2 (St s v1 (.list (nts rs)) (.list (lks.map V.str)) ord strk onc last r (word rs r) (wsI u (wsOf (word rs r))) (.str (word p r)) t top rows ag told col) =
      some (.next (St s v1 (.list (nts rs)) (.list (lks.map V.str)) ord strk onc last r (word rs r) (wsI u (wsOf (word rs r))) (.str (word p r)) t' top rows ag told' col')) := by
  have hL := lead_word rs r
  have hO := lead_word p r
  have ll := word_len4 hl hk r
  have lo : (word p r).length ≤ 16 + r := word_len4 (by rw [hp.length_eq]; exact hl) (fun k hkp => hk k (hp.mem_iff.mp hkp)) r
  have hw := perm_ws hp r
  have hne1 := ed_perm hp r
  have hT : topP (wsOf (word rs r)) (wsOf (word rs r)) = max r (mxN rs) + 1 := by unfold topP; rw [long_word]; grind
  have hM : max r (mxN rs) ≤ 1000 := by
    have : mxN rs ≤ 4 := by
      rw [mxN_eq]
      have := (mx_lt (l := rs) (n := 4)).mpr hk
      omega
    omega
  have hMx : mxN (r :: rs) = max r (mxN rs) := rfl
  generalize max r (mxN rs) = M at hT hM hMx
  have sL : (wsOf (word rs r)).small := wsOf_small (by lia)
  generalize hlead : word rs r = lead at *
  generalize hother : word p r = other at *
  obtain ⟨z, ez, hz⟩ := f1_lev (m := 4) hL hO (by lia) (by lia)
  obtain ⟨z2, ez2, hz2⟩ := f1_lev (m := 2) hO hL (by lia) (by lia)
  refine ⟨wsI (other ++ [35, 9, 32]) (wsOf lead), .list ((List.range' 1 (M + 1)).map fun j => .int (colP lead j)), .int z, ?_⟩
  unfold lpB2
  rw [seq_ex (ρ' := St s v1 (.list (nts rs)) (.list (lks.map V.str)) ord strk onc last r lead (wsI u (wsOf lead)) (.str other) (wsI (other ++ [35, 9, 32]) (wsOf lead)) top rows ag told col) (by
    unfold b1
    rw [asg_ex (x := wsI (other ++ [35, 9, 32]) (wsOf lead)) (by
      rw [new_ev' (evs1 (cat_s (x := other) (y := [35, 9, 32]) rfl rfl (by simp; lia))), f1_new (by simp; omega), wsOf_stop (by decide) (by decide) [9, 32] hO, hw])]; rfl)]
  rw [seq_ex (ρ' := St s v1 (.list (nts rs)) (.list (lks.map V.str)) ord strk onc last r lead (wsI u (wsOf lead)) (.str other) (wsI (other ++ [35, 9, 32]) (wsOf lead)) top rows ag told (.list ((List.range' 1 (M + 1)).map fun j => .int (colP lead j)))) (by
    unfold b2
    have e0 := max_ev (F := F1) (ρ := St s v1 (.list (nts rs)) (.list (lks.map V.str)) ord strk onc last r lead (wsI u (wsOf lead)) (.str other) (wsI (other ++ [35, 9, 32]) (wsOf lead)) top rows ag told col) (x := .bin .Add (.list (.cons (.v 4) .nil)) (.v 3)) (l := r :: rs)
      (cat_l (x := [.int r]) (y := nts rs) (list_ev (evs1 rfl) (by simp)) rfl (by simp; omega)) (by simp) (by simp; lia)
    rw [hMx] at e0
    have e1 := comp_map (F := F1) (ρ := St s v1 (.list (nts rs)) (.list (lks.map V.str)) ord strk onc last r lead (wsI u (wsOf lead)) (.str other) (wsI (other ++ [35, 9, 32]) (wsOf lead)) top rows ag told col) (l := List.range' 1 (M + 1)) (g := fun (j : Nat) => V.int j) (f := fun j => .int (colP lead j)) (e := .fn 18 (.cons (.v 5) (.cons (.v 18) .nil))) (it := .bi .range2 (.cons (.k (.int 1)) (.cons (.bin .Add (.k (.int 2)) (.bi .max1 (.cons (.bin .Add (.list (.cons (.v 4) .nil)) (.v 3)) .nil))) .nil))) (tgt := 18) (x := .range (1 : Nat) ((2 + M : Nat)) 1)
      (range_ev rfl (add_n (x := 2) (y := M) rfl e0)) (by rw [range_mid (by omega) (by lia), show 2 + M - 1 = M + 1 by grind]) (fun j hj => by
        have hj := (List.mem_range'_1.mp hj).1
        rw [fn_ev' (evs2 (x := .str lead) (y := .int j) rfl rfl)]; exact f1_col hj (by omega))
    rw [asg_ex e1]; rfl)]
  have lcol : ((List.range' 1 (M + 1)).map fun j => V.int (colP lead j)).length = M + 1 := by rw [List.length_map, List.length_range']
  -- the witness
  rw [iff_skip (c := d1) (by
    unfold d1
    have e1 := comp_map (F := F1) (ρ := St s v1 (.list (nts rs)) (.list (lks.map V.str)) ord strk onc last r lead (wsI u (wsOf lead)) (.str other) (wsI (other ++ [35, 9, 32]) (wsOf lead)) top rows ag told (.list ((List.range' 1 (M + 1)).map fun j => .int (colP lead j)))) (l := List.range (M + 1)) (g := fun (j : Nat) => V.int j) (f := fun k => rowC lead lead (1 + k)) (e := .tup (.cons (.bin .Add (.v 18) (.k (.int 1))) (.cons (.item (.v 17) (.v 18)) (.cons (.item (.v 17) (.v 18)) .nil)))) (it := .bi .range1 (.cons (.bi .len (.cons (.v 17) .nil)) .nil)) (tgt := 18) (x := .range 0 ((M + 1 : Nat)) 1)
      (by
        rw [bi_ev' (evs1 (len_l (x := (List.range' 1 (M + 1)).map fun j => V.int (colP lead j)) rfl (by rw [lcol]; grind))), lcol]; rfl)
      (range_items (by grind)) (fun k hk' => by
        rw [List.mem_range] at hk'
        have hg : ((List.range' 1 (M + 1)).map fun j => V.int (colP lead j))[k]? = some (.int (colP lead (1 + k))) := by
          rw [List.getElem?_map, List.getElem?_range' hk', Nat.one_mul]; rfl
        have e3 := tup_ev (evs3 (F := F1) (ρ := (St s v1 (.list (nts rs)) (.list (lks.map V.str)) ord strk onc last r lead (wsI u (wsOf lead)) (.str other) (wsI (other ++ [35, 9, 32]) (wsOf lead)) top rows ag told (.list ((List.range' 1 (M + 1)).map fun j => .int (colP lead j))) ++ [V.undef, V.undef]).set 18 (.int k)) (a := .bin .Add (.v 18) (.k (.int 1))) (b := .item (.v 17) (.v 18)) (c := .item (.v 17) (.v 18)) (add_n (x := k) (y := 1) rfl rfl) (item_list (k := k) rfl rfl (by lia) hg) (item_list (k := k) rfl rfl (by lia) hg)) (by simp)
        rw [e3, Nat.add_comm k 1]; rfl)
    refine cmp_t' (x := .list ((List.range' 1 (M + 1)).map (rowC lead lead))) ?_ e1 ?_
    · rw [me_ws (u := u) (x := wsOf lead) rfl (evs1 (x := wsI (other ++ [35, 9, 32]) (wsOf lead)) rfl), f1_nl sL sL, wit_col hL hL, hT]
      rw [List.filter_eq_self.mpr fun j _ => by unfold geP; simp]
    · have e4 : (List.range (M + 1)).map (fun k => rowC lead lead (1 + k)) = (List.range' 1 (M + 1)).map (rowC lead lead) := by
        rw [List.range'_eq_map_range, List.map_map]; rfl
      rw [e4]
      exact ne_same (ok_rowC _ _ _))]
  rw [iff_skip (c := d2) (by
    unfold d2
    refine ors3 (x := false) (y := false) (z := false) ?_ (fun _ => ?_) (fun _ _ => ?_)
    · refine cmp_t' (x := .bool true) (y := .bool true) ?_ rfl rfl
      rw [me_ws (u := u) (x := wsOf lead) rfl (evs1 (x := wsI (other ++ [35, 9, 32]) (wsOf lead)) rfl), f1_eq]
      simp
    · refine cmp_t' (x := .bool false) (y := .bool false) ?_ rfl rfl
      rw [me_ws (u := u) (x := wsOf lead) rfl (evs1 (x := wsI (other ++ [35, 9, 32]) (wsOf lead)) rfl), f1_less sL sL, lessP_self]
    · refine cmp_t' (x := .bool false) (y := .bool false) ?_ rfl rfl
      rw [me_ws (u := other ++ [35, 9, 32]) (x := wsOf lead) rfl (evs1 (x := wsI u (wsOf lead)) rfl), f1_less sL sL, lessP_self])]
  rw [seq_ex (ρ' := St s v1 (.list (nts rs)) (.list (lks.map V.str)) ord strk onc last r lead (wsI u (wsOf lead)) (.str other) (wsI (other ++ [35, 9, 32]) (wsOf lead)) top rows ag (.int z) (.list ((List.range' 1 (M + 1)).map fun j => .int (colP lead j)))) (by
    unfold a5
    rw [asg_ex (x := .int z) (by rw [fn_ev' (evs3 (x := .str lead) (y := .str other) (z := .int 4) rfl rfl rfl)]; exact ez)]; rfl)]
  have tE : ∀ ρ : List V, ev F1 ρ (.v 11) = some (.str other) → ev F1 ρ (.v 5) = some (.str lead) → tst F1 ρ (.cmp .Eq (.v 11) (.v 5)) = some (other == lead) := fun ρ h1 h2 => cmp_t' h1 h2 (eq_strs _ _)
  rw [iff_skip (c := d3) (by
    unfold d3
    have ti : tst F1 (St s v1 (.list (nts rs)) (.list (lks.map V.str)) ord strk onc last r lead (wsI u (wsOf lead)) (.str other) (wsI (other ++ [35, 9, 32]) (wsOf lead)) top rows ag (.int z) (.list ((List.range' 1 (M + 1)).map fun j => .int (colP lead j)))) (.cmp .In (.v 11) (.v 6)) = some (decide (ed lead other ≤ 2)) := by
      rw [← hin]
      exact cmp_t' (x := .str other) (y := .list (lks.map V.str)) rfl rfl (in_strs other lks fun l => l)
    by_cases q : ed lead other ≤ 2
    · rw [decide_eq_true q] at ti
      have hzz : z = 2 * ed lead other := by
        rcases hz with hz | ⟨h1, _⟩
        · exact hz
        · grind
      refine tst_ite_t ti (cmp_t' (x := .int z) (y := .int z) rfl ?_ (ne_same rfl))
      by_cases q0 : other = lead
      · refine ite_t ((tE _ rfl rfl).trans (by rw [q0, beq_self_eq_true])) ?_
        rw [hzz, q0, ed_self]; rfl
      · refine ite_f ((tE _ rfl rfl).trans (by rw [beq_eq_false_iff_ne.mpr q0])) ?_
        have hne : ed lead other ≠ 0 := fun e => q0 (ed_zero e).symm
        rw [hzz, show ed lead other = 2 by lia]; rfl
    · rw [decide_eq_false q] at ti
      refine tst_ite_f ti (cmp_t' (x := .int z) (y := .int 4) rfl rfl ?_)
      show some (decide (z ≤ 4)) = some false
      rw [decide_eq_false (by rcases hz with hz | ⟨_, hz⟩ <;> lia)])]
  rw [iff_skip (c := d4) (by
    unfold d4
    refine cmp_t' (x := .bool (decide (z2 > 2))) (y := .bool (!(other == lead))) (cmp_ev (x := .int z2) (y := .int 2) (by rw [fn_ev' (evs3 (x := .str other) (y := .str lead) (z := .int 2) rfl rfl rfl)]; exact ez2) rfl rfl) (cmp_ev (x := .str other) (y := .str lead) rfl rfl (ne_strs _ _)) ?_
    by_cases q0 : other = lead
    · unfold LevP at hz2
      rw [q0, ed_self] at hz2
      rw [q0, beq_self_eq_true, decide_eq_false (by rcases hz2 with h | ⟨h, _⟩ <;> grind)]; rfl
    · have hne : ed lead other ≠ 0 := fun e => q0 (ed_zero e).symm
      have hc := ed_comm other lead
      rw [beq_eq_false_iff_ne.mpr q0, decide_eq_true (by rcases hz2 with h | ⟨h, h'⟩ <;> lia)]; rfl)]
  exact skip_ex
end Mine
end
section
set_option maxRecDepth 100000
set_option backward.match.sparseCases false
namespace Mine
open PySem PySem.W PyProof.Rows

theorem flat_le {α β : Type} (f : α → List β) (n : Nat) (h : ∀ x, (f x).length ≤ n) : ∀ l : List α, (l.flatMap f).length ≤ l.length * n
  | [] => by simp
  | x :: l => by
    rw [List.flatMap_cons, List.length_append, List.length_cons, Nat.add_mul]
    have := h x
    have := flat_le f n h l
    lia
theorem lookKM_len (rs : List Nat) (k m : Nat) : (lookKM rs k m).length ≤ 4 := by
  unfold lookKM look1 look2 look3
  simp only [List.length_append]
  split <;> split <;> split <;> simp
theorem looks_len {rs : List Nat} (hl : rs.length ≤ 4) : (looksP rs).length ≤ 100 := by
  unfold looksP
  rw [List.length_cons]
  have h1 := fun k => flat_le (fun m => lookKM rs k m) 4 (lookKM_len rs k) (List.range rs.length)
  simp only [List.length_range] at h1
  have h2 := flat_le (fun k => (List.range rs.length).flatMap fun m => lookKM rs k m) (rs.length * 4) h1 (List.range rs.length)
  rw [List.length_range] at h2
  have h3 : rs.length * (rs.length * 4) ≤ 4 * 16 := Nat.mul_le_mul hl (by grind)
  grind

/-- an order of the runs is among the look-alikes just if it is near -/
theorem in_looks {rs p : List Nat} (hl : rs.length ≤ 4) (hk : ∀ k ∈ rs, k < 4) (r : Nat) (hp : p.Perm rs) : (((looksP rs).map fun q => word q r).any fun l => l == word p r) = decide (ed (word rs r) (word p r) ≤ 2) := by
  rw [Bool.eq_iff_iff, decide_eq_true_iff, ← (looks_spec hl hk).2 p hp r, List.any_eq_true]
  constructor
  · rintro ⟨l, h1, h2⟩
    obtain ⟨q, h3, rfl⟩ := List.mem_map.mp h1
    obtain ⟨rfl, _⟩ := word_inj (eq_of_beq h2)
    exact h3
  · intro h
    exact ⟨word p r, List.mem_map_of_mem h, by simp⟩
theorem eq_looks {rs other : List Nat} (hl : rs.length ≤ 4) (hk : ∀ k ∈ rs, k < 4) (r : Nat) (hO : Lead other) (he : ed (word rs r) other ≤ 2) :
    ((wsOf (word rs r)).c == (wsOf other).c && (wsOf (word rs r)).b == (wsOf other).b) = ((looksP rs).map fun q => word q r).any fun l => l == other := by
  have e := word_unw hO
  generalize (unw other).1 = p at e
  generalize (unw other).2 = r' at e
  subst e
  rw [Bool.eq_iff_iff, eq_word, List.any_eq_true]
  constructor
  · rintro ⟨h1, rfl⟩
    have := ((looks_spec hl hk).2 p h1.symm r).mpr he
    exact ⟨word p r, List.mem_map_of_mem this, by simp⟩
  · rintro ⟨l, h1, h2⟩
    obtain ⟨q, h3, rfl⟩ := List.mem_map.mp h1
    obtain ⟨rfl, rfl⟩ := word_inj (eq_of_beq h2)
    exact ⟨((looks_spec hl hk).1 q h3).symm, rfl⟩
theorem ed_two {a b c : List Nat} (h1 : ed a b ≤ 1) (h2 : ed b c ≤ 1) : ed a c ≤ 2 := by
  by_cases q : a = b
  · subst q; lia
  · have : ed a b = 1 := by
      have : ed a b ≠ 0 := fun e => q (ed_zero e)
      grind
    have := ed_stroke (ed_one_iff.mp this).2 c
    lia

section
variable {F : Nat → List V → Option V} {ρ : List V}
theorem pow_n {a b : X} {x y : Nat} (h1 : ev F ρ a = some (.int x)) (h2 : ev F ρ b = some (.int y)) (hx : x ≤ 1000) (hy : y ≤ 100) : ev F ρ (.bin .Pow a b) = some (.int ((x ^ y : Nat))) := by
  rw [bin_ev h1 h2]
  have hs : small (x : Int) = true := small_n (by lia)
  show (if 0 ≤ (y : Int) ∧ (y : Int) ≤ 100 ∧ small (x : Int) = true then some (V.int ((x : Int) ^ (y : Int).toNat)) else none) = _
  rw [if_pos ⟨by grind, by lia, hs⟩, Int.toNat_natCast, Int.natCast_pow]
end

noncomputable def kOf1 (m : Nat) : Nat := [4, 3, 4, 3, 2, 4, 1, 0].getD m 0
noncomputable def runs1 (n : Nat) : List Nat := (List.range (kOf1 (n % 8))).map fun k => n / 8 / 4 ^ k % 4
theorem kOf1_le (m : Nat) (h : m < 8) : kOf1 m ≤ 4 := by
  have : m = 0 ∨ m = 1 ∨ m = 2 ∨ m = 3 ∨ m = 4 ∨ m = 5 ∨ m = 6 ∨ m = 7 := by lia
  rcases this with rfl | rfl | rfl | rfl | rfl | rfl | rfl | rfl <;> decide
theorem runs1_len (n : Nat) : (runs1 n).length ≤ 4 := by
  unfold runs1
  rw [List.length_map, List.length_range]
  exact kOf1_le _ (Nat.mod_lt _ (by decide))
theorem runs1_lt (n : Nat) : ∀ k ∈ runs1 n, k < 4 := by
  intro k hk
  obtain ⟨j, _, rfl⟩ := List.mem_map.mp hk
  exact Nat.mod_lt _ (by decide)

noncomputable def runsX : X := (.comp (.bin .Mod (.bin .FloorDiv (.bin .FloorDiv (.v 1) (.k (.int 8))) (.bin .Pow (.k (.int 4)) (.v 18))) (.k (.int 4))) 18 false (.bi .range1 (.cons (.item (.list (.cons (.k (.int 4)) (.cons (.k (.int 3)) (.cons (.k (.int 4)) (.cons (.k (.int 3)) (.cons (.k (.int 2)) (.cons (.k (.int 4)) (.cons (.k (.int 1)) (.cons (.k (.int 0)) .nil))))))))) (.bin .Mod (.v 1) (.k (.int 8)))) .nil)) .yes)
theorem runs_ev {F : Nat → List V → Option V} {s l2 l3 l4 l5 l6 l7 l8 l9 l10 l11 l12 l13 l14 l15 l16 l17 : V} {n : Nat} : ev F [s, .int n, l2, l3, l4, l5, l6, l7, l8, l9, l10, l11, l12, l13, l14, l15, l16, l17] runsX = some (.list (nts (runs1 n))) := by
  have hm : n % 8 < 8 := Nat.mod_lt _ (by decide)
  have hk := kOf1_le (n % 8) hm
  have e1 : ev F [s, .int n, l2, l3, l4, l5, l6, l7, l8, l9, l10, l11, l12, l13, l14, l15, l16, l17] (.item (.list (.cons (.k (.int 4)) (.cons (.k (.int 3)) (.cons (.k (.int 4)) (.cons (.k (.int 3)) (.cons (.k (.int 2)) (.cons (.k (.int 4)) (.cons (.k (.int 1)) (.cons (.k (.int 0)) .nil))))))))) (.bin .Mod (.v 1) (.k (.int 8)))) = some (.int (kOf1 (n % 8))) := by
    refine item_list (l := [.int 4, .int 3, .int 4, .int 3, .int 2, .int 4, .int 1, .int 0]) (k := n % 8) rfl (mod_n (x := n) (y := 8) rfl rfl (by decide)) (by grind) ?_
    generalize n % 8 = m at hm
    have : m = 0 ∨ m = 1 ∨ m = 2 ∨ m = 3 ∨ m = 4 ∨ m = 5 ∨ m = 6 ∨ m = 7 := by lia
    rcases this with rfl | rfl | rfl | rfl | rfl | rfl | rfl | rfl <;> rfl
  have e2 : ev F [s, .int n, l2, l3, l4, l5, l6, l7, l8, l9, l10, l11, l12, l13, l14, l15, l16, l17] (.bi .range1 (.cons (.item (.list (.cons (.k (.int 4)) (.cons (.k (.int 3)) (.cons (.k (.int 4)) (.cons (.k (.int 3)) (.cons (.k (.int 2)) (.cons (.k (.int 4)) (.cons (.k (.int 1)) (.cons (.k (.int 0)) .nil))))))))) (.bin .Mod (.v 1) (.k (.int 8)))) .nil)) = some (.range 0 (kOf1 (n % 8)) 1) := by
    rw [bi_ev' (evs1 e1)]; rfl
  have e3 := comp_map (l := List.range (kOf1 (n % 8))) (g := fun (k : Nat) => V.int k) (f := fun k => V.int ((n / 8 / 4 ^ k % 4 : Nat))) (e := (.bin .Mod (.bin .FloorDiv (.bin .FloorDiv (.v 1) (.k (.int 8))) (.bin .Pow (.k (.int 4)) (.v 18))) (.k (.int 4)))) (tgt := 18) e2 (range_items (by omega)) (fun k hk' => by
    rw [List.mem_range] at hk'
    have p : 0 < 4 ^ k ∧ 4 ^ k < 1000000000 := by
      have : k = 0 ∨ k = 1 ∨ k = 2 ∨ k = 3 := by grind
      rcases this with rfl | rfl | rfl | rfl <;> decide
    exact mod_n (div_n (div_n (x := n) (y := 8) rfl rfl (by decide) (by decide)) (pow_n (x := 4) (y := k) rfl rfl (by decide) (by grind)) p.1 p.2) (y := 4) rfl (by decide))
  unfold runsX runs1 nts
  rw [e3, List.map_map]; rfl
end Mine
end
section
set_option maxRecDepth 100000
set_option backward.match.sparseCases false
namespace Mine
open PySem PySem.W PyProof.Rows

noncomputable def it1 : X := (.tup (.cons (.v 9) (.cons (.fn 16 (.cons (.v 9) (.cons (.bin .FloorDiv (.v 8) (.k (.int 120))) .nil))) .nil)))
noncomputable def it2 : X := (.tup (.cons (.v 7) (.cons (.item (.v 6) (.bin .Mod (.bin .FloorDiv (.v 2) (.k (.int 3))) (.bi .len (.cons (.v 6) .nil)))) .nil)))
theorem law1_eq : L1.b_law = (.seq (.asg 1 (.fn 12 (.cons (.v 0) (.cons (.k (.int 0)) (.cons (.k (.int 1064)) .nil))))) (.seq (.asg 2 (.fn 12 (.cons (.v 0) (.cons (.k (.int 3)) (.cons (.k (.int 49)) .nil))))) (.seq (.asg 3 runsX) (.seq (.asg 4 (.bin .Mod (.v 2) (.k (.int 3)))) (.seq (.asg 5 (.fn 13 (.cons (.v 3) (.cons (.v 4) .nil)))) (.seq (.asg 6 (.comp (.fn 13 (.cons (.v 18) (.cons (.v 4) .nil))) 18 false (.fn 14 (.cons (.v 3) .nil)) .yes)) (.seq (.asg 7 (.fn 13 (.cons (.fn 15 (.cons (.v 3) (.cons (.fn 12 (.cons (.v 0) (.cons (.k (.int 1)) (.cons (.k (.int 11)) .nil)))) .nil))) (.cons (.v 4) .nil)))) (.seq (.asg 8 (.fn 12 (.cons (.v 0) (.cons (.k (.int 2)) (.cons (.k (.int 2161)) .nil))))) (.seq (.asg 9 (.fn 16 (.cons (.v 5) (.cons (.v 8) .nil)))) (.seq (.asg 10 (.new (.cons (.bin .Add (.v 5) (.k (.str [120, 32, 9]))) .nil))) (.seq (.for 11 it1 lpB1) (.seq (.for 11 it2 lpB2) (.seq (.ret (.k (.bool true))) .skip))))))))))))) := rfl

theorem St_set {s v1 v3 lk ord strk onc : V} {last rest : Nat} {lead : List Nat} {h o t top rows ag told col o' : V} : (St s v1 v3 lk ord strk onc last rest lead h o t top rows ag told col).set 11 o' = St s v1 v3 lk ord strk onc last rest lead h o' t top rows ag told col := rfl

theorem main1 (ns : List Int) (hn : ns.length ≤ 63) : Fk L1.tab 40 3 19 [.list (ns.map .int)] = some (.bool true) := by
  rw [Fk_fn (k := 2) (np := 1) (ns := 18) (b := L1.b_law) rfl]
  refine runF_ret rfl ?_
  show ex F1 40 L1.b_law [.list (ns.map .int), .undef, .undef, .undef, .undef, .undef, .undef, .undef, .undef, .undef, .undef, .undef, .undef, .undef, .undef, .undef, .undef, .undef] = _
  generalize hs : V.list (ns.map .int) = sV
  obtain ⟨n1, _, e1⟩ := f1_sum (first := 0) (start := 1064) (by decide) hn
  obtain ⟨n2, _, e2⟩ := f1_sum (first := 3) (start := 49) (by decide) hn
  obtain ⟨n3, _, e3⟩ := f1_sum (first := 1) (start := 11) (by decide) hn
  obtain ⟨n4, _, e4⟩ := f1_sum (first := 2) (start := 2161) (by decide) hn
  have hv : ∀ r : List V, ev F1 (V.list (ns.map .int) :: r) (.v 0) = some (.list (ns.map .int)) := fun r => rfl
  rw [hs] at e1 e2 e3 e4 hv
  have hl := runs1_len n1
  have hk := runs1_lt n1
  generalize hrs : runs1 n1 = rs at hl hk
  have hr : n2 % 3 ≤ 10 := by have := Nat.mod_lt n2 (show 0 < 3 by decide); grind
  generalize hrr : n2 % 3 = r at hr
  have hk100 : ∀ k ∈ rs, k ≤ 100 := fun k h => by have := hk k h; lia
  have hL := lead_word rs r
  have ll := word_len4 hl hk r
  have hlk := looks_len hl
  obtain ⟨row, e5, hrow⟩ := f1_order (rs := rs) (num := n3) (by lia)
  obtain ⟨once, e6, hO1, he1, hl1⟩ := f1_stroke (n := n4) hL (by lia)
  obtain ⟨twice, e7, hO2, he2, hl2⟩ := f1_stroke (n := n4 / 120) hO1 (by grind)
  rw [law1_eq]
  rw [seq_ex (ρ' := [sV, .int n1, .undef, .undef, .undef, .undef, .undef, .undef, .undef, .undef, .undef, .undef, .undef, .undef, .undef, .undef, .undef, .undef]) (by
    rw [asg_ex (x := .int n1) (by rw [fn_ev' (evs3 (x := sV) (y := .int 0) (z := .int 1064) (hv _) rfl rfl)]; exact e1)]; rfl)]
  rw [seq_ex (ρ' := [sV, .int n1, .int n2, .undef, .undef, .undef, .undef, .undef, .undef, .undef, .undef, .undef, .undef, .undef, .undef, .undef, .undef, .undef]) (by
    rw [asg_ex (x := .int n2) (by rw [fn_ev' (evs3 (x := sV) (y := .int 3) (z := .int 49) (hv _) rfl rfl)]; exact e2)]; rfl)]
  rw [seq_ex (ρ' := [sV, .int n1, .int n2, .list (nts rs), .undef, .undef, .undef, .undef, .undef, .undef, .undef, .undef, .undef, .undef, .undef, .undef, .undef, .undef]) (by
    rw [asg_ex runs_ev, hrs]; rfl)]
  rw [seq_ex (ρ' := [sV, .int n1, .int n2, .list (nts rs), .int r, .undef, .undef, .undef, .undef, .undef, .undef, .undef, .undef, .undef, .undef, .undef, .undef, .undef]) (by
    rw [asg_ex (mod_n (x := n2) (y := 3) rfl rfl (by decide)), hrr]; rfl)]
  rw [seq_ex (ρ' := [sV, .int n1, .int n2, .list (nts rs), .int r, .str (word rs r), .undef, .undef, .undef, .undef, .undef, .undef, .undef, .undef, .undef, .undef, .undef, .undef]) (by
    rw [asg_ex (x := .str (word rs r)) (by rw [fn_ev' (evs2 (x := .list (nts rs)) (y := .int r) rfl rfl)]; exact f1_word (by lia) hk100 (by omega))]; rfl)]
  rw [seq_ex (ρ' := [sV, .int n1, .int n2, .list (nts rs), .int r, .str (word rs r), .list (((looksP rs).map fun q => word q r).map V.str), .undef, .undef, .undef, .undef, .undef, .undef, .undef, .undef, .undef, .undef, .undef]) (by
    have e8 := comp_map (F := F1) (ρ := [sV, .int n1, .int n2, .list (nts rs), .int r, .str (word rs r), .undef, .undef, .undef, .undef, .undef, .undef, .undef, .undef, .undef, .undef, .undef, .undef]) (l := looksP rs) (g := fun q => V.list (nts q)) (f := fun q => V.str (word q r)) (e := .fn 13 (.cons (.v 18) (.cons (.v 4) .nil))) (it := .fn 14 (.cons (.v 3) .nil)) (tgt := 18) (x := .list (lls (looksP rs)))
      (by rw [fn_ev' (evs1 (x := .list (nts rs)) rfl)]; exact f1_looks (by lia) fun k h => by have := hk k h; lia)
      (items_list (by rw [List.length_map]; exact lim_le (by lia))) (fun q hq => by
        have hp := (looks_spec hl hk).1 q hq
        rw [fn_ev' (evs2 (x := .list (nts q)) (y := .int r) rfl rfl)]
        exact f1_word (by rw [hp.length_eq]; lia) (fun k h => hk100 k (hp.mem_iff.mp h)) (by omega))
    rw [asg_ex e8, List.map_map]; rfl)]
  rw [seq_ex (ρ' := [sV, .int n1, .int n2, .list (nts rs), .int r, .str (word rs r), .list (((looksP rs).map fun q => word q r).map V.str), .str (word row r), .undef, .undef, .undef, .undef, .undef, .undef, .undef, .undef, .undef, .undef]) (by
    rw [asg_ex (x := .str (word row r)) (by
      rw [fn_ev' (evs2 (x := .list (nts row)) (y := .int r) (by
        rw [fn_ev' (evs2 (x := .list (nts rs)) (y := .int n3) rfl (by rw [fn_ev' (evs3 (x := sV) (y := .int 1) (z := .int 11) (hv _) rfl rfl)]; exact e3))]; exact e5) rfl)]
      exact f1_word (by rw [hrow.length_eq]; lia) (fun k h => hk100 k (hrow.mem_iff.mp h)) (by omega))]; rfl)]
  rw [seq_ex (ρ' := [sV, .int n1, .int n2, .list (nts rs), .int r, .str (word rs r), .list (((looksP rs).map fun q => word q r).map V.str), .str (word row r), .int n4, .undef, .undef, .undef, .undef, .undef, .undef, .undef, .undef, .undef]) (by
    rw [asg_ex (x := .int n4) (by rw [fn_ev' (evs3 (x := sV) (y := .int 2) (z := .int 2161) (hv _) rfl rfl)]; exact e4)]; rfl)]
  rw [seq_ex (ρ' := [sV, .int n1, .int n2, .list (nts rs), .int r, .str (word rs r), .list (((looksP rs).map fun q => word q r).map V.str), .str (word row r), .int n4, .str once, .undef, .undef, .undef, .undef, .undef, .undef, .undef, .undef]) (by
    rw [asg_ex (x := .str once) (by rw [fn_ev' (evs2 (x := .str (word rs r)) (y := .int n4) rfl rfl)]; exact e6)]; rfl)]
  have hE := fun other (hO : Lead other) he => eq_looks (other := other) hl hk r hO he
  have hin := fun (p : List Nat) (hp : p.Perm rs) => in_looks hl hk r hp
  have hmem : ∀ l ∈ (looksP rs).map (fun q => word q r), ∃ p, p.Perm rs ∧ l = word p r := by
    intro l h
    obtain ⟨q, h1, rfl⟩ := List.mem_map.mp h
    exact ⟨q, (looks_spec hl hk).1 q h1, rfl⟩
  have hlkl : ((looksP rs).map fun q => word q r).length ≤ 100 ∧ 0 < ((looksP rs).map fun q => word q r).length := by
    rw [List.length_map]; exact ⟨hlk, by unfold looksP; simp⟩
  generalize hlks : (looksP rs).map (fun q => word q r) = lks at hE hin hmem hlkl
  rw [seq_ex (ρ' := St sV (.int n1) (.list (nts rs)) (.list (lks.map V.str)) (.str (word row r)) (.int n4) (.str once) n2 r (word rs r) (wsI (word rs r ++ [120, 32, 9]) (wsOf (word rs r))) .undef .undef .undef .undef .undef .undef .undef) (by
    rw [asg_ex (x := wsI (word rs r ++ [120, 32, 9]) (wsOf (word rs r))) (by
      rw [new_ev' (evs1 (cat_s (x := word rs r) (y := [120, 32, 9]) rfl rfl (by simp; grind))), f1_new (by simp; grind), wsOf_stop (by decide) (by decide) [32, 9] hL])]; rfl)]
  have i1 : ev F1 (St sV (.int n1) (.list (nts rs)) (.list (lks.map V.str)) (.str (word row r)) (.int n4) (.str once) n2 r (word rs r) (wsI (word rs r ++ [120, 32, 9]) (wsOf (word rs r))) .undef .undef .undef .undef .undef .undef .undef) it1 = some (.tup [.str once, .str twice]) := by
    unfold it1
    exact tup_ev (evs2 rfl (by rw [fn_ev' (evs2 (x := .str once) (y := .int ((n4 / 120 : Nat))) rfl (div_n (x := n4) (y := 120) rfl rfl (by decide) (by decide)))]; exact e7)) (by simp)
  obtain ⟨t1, t2, t3, t4, t5, g1⟩ := lp1 (s := sV) (v1 := .int n1) (v3 := .list (nts rs)) (ord := .str (word row r)) (strk := .int n4) (onc := .str once) (last := n2) (rest := r) (t := .undef) (top := .undef) (rows := .undef) (ag := .undef) (told := .undef) (col := .undef) (u := word rs r ++ [120, 32, 9]) hL hO1 (by grind) (by grind) (hE once hO1 (by lia)) (by lia)
  obtain ⟨s1, s2, s3, s4, s5, g2⟩ := lp1 (s := sV) (v1 := .int n1) (v3 := .list (nts rs)) (ord := .str (word row r)) (strk := .int n4) (onc := .str once) (last := n2) (rest := r) (t := t1) (top := t2) (rows := t3) (ag := t4) (told := t5) (col := .undef) (u := word rs r ++ [120, 32, 9]) hL hO2 (by grind) (by omega) (hE twice hO2 (ed_two he1 he2)) (ed_two he1 he2)
  rw [seq_ex (by
    rw [for_ex i1 (items_tup (lim_le (by simp))), forGo_q2, St_set, g1, Option.bind_some]
    dsimp only
    rw [forGo_q2, St_set, g2, Option.bind_some]
    dsimp only
    rw [forGo_q1])]
  have hidx : n2 / 3 % lks.length < lks.length := Nat.mod_lt _ hlkl.2
  obtain ⟨p, hp, hlp⟩ := hmem lks[n2 / 3 % lks.length] (List.getElem_mem hidx)
  have hgi : lks[n2 / 3 % lks.length]? = some (word p r) := by rw [List.getElem?_eq_getElem hidx, hlp]
  have i2 : ev F1 (St sV (.int n1) (.list (nts rs)) (.list (lks.map V.str)) (.str (word row r)) (.int n4) (.str once) n2 r (word rs r) (wsI (word rs r ++ [120, 32, 9]) (wsOf (word rs r))) (.str twice) s1 s2 s3 s4 s5 .undef) it2 = some (.tup [.str (word row r), .str (word p r)]) := by
    unfold it2
    have ln := len_l (F := F1) (ρ := St sV (.int n1) (.list (nts rs)) (.list (lks.map V.str)) (.str (word row r)) (.int n4) (.str once) n2 r (word rs r) (wsI (word rs r ++ [120, 32, 9]) (wsOf (word rs r))) (.str twice) s1 s2 s3 s4 s5 .undef) (a := .v 6) (x := lks.map V.str) rfl (by rw [List.length_map]; lia)
    rw [List.length_map] at ln
    exact tup_ev (evs2 rfl (item_list (l := lks.map V.str) rfl (mod_n (div_n (x := n2) (y := 3) rfl rfl (by decide) (by decide)) ln hlkl.2) (by lia) (by rw [List.getElem?_map, hgi]; rfl))) (by simp)
  obtain ⟨w1, w2, w3, g3⟩ := lp2 (s := sV) (v1 := .int n1) (ord := .str (word row r)) (strk := .int n4) (onc := .str once) (last := n2) (t := s1) (top := s2) (rows := s3) (ag := s4) (told := s5) (col := .undef) (u := word rs r ++ [120, 32, 9]) hl hk hr hrow (hin row hrow)
  obtain ⟨x1, x2, x3, g4⟩ := lp2 (s := sV) (v1 := .int n1) (ord := .str (word row r)) (strk := .int n4) (onc := .str once) (last := n2) (t := w1) (top := s2) (rows := s3) (ag := s4) (told := w3) (col := w2) (u := word rs r ++ [120, 32, 9]) hl hk hr hp (hin p hp)
  rw [seq_ex (by
    rw [for_ex i2 (items_tup (lim_le (by simp))), forGo_q2, St_set, g3, Option.bind_some]
    dsimp only
    rw [forGo_q2, St_set, g4, Option.bind_some]
    dsimp only
    rw [forGo_q1])]
  rw [seq_ret (v := .bool true) rfl]
end Mine
end
section
set_option maxRecDepth 100000
namespace L1
open PySem PySem.W PyProof.Rows
noncomputable def prog : Program := PySem.Challenge.pw_pg0214_01
noncomputable def nthS : Nat → List Stmt → Stmt
  | 0, s :: _ => s
  | n + 1, _ :: l => nthS n l
  | _, [] => .Pass default
noncomputable def cel (p : Program) (i : Nat) : Stmt := nthS i p.main.body
noncomputable def mth (p : Program) (i j : Nat) : Stmt := match cel p i with
  | .ClassDef _ _ _ b _ _ _ _ _ _ _ => nthS j b
  | s => s
noncomputable def fnO (s : Stmt) (q m : String) (t c : Nat) : Obj := match s with
  | .FunctionDef n ps b _ _ _ sc _ _ _ => { cls := .type "function", data := .func { name := n, qualname := Str.ofString q, params := ps, body := .stmts b, scope := sc, globals := 3, closure := [], defaults := .none, kwdefaults := .none, pyModule := .str (Str.ofString m) t, code := .ref c } }
  | _ => default
noncomputable def ent (P : Params) (n : String) (t : Nat) (v : Value) : DictEntry := { hash := PyData.keyHash P (Str.ofString n), key := .str (Str.ofString n) t, val := v }
noncomputable def sv (s : String) (t : Nat) : Value := .str (Str.ofString s) t
noncomputable def cdO (l : Array Value) : Obj := { cls := .type "code", data := .fields l }
noncomputable def K (P : Params) : Frag := [(2, { cls := .none, data := .dict #[] }),
  (3, { cls := .type "dict", data := .dict #[ent P "__name__" 165 (.str (Str.ofString "law_pg0214_01") 331), ent P "__doc__" 166 (.none), ent P "__package__" 167 (.none), ent P "__loader__" 168 (.builtin "__main__.__loader__#opaque"), ent P "__spec__" 169 (.none), ent P "__annotations__" 170 (.ref 6), ent P "__builtins__" 171 (.ref 4), ent P "__file__" 173 (.str (Str.ofString "/claim/cut.py") 172), ent P "__cached__" 174 (.none), ent P "Whitespace" 294 (.ref 76), ent P "_MAX_STRING_SIZE" 298 (.int 40 297), ent P "_MOVE_COST" 300 (.int 2 299), ent P "_CASE_COST" 302 (.int 1 301), ent P "_substitution_cost" 310 (.ref 87), ent P "_levenshtein_distance" 330 (.ref 94), ent P "_law_sum" 338 (.ref 99), ent P "_law_word" 344 (.ref 104), ent P "_law_looks" 350 (.ref 109), ent P "_law_order" 362 (.ref 116), ent P "_law_stroke" 372 (.ref 123), ent P "_law_one_stroke" 378 (.ref 128), ent P "_law_column" 388 (.ref 135), ent P "law" 394 (.ref 140)] 23 }),
  (30, cdO #[sv "__init__" 206, sv "Whitespace.__init__" 207, sv "/claim/cut.py" 208, .int 5 0, .int 2 0, .int 0 0, .int 0 0, .int 3 0, .ref 25, .bool true, .int 181 0, .ref 26, .none, .ref 27, .ref 28, .ref 29, .int 218 0, .int 5 0, sv "/claim/cut.py" 219]),
  (31, fnO (mth prog 1 1) "Whitespace.__init__" "cpy313.tabnanny" 187 30),
  (37, cdO #[sv "longest_run_of_spaces" 221, sv "Whitespace.longest_run_of_spaces" 222, sv "/claim/cut.py" 223, .int 28 0, .int 1 0, .int 0 0, .int 0 0, .int 3 0, .ref 32, .bool true, .int 181 0, .ref 33, .none, .ref 34, .ref 35, .ref 36, .int 227 0, .int 28 0, sv "/claim/cut.py" 228]),
  (38, fnO (mth prog 1 2) "Whitespace.longest_run_of_spaces" "cpy313.tabnanny" 187 37),
  (44, cdO #[sv "indent_level" 230, sv "Whitespace.indent_level" 231, sv "/claim/cut.py" 232, .int 32 0, .int 2 0, .int 0 0, .int 0 0, .int 3 0, .ref 39, .bool true, .int 181 0, .ref 40, .none, .ref 41, .ref 42, .ref 43, .int 239 0, .int 32 0, sv "/claim/cut.py" 240]),
  (45, fnO (mth prog 1 3) "Whitespace.indent_level" "cpy313.tabnanny" 187 44),
  (51, cdO #[sv "equal" 242, sv "Whitespace.equal" 243, sv "/claim/cut.py" 244, .int 39 0, .int 2 0, .int 0 0, .int 0 0, .int 3 0, .ref 46, .bool true, .int 181 0, .ref 47, .none, .ref 48, .ref 49, .ref 50, .int 247 0, .int 39 0, sv "/claim/cut.py" 248]),
  (52, fnO (mth prog 1 4) "Whitespace.equal" "cpy313.tabnanny" 187 51),
  (58, cdO #[sv "not_equal_witness" 250, sv "Whitespace.not_equal_witness" 251, sv "/claim/cut.py" 252, .int 42 0, .int 2 0, .int 0 0, .int 0 0, .int 3 0, .ref 53, .bool true, .int 181 0, .ref 54, .none, .ref 55, .ref 56, .ref 57, .int 258 0, .int 42 0, sv "/claim/cut.py" 259]),
  (59, fnO (mth prog 1 5) "Whitespace.not_equal_witness" "cpy313.tabnanny" 187 58),
  (65, cdO #[sv "less" 261, sv "Whitespace.less" 262, sv "/claim/cut.py" 263, .int 50 0, .int 2 0, .int 0 0, .int 0 0, .int 3 0, .ref 60, .bool true, .int 181 0, .ref 61, .none, .ref 62, .ref 63, .ref 64, .int 268 0, .int 50 0, sv "/claim/cut.py" 269]),
  (66, fnO (mth prog 1 6) "Whitespace.less" "cpy313.tabnanny" 187 65),
  (72, cdO #[sv "not_less_witness" 271, sv "Whitespace.not_less_witness" 272, sv "/claim/cut.py" 273, .int 61 0, .int 2 0, .int 0 0, .int 0 0, .int 3 0, .ref 67, .bool true, .int 181 0, .ref 68, .none, .ref 69, .ref 70, .ref 71, .int 279 0, .int 61 0, sv "/claim/cut.py" 280]),
  (73, fnO (mth prog 1 7) "Whitespace.not_less_witness" "cpy313.tabnanny" 187 72),
  (75, { cls := .type "dict", data := .dict #[ent P "__module__" 196 (.str (Str.ofString "cpy313.tabnanny") 187), ent P "__firstlineno__" 200 (.int 2 199), ent P "S" 204 (.str (Str.ofString " ") 202), ent P "T" 205 (.str (Str.ofString "\t") 203), ent P "__init__" 220 (.ref 31), ent P "longest_run_of_spaces" 229 (.ref 38), ent P "indent_level" 241 (.ref 45), ent P "equal" 249 (.ref 52), ent P "not_equal_witness" 260 (.ref 59), ent P "less" 270 (.ref 66), ent P "not_less_witness" 281 (.ref 73), ent P "__static_attributes__" 287 (.ref 74), ent P "__dict__" 289 (.ref 77), ent P "__weakref__" 291 (.ref 78), ent P "__doc__" 292 (.none)] 4 }),
  (76, { cls := .type "type", data := .cls { name := Str.ofString "Whitespace", bases := [.type "object"], mro := [.ref 76, .type "object"], ns := 75, qualname := Str.ofString "Whitespace" }, slots := #[none, none, some (.str (Str.ofString "Whitespace") 189), some (.str (Str.ofString "Whitespace") 197), some (.builtin "object.__new__"), some (.bool true)] }),
  (86, cdO #[sv "_substitution_cost" 303, sv "_substitution_cost" 304, sv "/claim/cut.py" 305, .int 72 0, .int 2 0, .int 0 0, .int 0 0, .int 3 0, .ref 81, .bool true, .int 181 0, .ref 82, .none, .ref 83, .ref 84, .ref 85, .int 308 0, .int 72 0, sv "/claim/cut.py" 309]),
  (87, fnO (cel prog 6) "_substitution_cost" "cpy313.traceback" 295 86),
  (93, cdO #[sv "_levenshtein_distance" 311, sv "_levenshtein_distance" 312, sv "/claim/cut.py" 313, .int 78 0, .int 3 0, .int 0 0, .int 0 0, .int 3 0, .ref 88, .bool true, .int 181 0, .ref 89, .none, .ref 90, .ref 91, .ref 92, .int 328 0, .int 78 0, sv "/claim/cut.py" 329]),
  (94, fnO (cel prog 7) "_levenshtein_distance" "cpy313.traceback" 295 93),
  (98, cdO #[sv "_law_sum" 333, sv "_law_sum" 334, sv "/claim/cut.py" 335, .int 117 0, .int 3 0, .int 0 0, .int 0 0, .int 3 0, .ref 95, .bool true, .int 181 0, .ref 96, .none, .none, .none, .ref 97, .int 336 0, .int 117 0, sv "/claim/cut.py" 337]),
  (99, fnO (cel prog 9) "_law_sum" "law_pg0214_01" 331 98),
  (103, cdO #[sv "_law_word" 339, sv "_law_word" 340, sv "/claim/cut.py" 341, .int 119 0, .int 2 0, .int 0 0, .int 0 0, .int 3 0, .ref 100, .bool true, .int 181 0, .ref 101, .none, .none, .none, .ref 102, .int 342 0, .int 119 0, sv "/claim/cut.py" 343]),
  (104, fnO (cel prog 10) "_law_word" "law_pg0214_01" 331 103),
  (108, cdO #[sv "_law_looks" 345, sv "_law_looks" 346, sv "/claim/cut.py" 347, .int 121 0, .int 1 0, .int 0 0, .int 0 0, .int 3 0, .ref 105, .bool true, .int 181 0, .ref 106, .none, .none, .none, .ref 107, .int 348 0, .int 121 0, sv "/claim/cut.py" 349]),
  (109, fnO (cel prog 11) "_law_looks" "law_pg0214_01" 331 108),
  (115, cdO #[sv "_law_order" 351, sv "_law_order" 352, sv "/claim/cut.py" 353, .int 138 0, .int 2 0, .int 0 0, .int 0 0, .int 3 0, .ref 110, .bool true, .int 181 0, .ref 111, .none, .ref 112, .ref 113, .ref 114, .int 360 0, .int 138 0, sv "/claim/cut.py" 361]),
  (116, fnO (cel prog 12) "_law_order" "law_pg0214_01" 331 115),
  (122, cdO #[sv "_law_stroke" 363, sv "_law_stroke" 364, sv "/claim/cut.py" 365, .int 147 0, .int 2 0, .int 0 0, .int 0 0, .int 3 0, .ref 117, .bool true, .int 181 0, .ref 118, .none, .ref 119, .ref 120, .ref 121, .int 370 0, .int 147 0, sv "/claim/cut.py" 371]),
  (123, fnO (cel prog 13) "_law_stroke" "law_pg0214_01" 331 122),
  (127, cdO #[sv "_law_one_stroke" 373, sv "_law_one_stroke" 374, sv "/claim/cut.py" 375, .int 155 0, .int 2 0, .int 0 0, .int 0 0, .int 3 0, .ref 124, .bool true, .int 181 0, .ref 125, .none, .none, .none, .ref 126, .int 376 0, .int 155 0, sv "/claim/cut.py" 377]),
  (128, fnO (cel prog 14) "_law_one_stroke" "law_pg0214_01" 331 127),
  (134, cdO #[sv "_law_column" 379, sv "_law_column" 380, sv "/claim/cut.py" 381, .int 160 0, .int 2 0, .int 0 0, .int 0 0, .int 3 0, .ref 129, .bool true, .int 181 0, .ref 130, .none, .ref 131, .ref 132, .ref 133, .int 386 0, .int 160 0, sv "/claim/cut.py" 387]),
  (135, fnO (cel prog 15) "_law_column" "law_pg0214_01" 331 134),
  (139, cdO #[sv "law" 389, sv "law" 390, sv "/claim/cut.py" 391, .int 165 0, .int 1 0, .int 0 0, .int 0 0, .int 3 0, .ref 136, .bool true, .int 181 0, .ref 137, .none, .none, .none, .ref 138, .int 392 0, .int 165 0, sv "/claim/cut.py" 393]),
  (140, fnO (cel prog 16) "law" "law_pg0214_01" 331 139)]
noncomputable def as : List Addr := [2, 3, 30, 31, 37, 38, 44, 45, 51, 52, 58, 59, 65, 66, 72, 73, 75, 76, 86, 87, 93, 94, 98, 99, 103, 104, 108, 109, 115, 116, 122, 123, 127, 128, 134, 135, 139, 140]
noncomputable def view : Program := { prog with main := { prog.main with body := [cel prog 1, cel prog 3, cel prog 4, cel prog 5, cel prog 6, cel prog 7, cel prog 9, cel prog 10, cel prog 11, cel prog 12, cel prog 13, cel prog 14, cel prog 15, cel prog 16] } }
end L1
end
section
set_option maxRecDepth 100000
namespace L1
open PySem PySem.W PyProof.Rows
noncomputable def loose : List Str := [Str.ofString "Whitespace"]
noncomputable def row : RowW := OpenRow.toRowW PySem.Challenge.rw_pg0214_01.row
theorem as_eq (P : Params) : as = (K P).map (·.1) := by kernel_rfl
noncomputable def hook : Hook := kHook K as as_eq
set_option maxHeartbeats 0 in
theorem said : PySem.Challenge.rw_pg0214_01.wellSaid = true := by
  first
  | (rw [PySem.W.Fast.te9446332074065402090]; kernel_rfl)
  | kernel_rfl
set_option maxHeartbeats 0 in
theorem left : LeftO prog view loose (fun s => xlAt view [] s && recOk (RowW.records row) s) (Hook.obs hook) (Hook.val hook) 1830 :=
  LeftO.of_split "special-get-raises" (by
    intro w
    first
    | (unfold fencedOpening topFrom
       rw [PySem.W.Fast.te10274390034422433532, PySem.W.Fast.te14289696077712309145, PySem.W.Fast.te14082659384304107361, PySem.W.Fast.te4187177175401517315, PySem.W.Fast.te14364793385576792824, PySem.W.Fast.te1435165496053646825, PySem.W.Fast.te5923862056798008813]
       kernel_rfl)
    | kernel_rfl)
end L1
end
section
namespace L1
open PySem PySem.W Mine
section
variable (P : Params)
set_option maxRecDepth 100000
set_option maxHeartbeats 4000000
theorem gok : gokB (K P) gx = true := by kernel_rfl
theorem f_init : fnB (K P) 31 [Str.ofString "self", Str.ofString "ws", Str.ofString "S", Str.ofString "T", Str.ofString "count", Str.ofString "b", Str.ofString "n", Str.ofString "nt", Str.ofString "ch"] [Str.ofString "self", Str.ofString "ws"] (some 4) true = true := by kernel_rfl
theorem c_init : chkS gx (cxOf (K P) 31 [Str.ofString "self", Str.ofString "ws", Str.ofString "S", Str.ofString "T", Str.ofString "count", Str.ofString "b", Str.ofString "n", Str.ofString "nt", Str.ofString "ch"] (some 4) true) b_init (stsOf (K P) 31) = true := by kernel_rfl
theorem a_init (vals : List Value) (h : vals.length = 2) : bindArgs (fdOf (K P) 31) ⟨vals, []⟩ = pure (([Str.ofString "self", Str.ofString "ws"] : List Str).zip vals) := by
  match vals, h with
  | [a, b], _ => kernel_rfl
theorem f_longest_run_of_spaces : fnB (K P) 38 [Str.ofString "self", Str.ofString "count", Str.ofString "trailing"] [Str.ofString "self"] none false = true := by kernel_rfl
theorem c_longest_run_of_spaces : chkS gx (cxOf (K P) 38 [Str.ofString "self", Str.ofString "count", Str.ofString "trailing"] none false) b_longest_run_of_spaces (stsOf (K P) 38) = true := by kernel_rfl
theorem a_longest_run_of_spaces (vals : List Value) (h : vals.length = 1) : bindArgs (fdOf (K P) 38) ⟨vals, []⟩ = pure (([Str.ofString "self"] : List Str).zip vals) := by
  match vals, h with
  | [a], _ => kernel_rfl
theorem f_indent_level : fnB (K P) 45 [Str.ofString "self", Str.ofString "tabsize", Str.ofString "count", Str.ofString "trailing", Str.ofString "il", Str.ofString "i"] [Str.ofString "self", Str.ofString "tabsize"] none false = true := by kernel_rfl
theorem c_indent_level : chkS gx (cxOf (K P) 45 [Str.ofString "self", Str.ofString "tabsize", Str.ofString "count", Str.ofString "trailing", Str.ofString "il", Str.ofString "i"] none false) b_indent_level (stsOf (K P) 45) = true := by kernel_rfl
theorem a_indent_level (vals : List Value) (h : vals.length = 2) : bindArgs (fdOf (K P) 45) ⟨vals, []⟩ = pure (([Str.ofString "self", Str.ofString "tabsize"] : List Str).zip vals) := by
  match vals, h with
  | [a, b], _ => kernel_rfl
theorem f_equal : fnB (K P) 52 [Str.ofString "self", Str.ofString "other"] [Str.ofString "self", Str.ofString "other"] none false = true := by kernel_rfl
theorem c_equal : chkS gx (cxOf (K P) 52 [Str.ofString "self", Str.ofString "other"] none false) b_equal (stsOf (K P) 52) = true := by kernel_rfl
theorem a_equal (vals : List Value) (h : vals.length = 2) : bindArgs (fdOf (K P) 52) ⟨vals, []⟩ = pure (([Str.ofString "self", Str.ofString "other"] : List Str).zip vals) := by
  match vals, h with
  | [a, b], _ => kernel_rfl
theorem f_not_equal_witness : fnB (K P) 59 [Str.ofString "self", Str.ofString "other", Str.ofString "n", Str.ofString "a", Str.ofString "ts"] [Str.ofString "self", Str.ofString "other"] (some 3) false = true := by kernel_rfl
theorem c_not_equal_witness : chkS gx (cxOf (K P) 59 [Str.ofString "self", Str.ofString "other", Str.ofString "n", Str.ofString "a", Str.ofString "ts"] (some 3) false) b_not_equal_witness (stsOf (K P) 59) = true := by kernel_rfl
theorem a_not_equal_witness (vals : List Value) (h : vals.length = 2) : bindArgs (fdOf (K P) 59) ⟨vals, []⟩ = pure (([Str.ofString "self", Str.ofString "other"] : List Str).zip vals) := by
  match vals, h with
  | [a, b], _ => kernel_rfl
theorem f_less : fnB (K P) 66 [Str.ofString "self", Str.ofString "other", Str.ofString "n", Str.ofString "ts"] [Str.ofString "self", Str.ofString "other"] none false = true := by kernel_rfl
theorem c_less : chkS gx (cxOf (K P) 66 [Str.ofString "self", Str.ofString "other", Str.ofString "n", Str.ofString "ts"] none false) b_less (stsOf (K P) 66) = true := by kernel_rfl
theorem a_less (vals : List Value) (h : vals.length = 2) : bindArgs (fdOf (K P) 66) ⟨vals, []⟩ = pure (([Str.ofString "self", Str.ofString "other"] : List Str).zip vals) := by
  match vals, h with
  | [a, b], _ => kernel_rfl
theorem f_not_less_witness : fnB (K P) 73 [Str.ofString "self", Str.ofString "other", Str.ofString "n", Str.ofString "a", Str.ofString "ts"] [Str.ofString "self", Str.ofString "other"] (some 3) false = true := by kernel_rfl
theorem c_not_less_witness : chkS gx (cxOf (K P) 73 [Str.ofString "self", Str.ofString "other", Str.ofString "n", Str.ofString "a", Str.ofString "ts"] (some 3) false) b_not_less_witness (stsOf (K P) 73) = true := by kernel_rfl
theorem a_not_less_witness (vals : List Value) (h : vals.length = 2) : bindArgs (fdOf (K P) 73) ⟨vals, []⟩ = pure (([Str.ofString "self", Str.ofString "other"] : List Str).zip vals) := by
  match vals, h with
  | [a, b], _ => kernel_rfl
theorem f_substitution_cost : fnB (K P) 87 [Str.ofString "ch_a", Str.ofString "ch_b"] [Str.ofString "ch_a", Str.ofString "ch_b"] none false = true := by kernel_rfl
theorem c_substitution_cost : chkS gx (cxOf (K P) 87 [Str.ofString "ch_a", Str.ofString "ch_b"] none false) b_substitution_cost (stsOf (K P) 87) = true := by kernel_rfl
theorem a_substitution_cost (vals : List Value) (h : vals.length = 2) : bindArgs (fdOf (K P) 87) ⟨vals, []⟩ = pure (([Str.ofString "ch_a", Str.ofString "ch_b"] : List Str).zip vals) := by
  match vals, h with
  | [a, b], _ => kernel_rfl
theorem f_levenshtein_distance : fnB (K P) 94 [Str.ofString "a", Str.ofString "b", Str.ofString "max_cost", Str.ofString "pre", Str.ofString "post", Str.ofString "row", Str.ofString "result", Str.ofString "bindex", Str.ofString "bchar", Str.ofString "distance", Str.ofString "minimum", Str.ofString "index", Str.ofString "substitute", Str.ofString "insert_delete"] [Str.ofString "a", Str.ofString "b", Str.ofString "max_cost"] (some 5) false = true := by kernel_rfl
theorem c_levenshtein_distance : chkS gx (cxOf (K P) 94 [Str.ofString "a", Str.ofString "b", Str.ofString "max_cost", Str.ofString "pre", Str.ofString "post", Str.ofString "row", Str.ofString "result", Str.ofString "bindex", Str.ofString "bchar", Str.ofString "distance", Str.ofString "minimum", Str.ofString "index", Str.ofString "substitute", Str.ofString "insert_delete"] (some 5) false) b_levenshtein_distance (stsOf (K P) 94) = true := by kernel_rfl
theorem a_levenshtein_distance (vals : List Value) (h : vals.length = 3) : bindArgs (fdOf (K P) 94) ⟨vals, []⟩ = pure (([Str.ofString "a", Str.ofString "b", Str.ofString "max_cost"] : List Str).zip vals) := by
  match vals, h with
  | [a, b, c], _ => kernel_rfl
theorem f_law_sum : fnB (K P) 99 [Str.ofString "script", Str.ofString "first", Str.ofString "start"] [Str.ofString "script", Str.ofString "first", Str.ofString "start"] none false = true := by kernel_rfl
theorem c_law_sum : chkS gx (cxOf (K P) 99 [Str.ofString "script", Str.ofString "first", Str.ofString "start"] none false) b_law_sum (stsOf (K P) 99) = true := by kernel_rfl
theorem a_law_sum (vals : List Value) (h : vals.length = 3) : bindArgs (fdOf (K P) 99) ⟨vals, []⟩ = pure (([Str.ofString "script", Str.ofString "first", Str.ofString "start"] : List Str).zip vals) := by
  match vals, h with
  | [a, b, c], _ => kernel_rfl
theorem f_law_word : fnB (K P) 104 [Str.ofString "runs", Str.ofString "rest"] [Str.ofString "runs", Str.ofString "rest"] none false = true := by kernel_rfl
theorem c_law_word : chkS gx (cxOf (K P) 104 [Str.ofString "runs", Str.ofString "rest"] none false) b_law_word (stsOf (K P) 104) = true := by kernel_rfl
theorem a_law_word (vals : List Value) (h : vals.length = 2) : bindArgs (fdOf (K P) 104) ⟨vals, []⟩ = pure (([Str.ofString "runs", Str.ofString "rest"] : List Str).zip vals) := by
  match vals, h with
  | [a, b], _ => kernel_rfl
theorem f_law_looks : fnB (K P) 109 [Str.ofString "runs", Str.ofString "looks", Str.ofString "k", Str.ofString "left", Str.ofString "m", Str.ofString "pair", Str.ofString "two"] [Str.ofString "runs"] (some 1) false = true := by kernel_rfl
theorem c_law_looks : chkS gx (cxOf (K P) 109 [Str.ofString "runs", Str.ofString "looks", Str.ofString "k", Str.ofString "left", Str.ofString "m", Str.ofString "pair", Str.ofString "two"] (some 1) false) b_law_looks (stsOf (K P) 109) = true := by kernel_rfl
theorem a_law_looks (vals : List Value) (h : vals.length = 1) : bindArgs (fdOf (K P) 109) ⟨vals, []⟩ = pure (([Str.ofString "runs"] : List Str).zip vals) := by
  match vals, h with
  | [a], _ => kernel_rfl
theorem f_law_order : fnB (K P) 116 [Str.ofString "runs", Str.ofString "number", Str.ofString "row", Str.ofString "left", Str.ofString "k", Str.ofString "place"] [Str.ofString "runs", Str.ofString "number"] (some 2) false = true := by kernel_rfl
theorem c_law_order : chkS gx (cxOf (K P) 116 [Str.ofString "runs", Str.ofString "number", Str.ofString "row", Str.ofString "left", Str.ofString "k", Str.ofString "place"] (some 2) false) b_law_order (stsOf (K P) 116) = true := by kernel_rfl
theorem a_law_order (vals : List Value) (h : vals.length = 2) : bindArgs (fdOf (K P) 116) ⟨vals, []⟩ = pure (([Str.ofString "runs", Str.ofString "number"] : List Str).zip vals) := by
  match vals, h with
  | [a, b], _ => kernel_rfl
theorem f_law_stroke : fnB (K P) 123 [Str.ofString "lead", Str.ofString "number", Str.ofString "sign", Str.ofString "place"] [Str.ofString "lead", Str.ofString "number"] none false = true := by kernel_rfl
theorem c_law_stroke : chkS gx (cxOf (K P) 123 [Str.ofString "lead", Str.ofString "number", Str.ofString "sign", Str.ofString "place"] none false) b_law_stroke (stsOf (K P) 123) = true := by kernel_rfl
theorem a_law_stroke (vals : List Value) (h : vals.length = 2) : bindArgs (fdOf (K P) 123) ⟨vals, []⟩ = pure (([Str.ofString "lead", Str.ofString "number"] : List Str).zip vals) := by
  match vals, h with
  | [a, b], _ => kernel_rfl
theorem f_law_one_stroke : fnB (K P) 128 [Str.ofString "one", Str.ofString "other", Str.ofString "short", Str.ofString "long"] [Str.ofString "one", Str.ofString "other"] none false = true := by kernel_rfl
theorem c_law_one_stroke : chkS gx (cxOf (K P) 128 [Str.ofString "one", Str.ofString "other", Str.ofString "short", Str.ofString "long"] none false) b_law_one_stroke (stsOf (K P) 128) = true := by kernel_rfl
theorem a_law_one_stroke (vals : List Value) (h : vals.length = 2) : bindArgs (fdOf (K P) 128) ⟨vals, []⟩ = pure (([Str.ofString "one", Str.ofString "other"] : List Str).zip vals) := by
  match vals, h with
  | [a, b], _ => kernel_rfl
theorem f_law_column : fnB (K P) 135 [Str.ofString "lead", Str.ofString "size", Str.ofString "column", Str.ofString "sign"] [Str.ofString "lead", Str.ofString "size"] none false = true := by kernel_rfl
theorem c_law_column : chkS gx (cxOf (K P) 135 [Str.ofString "lead", Str.ofString "size", Str.ofString "column", Str.ofString "sign"] none false) b_law_column (stsOf (K P) 135) = true := by kernel_rfl
theorem a_law_column (vals : List Value) (h : vals.length = 2) : bindArgs (fdOf (K P) 135) ⟨vals, []⟩ = pure (([Str.ofString "lead", Str.ofString "size"] : List Str).zip vals) := by
  match vals, h with
  | [a, b], _ => kernel_rfl
theorem f_law : fnB (K P) 140 [Str.ofString "script", Str.ofString "first", Str.ofString "last", Str.ofString "runs", Str.ofString "rest", Str.ofString "lead", Str.ofString "looks", Str.ofString "order", Str.ofString "strokes", Str.ofString "once", Str.ofString "here", Str.ofString "other", Str.ofString "there", Str.ofString "top", Str.ofString "rows", Str.ofString "against", Str.ofString "told", Str.ofString "columns"] [Str.ofString "script"] none false = true := by kernel_rfl
theorem c_law : chkS gx (cxOf (K P) 140 [Str.ofString "script", Str.ofString "first", Str.ofString "last", Str.ofString "runs", Str.ofString "rest", Str.ofString "lead", Str.ofString "looks", Str.ofString "order", Str.ofString "strokes", Str.ofString "once", Str.ofString "here", Str.ofString "other", Str.ofString "there", Str.ofString "top", Str.ofString "rows", Str.ofString "against", Str.ofString "told", Str.ofString "columns"] none false) b_law (stsOf (K P) 140) = true := by kernel_rfl
theorem a_law (vals : List Value) (h : vals.length = 1) : bindArgs (fdOf (K P) 140) ⟨vals, []⟩ = pure (([Str.ofString "script"] : List Str).zip vals) := by
  match vals, h with
  | [a], _ => kernel_rfl
theorem mk : makesIn (K P) gx.C = true := by kernel_rfl
theorem ini : findIn (K P) (.ref gx.C) "__init__" = some (some (.ref 31)) := by kernel_rfl
theorem inf : typeIn (K P) (.ref 31) = some (.type "function") := by kernel_rfl
theorem fx (f : Nat) (x : Fx) (h : tab.lookup f = some x) : FxOK (K P) gx f x := by
  by_cases h0 : f = 0
  · subst h0; cases h
    exact .nw _ _ _ _ _ rfl rfl (fnAt_of (f_init P) (a_init P)) rfl (c_init P) rfl (mk P) (ini P) (inf P)
  by_cases h1 : f = 1
  · subst h1; cases h
    exact .fn _ _ _ _ rfl rfl (fnAt_of (f_longest_run_of_spaces P) (a_longest_run_of_spaces P)) rfl (c_longest_run_of_spaces P) rfl
  by_cases h2 : f = 2
  · subst h2; cases h
    exact .fn _ _ _ _ rfl rfl (fnAt_of (f_indent_level P) (a_indent_level P)) rfl (c_indent_level P) rfl
  by_cases h3 : f = 3
  · subst h3; cases h
    exact .fn _ _ _ _ rfl rfl (fnAt_of (f_equal P) (a_equal P)) rfl (c_equal P) rfl
  by_cases h4 : f = 4
  · subst h4; cases h
    exact .fn _ _ _ _ rfl rfl (fnAt_of (f_not_equal_witness P) (a_not_equal_witness P)) rfl (c_not_equal_witness P) rfl
  by_cases h5 : f = 5
  · subst h5; cases h
    exact .fn _ _ _ _ rfl rfl (fnAt_of (f_less P) (a_less P)) rfl (c_less P) rfl
  by_cases h6 : f = 6
  · subst h6; cases h
    exact .fn _ _ _ _ rfl rfl (fnAt_of (f_not_less_witness P) (a_not_less_witness P)) rfl (c_not_less_witness P) rfl
  by_cases h10 : f = 10
  · subst h10; cases h
    exact .fn _ _ _ _ rfl rfl (fnAt_of (f_substitution_cost P) (a_substitution_cost P)) rfl (c_substitution_cost P) rfl
  by_cases h11 : f = 11
  · subst h11; cases h
    exact .fn _ _ _ _ rfl rfl (fnAt_of (f_levenshtein_distance P) (a_levenshtein_distance P)) rfl (c_levenshtein_distance P) rfl
  by_cases h12 : f = 12
  · subst h12; cases h
    exact .fn _ _ _ _ rfl rfl (fnAt_of (f_law_sum P) (a_law_sum P)) rfl (c_law_sum P) rfl
  by_cases h13 : f = 13
  · subst h13; cases h
    exact .fn _ _ _ _ rfl rfl (fnAt_of (f_law_word P) (a_law_word P)) rfl (c_law_word P) rfl
  by_cases h14 : f = 14
  · subst h14; cases h
    exact .fn _ _ _ _ rfl rfl (fnAt_of (f_law_looks P) (a_law_looks P)) rfl (c_law_looks P) rfl
  by_cases h15 : f = 15
  · subst h15; cases h
    exact .fn _ _ _ _ rfl rfl (fnAt_of (f_law_order P) (a_law_order P)) rfl (c_law_order P) rfl
  by_cases h16 : f = 16
  · subst h16; cases h
    exact .fn _ _ _ _ rfl rfl (fnAt_of (f_law_stroke P) (a_law_stroke P)) rfl (c_law_stroke P) rfl
  by_cases h17 : f = 17
  · subst h17; cases h
    exact .fn _ _ _ _ rfl rfl (fnAt_of (f_law_one_stroke P) (a_law_one_stroke P)) rfl (c_law_one_stroke P) rfl
  by_cases h18 : f = 18
  · subst h18; cases h
    exact .fn _ _ _ _ rfl rfl (fnAt_of (f_law_column P) (a_law_column P)) rfl (c_law_column P) rfl
  by_cases h19 : f = 19
  · subst h19; cases h
    exact .fn _ _ _ _ rfl rfl (fnAt_of (f_law P) (a_law P)) rfl (c_law P) rfl
  simp only [tab, List.lookup_cons, List.lookup_nil, (beq_eq_false_iff_ne.mpr h0 : (f == 0) = false), (beq_eq_false_iff_ne.mpr h1 : (f == 1) = false), (beq_eq_false_iff_ne.mpr h2 : (f == 2) = false), (beq_eq_false_iff_ne.mpr h3 : (f == 3) = false), (beq_eq_false_iff_ne.mpr h4 : (f == 4) = false), (beq_eq_false_iff_ne.mpr h5 : (f == 5) = false), (beq_eq_false_iff_ne.mpr h6 : (f == 6) = false), (beq_eq_false_iff_ne.mpr h10 : (f == 10) = false), (beq_eq_false_iff_ne.mpr h11 : (f == 11) = false), (beq_eq_false_iff_ne.mpr h12 : (f == 12) = false), (beq_eq_false_iff_ne.mpr h13 : (f == 13) = false), (beq_eq_false_iff_ne.mpr h14 : (f == 14) = false), (beq_eq_false_iff_ne.mpr h15 : (f == 15) = false), (beq_eq_false_iff_ne.mpr h16 : (f == 16) = false), (beq_eq_false_iff_ne.mpr h17 : (f == 17) = false), (beq_eq_false_iff_ne.mpr h18 : (f == 18) = false), (beq_eq_false_iff_ne.mpr h19 : (f == 19) = false)] at h
  cases h
end
end L1
end
section
open PySem PySem.W PyProof.Rows PySem.Calls
set_option maxRecDepth 100000 in
set_option maxHeartbeats 8000000 in
theorem L1.join (main : ∀ ns : List Int, ns.length ≤ 63 → Mine.Fk L1.tab 40 3 19 [.list (ns.map .int)] = some (.bool true)) : PySem.Challenge.rw_pg0214_01.Holds := by
  w_on
  refine holds_law L1.said fun said' => ?_
  refine holds_open (q := L1.view) (loose := L1.loose) (Xt := fun s => xlAt L1.view [] s && recOk (RowW.records L1.row) s) (XP := XL L1.view [])
    (Yf := Hook.obs L1.hook) (Ya := Hook.val L1.hook) (YP := Hook.says L1.hook) (N := 1830) L1.left (Hook.of _) (Hook.keeps _)
    (fun s e => xl_of s (Bool.and_eq_true_iff.mp e).1) XL.keeps (by rfl) (by rfl) (by rfl) (fun s e => recFacts_of (Bool.and_eq_true_iff.mp e).2) (by rfl) (by first | assumption | decide +kernel) (by decide +kernel) ⟨rfl, rfl, rfl, rfl, rfl, by decide +kernel⟩ ?hw ?hc
  case hw => w_witness2
  intro w s₀ s₁ mg mb G Y fa o pm cd doc dV kV ho hd hcd hD hmg hg args vals as hpre hlay hrd hwl hlo
  have KX : (L1.K w.params).In s₁.heap := kIn_of (e := L1.as_eq) Y
  have X := (Ground.X G).1
  have V := (Ground.X G).2
  refine Ground.open G ?_
  intro T B D TE TW
  wrow_args hpre hlay hrd hwl hlo
  have hfa : fa = 140 := Value.ref.inj (Option.some.inj (hmg.symm.trans (mg_of KX T.g (n := "law") (v := .ref 140) (by kernel_rfl))))
  subst hfa
  rename_i ns _ _ _ _ _ _ _ a items _ hL _ _ _ hI _ hc _
  refine wpAny_mono (Mine.law_end KX (topRead_of T) (L1.gok _) (L1.fx _) hL hI (f := 19) rfl (main ns (by omega))) (fun v s' q => Mine.good_end q hg (fun _ => rfl) (by first | kernel_rfl | wrow_post)) fun _ _ f => f.elim
end
set_option maxRecDepth 100000 in
set_option maxHeartbeats 8000000 in
theorem PySem.Challenge.cw_pg0214_01_holds : PySem.Challenge.rw_pg0214_01.Holds :=
  L1.join Mine.main1
