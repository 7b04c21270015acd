import PyProof.Rows.All
import Wide.All
import OpenK.AllK
import Wide.FinOn
import Lean
import PySem.Challenge.RW_uq0004_01
open PySem PySem.W PySem.Calls PyProof.Rows
set_option Elab.async false
set_option maxRecDepth 1000000
set_option bootstrap.genMatcherCode false
set_option genSizeOf false
set_option genInjectivity false
set_option compiler.extract_closed false
set_option backward.eqns.nonrecursive false

namespace Mine

/-- a small map on numbers -/
inductive Tr (α : Type) where
  | nil
  | node (v : Option α) (l r : Tr α)
namespace Tr
variable {α : Type}
noncomputable def get (t : Tr α) : Nat → Option α :=
  Tr.rec (motive := fun _ => Nat → Option α) (fun _ => none) (fun v _ _ gl gr i => Bool.rec (motive := fun _ => Option α) (Bool.rec (motive := fun _ => Option α) (gr (Nat.sub (Nat.div i (nat_lit 2)) (nat_lit 1))) (gl (Nat.div i (nat_lit 2))) (Nat.beq (Nat.mod i (nat_lit 2)) (nat_lit 1))) v (Nat.beq i (nat_lit 0))) t
noncomputable def tv (t : Tr α) : Option α := Tr.rec (motive := fun _ => Option α) none (fun v _ _ _ _ => v) t
noncomputable def tl (t : Tr α) : Tr α := Tr.rec (motive := fun _ => Tr α) .nil (fun _ l _ _ _ => l) t
noncomputable def tr (t : Tr α) : Tr α := Tr.rec (motive := fun _ => Tr α) .nil (fun _ _ r _ _ => r) t
noncomputable def set (n : Nat) : Tr α → Nat → α → Tr α :=
  Nat.rec (motive := fun _ => Tr α → Nat → α → Tr α) (fun t _ _ => t) (fun _ ih t i x =>
    Bool.rec (motive := fun _ => Tr α) (Bool.rec (motive := fun _ => Tr α) (.node t.tv t.tl (ih t.tr (Nat.sub (Nat.div i (nat_lit 2)) (nat_lit 1)) x)) (.node t.tv (ih t.tl (Nat.div i (nat_lit 2)) x) t.tr) (Nat.beq (Nat.mod i (nat_lit 2)) (nat_lit 1)))
     (.node (some x) t.tl t.tr) (Nat.beq i (nat_lit 0))) n
theorem beq_eq (a b : Nat) : Nat.beq a b = decide (a = b) := by
  cases h : Nat.beq a b with
  | true => simp [Nat.eq_of_beq_eq_true h]
  | false => simp [Nat.ne_of_beq_eq_false h]
theorem rec_if {β : Type} (i k : Nat) (a b : β) : (Bool.rec (motive := fun _ => β) a b (Nat.beq i k) : β) = if i = k then b else a := by
  rw [beq_eq]
  by_cases h : i = k
  · rw [if_pos h, decide_eq_true h]
  · rw [if_neg h, decide_eq_false h]
theorem get_node (v : Option α) (l r : Tr α) (i : Nat) : (node v l r).get i = if i = 0 then v else if i % 2 = 1 then l.get (i / 2) else r.get (i / 2 - 1) :=
  (rec_if i 0 _ v).trans (congrArg (fun x => if i = 0 then v else x) (rec_if (i % 2) 1 (r.get (i / 2 - 1)) (l.get (i / 2))))
theorem get_nil (i : Nat) : (nil : Tr α).get i = none := rfl
theorem get_eq (t : Tr α) (i : Nat) : t.get i = if i = 0 then t.tv else if i % 2 = 1 then t.tl.get (i / 2) else t.tr.get (i / 2 - 1) := by
  cases t with
  | nil => show none = if i = 0 then none else if i % 2 = 1 then none else none; split <;> (try split) <;> rfl
  | node v l r => exact get_node v l r i
theorem set_eq (n : Nat) (t : Tr α) (i : Nat) (x : α) : set (n + 1) t i x = if i = 0 then .node (some x) t.tl t.tr else if i % 2 = 1 then .node t.tv (set n t.tl (i / 2) x) t.tr else .node t.tv t.tl (set n t.tr (i / 2 - 1) x) :=
  (rec_if i 0 _ _).trans (congrArg (fun y => if i = 0 then Tr.node (some x) t.tl t.tr else y) (rec_if (i % 2) 1 (Tr.node t.tv t.tl (set n t.tr (i / 2 - 1) x)) (Tr.node t.tv (set n t.tl (i / 2) x) t.tr)))
theorem get_set : ∀ (n : Nat) (t : Tr α) (i j : Nat) (x : α), i < 2 ^ n → (set (n + 1) t i x).get j = if j = i then some x else t.get j := by
  intro n
  induction n with
  | zero =>
    intro t i j x hi
    have : i = 0 := by omega
    subst this
    rw [set_eq, if_pos rfl, get_node, get_eq t j]
    by_cases h : j = 0
    · rw [if_pos h, if_pos h]
    · rw [if_neg h, if_neg h, if_neg h]
  | succ n ih =>
    intro t i j x hi
    rw [set_eq, get_eq t j]
    by_cases h0 : i = 0
    · rw [if_pos h0, get_node]
      by_cases h : j = 0
      · rw [if_pos h, if_pos (h.trans h0.symm)]
      · rw [if_neg h, if_neg h, if_neg (show ¬ j = i from fun q => h (q.trans h0))]
    · rw [if_neg h0]
      by_cases p : i % 2 = 1
      · rw [if_pos p, get_node]
        by_cases h : j = 0
        · rw [if_pos h, if_pos h, if_neg (show ¬ j = i from fun q => h0 (q.symm.trans h))]
        · rw [if_neg h, if_neg h]
          by_cases q : j % 2 = 1
          · rw [if_pos q, if_pos q, ih _ _ _ _ (by omega)]
            by_cases e : j = i
            · rw [if_pos e, if_pos (by rw [e])]
            · rw [if_neg e, if_neg (show ¬ _ from by omega)]
          · rw [if_neg q, if_neg q, if_neg (show ¬ j = i from fun e => q (e ▸ p))]
      · rw [if_neg p, get_node]
        by_cases h : j = 0
        · rw [if_pos h, if_pos h, if_neg (show ¬ j = i from fun q => h0 (q.symm.trans h))]
        · rw [if_neg h, if_neg h]
          by_cases q : j % 2 = 1
          · rw [if_pos q, if_pos q, if_neg (show ¬ j = i from fun e => p (e ▸ q))]
          · rw [if_neg q, if_neg q, ih _ _ _ _ (by omega)]
            by_cases e : j = i
            · rw [if_pos e, if_pos (by rw [e])]
            · rw [if_neg e, if_neg (show ¬ _ from by omega)]
end Tr

/-- expressions of whole numbers -/
inductive IE where
  | c (k : Int) | v (i : Nat)
  | add (a b : IE) | sub (a b : IE) | mul (a b : IE) | div (a b : IE) | mod (a b : IE)
  | shl (a b : IE) | shr (a b : IE) | pow (a b : IE)
  | bxor (a b : IE) | bits (a : IE)
noncomputable def IE.val (ι : Nat → Int) : IE → Int
  | c k => k
  | v i => ι i
  | add a b => a.val ι + b.val ι
  | sub a b => a.val ι - b.val ι
  | mul a b => a.val ι * b.val ι
  | div a b => (a.val ι).fdiv (b.val ι)
  | mod a b => (a.val ι).fmod (b.val ι)
  | shl a b => a.val ι * 2 ^ (b.val ι).toNat
  | shr a b => (a.val ι).fdiv (2 ^ (b.val ι).toNat)
  | pow a b => a.val ι ^ (b.val ι).toNat
  | bxor a b => Builtin.bitXor (a.val ι) (b.val ι)
  | bits a => (Builtin.Int.intBits (a.val ι) : Int)

inductive AV where
  | none | bool (b : Bool) | int (e : IE) | str (x : Str) | ref (i : Nat) | glob (i : Nat)
inductive AObj where
  | frame (f : Nat) (ls : List (Option AV))
  | list (xs : List AV)
  | tup (xs : List AV)
  | cell (v : Option AV)
  | dead
  | tab (l c : Nat) (st : Option Nat)
  | code (q : Str)
  | func (k : Nat) (cs : List (Nat × Nat)) (ci : Nat)
  | tabx
noncomputable def AObj.live : AObj → Bool
  | .dead => false
  | _ => true

/-- an object that holds a dict: a frame | a namespace -/
noncomputable def IsD (o : Obj) : Prop := ∃ es n, o.data = .dict es n
noncomputable def AObj.kd : AObj → Nat
  | .frame .. => 0
  | .list .. => 1
  | .tup .. => 2
  | .cell .. => 3
  | .dead => 4
  | .tab .. => 5
  | .code .. => 6
  | .func .. => 7
  | .tabx => 8
noncomputable def lkN (l : List (Nat × Nat)) (i : Nat) : Option Nat := List.rec (motive := fun _ => Option Nat) none (fun p _ ih => Bool.rec (motive := fun _ => Option Nat) ih (some p.2) (Nat.beq p.1 i)) l
theorem lkN_cons (p : Nat × Nat) (r : List (Nat × Nat)) (i : Nat) : lkN (p :: r) i = if p.1 = i then some p.2 else lkN r i := Tr.rec_if p.1 i (lkN r i) (some p.2)
structure St where
  h : Tr AObj
  n : Nat

/-- what stands fast through a run -/
structure WC where
  prog : Program
  w : World
  hb : Heap
  mg : Str → Option Value
  mb : Str → Option Value
  tabs : List Addr
  ga : Nat → Addr
  nm : Nat → Nat → Str
  cnt : Nat → Nat
  ι : Nat → Int
  os : OsState
  /-- the object of an inner def with its closure and its code's place -/
  fo : Nat → Obj → List (Str × Addr) → Addr → Prop
  /-- the code tables, the first of ours -/
  ta : List Addr

section
variable (C : WC)
noncomputable def RV (S : List Addr) : AV → Value → Prop
  | .none, v => v = .none
  | .bool b, v => v = .bool b
  | .int e, v => ∃ t, v = .int (e.val C.ι) t
  | .str x, v => ∃ t, v = .str x t
  | .ref i, v => ∃ a, S[i]? = some a ∧ v = .ref a
  | .glob i, v => v = .ref (C.ga i)
noncomputable def RVs (S : List Addr) : List AV → List Value → Prop
  | [], vs => vs = []
  | x :: xs, vs => ∃ v r, vs = v :: r ∧ RV C S x v ∧ RVs S xs r
noncomputable def ROpt (S : List Addr) : Option AV → Option Value → Prop
  | none, o => o = none
  | some x, o => ∃ v, o = some v ∧ RV C S x v
noncomputable def RO (S : List Addr) (h : Heap) (a : Addr) : AObj → Prop
  | .frame f ls => ls.length ≤ C.cnt f ∧ ∃ m, h.Ns a m ∧ ∀ i x, ls[i]? = some x → ROpt C S x (m (C.nm f i))
  | .list xs => ∃ vs n, IsL h a vs n ∧ RVs C S xs vs.toList
  | .tup xs => ∃ vs, h.get? a = some { cls := .type "tuple", data := .seq vs } ∧ RVs C S xs vs.toList
  | .cell v => ∃ o, h.IsCell a o ∧ ROpt C S v o
  | .dead => ∃ o, h.get? a = some o
  | .tab _ _ none => h.get? a = some (tabObj #[])
  | .tab l c (some i) => ∃ b, S[i]? = some b ∧ h.get? a = some (tabObj #[rawInt (l : Int), rawInt (c : Int), .ref b])
  | .code q => h.CodeRec (.ref a) q
  | .tabx => ∃ ps, h.get? a = some (tabObj ps)
  | .func k cs ci => ∃ o cl b, h.get? a = some o ∧ C.fo k o cl b ∧ (∃ fd, o.data = .func fd) ∧ S[ci]? = some b ∧ ∀ i c, lkN cs i = some c → ∃ d, S[c]? = some d ∧ cl.lookup (C.nm k i) = some d
end

theorem getElem?_append_of {α : Type} {l : List α} {i : Nat} {a : α} (h : l[i]? = some a) (m : List α) : (l ++ m)[i]? = some a := by
  rw [List.getElem?_append_left (List.getElem?_eq_some_iff.mp h).1]; exact h
section
variable {C : WC} {S : List Addr}
theorem RV.mono {x : AV} {v : Value} (h : RV C S x v) (N : List Addr) : RV C (S ++ N) x v := by
  cases x <;> first | exact h | skip
  obtain ⟨a, e, q⟩ := h
  exact ⟨a, getElem?_append_of e N, q⟩
theorem RVs.mono (N : List Addr) : ∀ {xs : List AV} {vs : List Value}, RVs C S xs vs → RVs C (S ++ N) xs vs
  | [], _, h => h
  | _ :: _, _, ⟨v, r, e, hv, hr⟩ => ⟨v, r, e, hv.mono N, RVs.mono N hr⟩
theorem ROpt.mono {x : Option AV} {v : Option Value} (h : ROpt C S x v) (N : List Addr) : ROpt C (S ++ N) x v := by
  cases x with
  | none => exact h
  | some x => obtain ⟨v, e, q⟩ := h; exact ⟨v, e, q.mono N⟩
theorem RVs.length : ∀ {xs : List AV} {vs : List Value}, RVs C S xs vs → vs.length = xs.length
  | [], _, h => by rw [show _ = [] from h]; rfl
  | _ :: _, _, ⟨v, r, e, hv, hr⟩ => by rw [e, List.length_cons, hr.length, List.length_cons]
theorem RVs.get : ∀ {xs : List AV} {vs : List Value}, RVs C S xs vs → ∀ {i : Nat} {x : AV}, xs[i]? = some x → ∃ v, vs[i]? = some v ∧ RV C S x v
  | _ :: _, _, ⟨v, r, e, hv, hr⟩, 0, x, h => by cases h; exact ⟨v, by rw [e]; rfl, hv⟩
  | _ :: _, _, ⟨v, r, e, hv, hr⟩, i + 1, x, h => by
    obtain ⟨u, q, z⟩ := hr.get (i := i) (x := x) (by simpa using h)
    exact ⟨u, by rw [e]; simpa using q, z⟩
  | [], _, _, _, _, h => by cases h
theorem RVs.append : ∀ {xs ys : List AV} {vs us : List Value}, RVs C S xs vs → RVs C S ys us → RVs C S (xs ++ ys) (vs ++ us)
  | [], _, vs, _, h, q => by rw [show vs = [] from h]; exact q
  | _ :: _, _, _, _, ⟨v, r, e, hv, hr⟩, q => ⟨v, _, by rw [e]; rfl, hv, hr.append q⟩
theorem RVs.one {x : AV} {v : Value} (h : RV C S x v) : RVs C S [x] [v] := ⟨v, [], rfl, h, rfl⟩
theorem RVs.reverse {xs : List AV} {vs : List Value} (h : RVs C S xs vs) : RVs C S xs.reverse vs.reverse := by
  induction xs generalizing vs with
  | nil => rw [show vs = [] from h]; rfl
  | cons x xs ih =>
    obtain ⟨v, r, e, hv, hr⟩ := h
    rw [e, List.reverse_cons, List.reverse_cons]
    exact (ih hr).append (RVs.one hv)
theorem RVs.set : ∀ {xs : List AV} {vs : List Value}, RVs C S xs vs → ∀ {i : Nat} {x : AV} {v : Value}, RV C S x v → RVs C S (xs.set i x) (vs.set i v)
  | [], vs, h, _, _, _, _ => by rw [show vs = [] from h]; exact rfl
  | _ :: _, _, ⟨u, r, e, hu, hr⟩, 0, x, v, q => by rw [e]; exact ⟨v, r, rfl, q, hr⟩
  | _ :: _, _, ⟨u, r, e, hu, hr⟩, i + 1, x, v, q => by rw [e]; exact ⟨u, _, rfl, hu, hr.set q⟩
theorem RO.mono {h : Heap} {a : Addr} {o : AObj} (H : RO C S h a o) (N : List Addr) : RO C (S ++ N) h a o := by
  cases o with
  | frame f ls => obtain ⟨hc, m, hm, q⟩ := H; exact ⟨hc, m, hm, fun i x e => (q i x e).mono N⟩
  | list xs => obtain ⟨vs, n, hl, q⟩ := H; exact ⟨vs, n, hl, q.mono N⟩
  | tup xs => obtain ⟨vs, hl, q⟩ := H; exact ⟨vs, hl, q.mono N⟩
  | cell v => obtain ⟨o, hl, q⟩ := H; exact ⟨o, hl, q.mono N⟩
  | dead => exact H
  | tab l c st =>
    cases st with
    | none => exact H
    | some i => obtain ⟨b, hb, q⟩ := H; exact ⟨b, getElem?_append_of hb N, q⟩
  | code q => exact H
  | tabx => exact H
  | func k cs ci =>
    obtain ⟨o, cl, b, h1, h2, h5, h3, h4⟩ := H
    exact ⟨o, cl, b, h1, h2, h5, getElem?_append_of h3 N, fun i c e => let ⟨d, d1, d2⟩ := h4 i c e; ⟨d, getElem?_append_of d1 N, d2⟩⟩
theorem RO.heap {h h' : Heap} {a : Addr} {o : AObj} (H : RO C S h a o) (e : ∀ x, h.get? a = some x → h'.get? a = some x) : RO C S h' a o := by
  cases o with
  | frame f ls =>
    obtain ⟨hc, m, ⟨o, es, ep, ho, r⟩, q⟩ := H
    exact ⟨hc, m, ⟨o, es, ep, e _ ho, r⟩, q⟩
  | list xs => obtain ⟨vs, n, hl, q⟩ := H; exact ⟨vs, n, e _ hl, q⟩
  | tup xs => obtain ⟨vs, hl, q⟩ := H; exact ⟨vs, e _ hl, q⟩
  | cell v => obtain ⟨o, ⟨o', ho', hd⟩, q⟩ := H; exact ⟨o, ⟨o', e _ ho', hd⟩, q⟩
  | dead => obtain ⟨o, ho⟩ := H; exact ⟨o, e _ ho⟩
  | tab l c st =>
    cases st with
    | none => exact e _ H
    | some i => obtain ⟨b, hb, q⟩ := H; exact ⟨b, hb, e _ q⟩
  | code q => obtain ⟨c, oc, vs, t, hc, ho, r⟩ := H; cases hc; exact ⟨_, oc, vs, t, rfl, e _ ho, r⟩
  | func k cs ci => obtain ⟨o, cl, b, h1, r⟩ := H; exact ⟨o, cl, b, e _ h1, r⟩
  | tabx => obtain ⟨ps, q⟩ := H; exact ⟨ps, e _ q⟩
theorem RO.some {h : Heap} {a : Addr} {o : AObj} (H : RO C S h a o) : ∃ x, h.get? a = some x := by
  cases o with
  | frame f ls => obtain ⟨_, m, ⟨o, _, _, ho, _⟩, _⟩ := H; exact ⟨_, ho⟩
  | list xs => obtain ⟨vs, n, hl, _⟩ := H; exact ⟨_, hl⟩
  | tup xs => obtain ⟨vs, hl, _⟩ := H; exact ⟨_, hl⟩
  | cell v => obtain ⟨o, ⟨o', ho', _⟩, _⟩ := H; exact ⟨_, ho'⟩
  | dead => exact H
  | tab l c st =>
    cases st with
    | none => exact ⟨_, H⟩
    | some i => obtain ⟨b, hb, q⟩ := H; exact ⟨_, q⟩
  | code q => obtain ⟨c, oc, vs, t, hc, ho, r⟩ := H; cases hc; exact ⟨oc, ho⟩
  | func k cs ci => obtain ⟨o, cl, b, h1, _⟩ := H; exact ⟨o, h1⟩
  | tabx => obtain ⟨ps, q⟩ := H; exact ⟨_, q⟩
end

section
variable {C : WC} {S : List Addr}
theorem RO.kd_of {h : Heap} {a : Addr} {ao : AObj} (H : RO C S h a ao) (hl : ao.live = true) {o : Obj} (e : h.get? a = Option.some o) (d : IsD o) : ao.kd = 0 := by
  obtain ⟨es, n, d⟩ := d
  cases ao with
  | frame f ls => rfl
  | list xs => obtain ⟨vs, n, q, _⟩ := H; rw [q] at e; cases e; cases d
  | tup xs => obtain ⟨vs, q, _⟩ := H; rw [q] at e; cases e; cases d
  | cell v => obtain ⟨v, ⟨o', q, d'⟩, _⟩ := H; rw [q] at e; cases e; rw [d'] at d; cases d
  | dead => cases hl
  | tab l c st =>
    cases st with
    | none => rw [show h.get? a = _ from H] at e; cases e; cases d
    | some i => obtain ⟨b, _, q⟩ := H; rw [q] at e; cases e; cases d
  | code q => obtain ⟨c, oc, vs, t, hc, q, d', _⟩ := H; cases hc; rw [q] at e; cases e; rw [d'] at d; cases d
  | func k cs ci => obtain ⟨o', cl, b, q, _, ⟨fd, d'⟩, _⟩ := H; rw [q] at e; cases e; rw [d'] at d; cases d
  | tabx => obtain ⟨ps, q⟩ := H; rw [q] at e; cases e; cases d
theorem RO.dict_of {h : Heap} {a : Addr} {ao : AObj} (H : RO C S h a ao) (hk : ao.kd = 0) : ∃ o, h.get? a = Option.some o ∧ IsD o := by
  cases ao with
  | frame f ls => obtain ⟨_, m, ⟨o, es, ep, q, d, _⟩, _⟩ := H; exact ⟨o, q, es, ep, d⟩
  | _ => cases hk
end
/-- what holds a dict goes on holding one -/
noncomputable def Dct (s s' : Shared) : Prop := ∀ b o, s.heap.get? b = some o → IsD o → ∃ o', s'.heap.get? b = some o' ∧ IsD o'
theorem Dct.refl (s : Shared) : Dct s s := fun _ o e d => ⟨o, e, d⟩
theorem Dct.trans {s s' s'' : Shared} (x : Dct s s') (y : Dct s' s'') : Dct s s'' := fun b o e d => let ⟨o', e', d'⟩ := x b o e d; y b o' e' d'
structure Rel (C : WC) (σ : St) (S : List Addr) (s : Shared) : Prop where
  keep : ∀ b o, C.hb.get? b = some o → b ∉ C.tabs → s.heap.get? b = some o
  dom : ∀ b o, C.hb.get? b = some o → ∃ o', s.heap.get? b = some o'
  nodup : ∀ i j a x y, S[i]? = some a → S[j]? = some a → σ.h.get i = some x → σ.h.get j = some y → x.live = true → y.live = true → i = j
  off : ∀ a ∈ S, C.hb.get? a = none ∧ ∃ o, s.heap.get? a = some o
  len : S.length = σ.n
  objs : ∀ i ao, σ.h.get i = some ao → ∃ a, S[i]? = some a ∧ RO C S s.heap a ao
  bare : AllBare s.gens
  os : s.os = C.os
  ta : ∀ (i : Nat) (a : Addr), C.ta[i]? = some a → S[i]? = some a

structure Grow (C : WC) (S : List Addr) (s : Shared) (S' : List Addr) (s' : Shared) : Prop where
  pre : ∃ N, S' = S ++ N ∧ ∀ a ∈ N, s.heap.get? a = none
  out : ∀ a o, a ∉ S → s.heap.get? a = some o → a ∉ C.tabs → s'.heap.get? a = some o
  dom : ∀ b o, s.heap.get? b = some o → ∃ o', s'.heap.get? b = some o'
  dict : Dct s s'
  gens : ∀ (g : Nat) x, s.gens[g]? = some x → s'.gens[g]? = some x
  slot : ∀ a o, a ∉ S → a ∈ C.tabs → s.heap.get? a = some o → ∃ sl, s'.heap.get? a = some { o with slots := sl }
section
variable {C : WC} {S S' S'' : List Addr} {s s' s'' : Shared} {σ : St}
theorem Grow.refl (C : WC) (S : List Addr) (s : Shared) : Grow C S s S s := ⟨⟨[], by simp, fun _ h => by cases h⟩, fun _ _ _ e _ => e, fun _ o e => ⟨o, e⟩, Dct.refl s, fun _ _ e => e, fun _ o _ _ e => ⟨o.slots, e⟩⟩
theorem Grow.trans (x : Grow C S s S' s') (y : Grow C S' s' S'' s'') : Grow C S s S'' s'' := by
  obtain ⟨⟨N, rfl, hN⟩, xo, xs, xd, xg, xt⟩ := x
  obtain ⟨⟨M, rfl, hM⟩, yo, ys, yd, yg, yt⟩ := y
  have sub' : ∀ a o, a ∉ S → s.heap.get? a = some o → a ∉ S ++ N := fun a o ha e q => by
    rcases List.mem_append.mp q with h | h
    · exact ha h
    · rw [hN a h] at e; cases e
  refine ⟨⟨N ++ M, by simp, fun a ha => ?_⟩, fun a o ha e ht => yo a o ?_ (xo a o ha e ht) ht, fun b o e => let ⟨o', e'⟩ := xs b o e; ys b o' e', xd.trans yd, fun g x e => yg g x (xg g x e), fun a o ha ht e => let ⟨sl, e1⟩ := xt a o ha ht e; let ⟨sl', e2⟩ := yt a _ (sub' a o ha e) ht e1; ⟨sl', e2⟩⟩
  · rcases List.mem_append.mp ha with h | h
    · exact hN a h
    · cases q : s.heap.get? a with
      | none => rfl
      | some o =>
        obtain ⟨o', e'⟩ := xs a o q
        rw [hM a h] at e'
        cases e'
  · intro q
    rcases List.mem_append.mp q with h | h
    · exact ha h
    · rw [hN a h] at e; cases e
theorem Grow.rv (x : Grow C S s S' s') {a : AV} {v : Value} (h : RV C S a v) : RV C S' a v := by
  obtain ⟨N, rfl, _⟩ := x.pre; exact h.mono N
theorem Grow.rvs (x : Grow C S s S' s') {a : List AV} {v : List Value} (h : RVs C S a v) : RVs C S' a v := by
  obtain ⟨N, rfl, _⟩ := x.pre; exact h.mono N
theorem Grow.at (x : Grow C S s S' s') {i : Nat} {a : Addr} (h : S[i]? = some a) : S'[i]? = some a := by
  obtain ⟨N, rfl, _⟩ := x.pre; exact getElem?_append_of h N

/-- nothing of ours changes -/
theorem Rel.same (R : Rel C σ S s) {h' : Heap} {t' : Nat} (hk : ∀ b o, s.heap.get? b = some o → h'.get? b = some o) :
    Rel C σ S { s with heap := h', toks := t' } ∧ Grow C S s S { s with heap := h', toks := t' } :=
  ⟨⟨fun b o e q => hk b o (R.keep b o e q), fun b o e => let ⟨o', e'⟩ := R.dom b o e; ⟨o', hk b o' e'⟩, R.nodup, fun a ha => let ⟨x, o, e⟩ := R.off a ha; ⟨x, o, hk a o e⟩, R.len,
    fun i ao e => let ⟨a, ha, H⟩ := R.objs i ao e; ⟨a, ha, H.heap fun x q => hk a x q⟩, R.bare, R.os, R.ta⟩,
   ⟨⟨[], by simp, fun _ h => by cases h⟩, fun a o _ e _ => hk a o e, fun b o e => ⟨o, hk b o e⟩, fun b o e d => ⟨o, hk b o e, d⟩, fun _ _ e => e, fun a o _ _ e => ⟨o.slots, hk a o e⟩⟩⟩
theorem Rel.tok (R : Rel C σ S s) : Rel C σ S { s with toks := s.toks + 1 } ∧ Grow C S s S { s with toks := s.toks + 1 } :=
  R.same (h' := s.heap) (fun _ _ e => e)
theorem Rel.push (R : Rel C σ S s) (o : Obj) : Rel C σ S { s with heap := s.heap.push o } ∧ Grow C S s S { s with heap := s.heap.push o } :=
  R.same (fun _ _ e => Heap.get?_push_of_some o e)

noncomputable def St.put (σ : St) (i : Nat) (ao : AObj) : St := ⟨Tr.set (nat_lit 13) σ.h i ao, σ.n⟩
theorem St.get_put {σ : St} {i : Nat} (hi : i < 4096) (ao : AObj) (j : Nat) : (σ.put i ao).h.get j = if j = i then some ao else σ.h.get j :=
  Tr.get_set 12 σ.h i j ao hi
/-- one of ours is changed -/
theorem Rel.upd (R : Rel C σ S s) {i : Nat} {a : Addr} {old : AObj} (hi : S[i]? = some a) (hold : σ.h.get i = some old) (hlive : old.live = true) (hb : i < 4096) {ao : AObj} {h' : Heap} {t' : Nat} (hs : Heap.SameBut a s.heap h') (H : RO C S h' a ao) (hkd : ao.kd = old.kd := by rfl) :
    Rel C (σ.put i ao) S { s with heap := h', toks := t' } ∧ Grow C S s S { s with heap := h', toks := t' } := by
  have ha : a ∈ S := List.mem_of_getElem? hi
  have dom : ∀ b o, s.heap.get? b = some o → ∃ o', h'.get? b = some o' := by
    intro b o e
    by_cases q : b = a
    · subst q; exact H.some
    · exact ⟨o, (hs.2 b q).trans e⟩
  have dct : Dct s { s with heap := h', toks := t' } := by
    intro b o e d
    by_cases q : b = a
    · subst q
      obtain ⟨b', hb', ro⟩ := R.objs _ _ hold
      have : b' = b := by rw [hi] at hb'; exact (Option.some.inj hb').symm
      subst this
      exact RO.dict_of H (hkd.trans (ro.kd_of hlive e d))
    · exact ⟨o, (hs.2 b q).trans e, d⟩
  refine ⟨⟨fun b o e q => ?_, fun b o e => let ⟨o', e'⟩ := R.dom b o e; dom b o' e', fun j k b x y h1 h2 h3 h4 h5 h6 => ?_, fun b hb => let ⟨x, o, e⟩ := R.off b hb; ⟨x, dom b o e⟩, R.len, fun j x e => ?_, R.bare, R.os, R.ta⟩, ⟨⟨[], by simp, fun _ h => by cases h⟩, fun b o q e _ => ?_, dom, dct, fun _ _ e => e, fun b o q _ e => ⟨o.slots, (hs.2 b (by rintro rfl; exact q ha)).trans e⟩⟩⟩
  · have : b ≠ a := by
      rintro rfl
      rw [(R.off b ha).1] at e
      cases e
    exact (hs.2 b this).trans (R.keep b o e q)
  · rw [St.get_put hb] at h3 h4
    have z : ∀ k z, (if k = i then some ao else σ.h.get k) = some z → z.live = true → ∃ w, σ.h.get k = some w ∧ w.live = true := by
      intro k z h hz
      by_cases hk : k = i
      · subst hk; exact ⟨old, hold, hlive⟩
      · rw [if_neg hk] at h; exact ⟨z, h, hz⟩
    obtain ⟨x', e3, l3⟩ := z j x h3 h5
    obtain ⟨y', e4, l4⟩ := z k y h4 h6
    exact R.nodup j k b x' y' h1 h2 e3 e4 l3 l4
  · rw [St.get_put hb] at e
    by_cases hj : j = i
    · subst hj
      rw [if_pos rfl] at e
      cases e
      exact ⟨a, hi, H⟩
    · rw [if_neg hj] at e
      obtain ⟨b, hb, Hb⟩ := R.objs j x e
      by_cases hba : b = a
      · subst hba
        refine ⟨b, hb, ?_⟩
        cases hx : x.live with
        | true => exact absurd (R.nodup j i b x old hb hi e hold hx hlive) hj
        | false =>
          cases x <;> first | (cases hx; done) | exact H.some
      · exact ⟨b, hb, Hb.heap fun y q => (hs.2 b hba).trans q⟩
  · have : b ≠ a := by rintro rfl; exact q ha
    exact (hs.2 b this).trans e
noncomputable def St.new (σ : St) (ao : AObj) : St := ⟨Tr.set (nat_lit 13) σ.h σ.n ao, Nat.succ σ.n⟩
theorem nodup_new (R : Rel C σ S s) (hb : σ.n < 4096) {ao : AObj} {a : Addr} (hn : a ∉ S) :
    ∀ i j b x y, (S ++ [a])[i]? = some b → (S ++ [a])[j]? = some b → (σ.new ao).h.get i = some x → (σ.new ao).h.get j = some y → x.live = true → y.live = true → i = j := by
  intro i j b x y h1 h2 h3 h4 h5 h6
  have h3' : (σ.put σ.n ao).h.get i = some x := h3
  have h4' : (σ.put σ.n ao).h.get j = some y := h4
  rw [St.get_put hb] at h3' h4'
  have at_ : ∀ i, (S ++ [a])[i]? = some b → i < σ.n ∧ S[i]? = some b ∨ i = σ.n ∧ b = a := by
    intro i h
    by_cases hi : i < S.length
    · rw [List.getElem?_append_left hi] at h
      exact .inl ⟨by rw [← R.len]; exact hi, h⟩
    · rw [List.getElem?_append_right (by omega)] at h
      have hlt := (List.getElem?_eq_some_iff.mp h).1
      simp at hlt
      have e : i - S.length = 0 := by omega
      rw [e] at h
      cases h
      exact .inr ⟨by rw [← R.len]; omega, rfl⟩
  rcases at_ i h1 with ⟨p1, p2⟩ | ⟨p1, p2⟩ <;> rcases at_ j h2 with ⟨q1, q2⟩ | ⟨q1, q2⟩
  · rw [if_neg (show ¬ _ from by omega)] at h3' h4'
    exact R.nodup i j b x y p2 q2 h3' h4' h5 h6
  · rw [q2] at p2; exact absurd (List.mem_of_getElem? p2) hn
  · rw [p2] at q2; exact absurd (List.mem_of_getElem? q2) hn
  · rw [p1, q1]
/-- a new one of ours -/
theorem Rel.alloc (R : Rel C σ S s) (hb : σ.n < 4096) {ao : AObj} {a : Addr} {h' : Heap} {t' : Nat} (hk : ∀ b o, s.heap.get? b = some o → h'.get? b = some o) (hle : s.heap.get? a = none) (H : RO C (S ++ [a]) h' a ao) :
    Rel C (σ.new ao) (S ++ [a]) { s with heap := h', toks := t' } ∧ Grow C S s (S ++ [a]) { s with heap := h', toks := t' } ∧ RV C (S ++ [a]) (.ref σ.n) (.ref a) := by
  have hn : a ∉ S := fun q => by
    obtain ⟨_, o, e⟩ := R.off a q
    rw [hle] at e
    cases e
  have hat : (S ++ [a])[σ.n]? = some a := by rw [← R.len]; simp
  refine ⟨⟨fun b o e q => hk b o (R.keep b o e q), fun b o e => let ⟨o', e'⟩ := R.dom b o e; ⟨o', hk b o' e'⟩, nodup_new R hb hn, fun b hb => ?_, by simp [St.new, R.len], fun j x e => ?_, R.bare, R.os, fun i b e => getElem?_append_of (R.ta i b e) _⟩, ⟨⟨[a], rfl, fun b hb => by rw [List.mem_singleton.mp hb]; exact hle⟩, fun b o _ e _ => hk b o e, fun b o e => ⟨o, hk b o e⟩, fun b o e d => ⟨o, hk b o e, d⟩, fun _ _ e => e, fun a o _ _ e => ⟨o.slots, hk a o e⟩⟩, ⟨a, hat, rfl⟩⟩
  · rcases List.mem_append.mp hb with h | h
    · obtain ⟨x, o, e⟩ := R.off b h
      exact ⟨x, o, hk b o e⟩
    · rw [List.mem_singleton.mp h]
      refine ⟨?_, H.some⟩
      cases q : C.hb.get? a with
      | none => rfl
      | some o =>
        obtain ⟨o', e'⟩ := R.dom a o q
        rw [hle] at e'
        cases e'
  · have e' : (σ.put σ.n ao).h.get j = some x := e
    rw [St.get_put hb] at e'
    by_cases hj : j = σ.n
    · subst hj
      rw [if_pos rfl] at e'
      cases e'
      exact ⟨a, hat, H⟩
    · rw [if_neg hj] at e'
      obtain ⟨b, hb, Hb⟩ := R.objs j x e'
      exact ⟨b, getElem?_append_of hb _, (Hb.mono [a]).heap fun y q => hk b y q⟩
/-- a new one of ours, at the heap's end -/
theorem get_size (h : Heap) : h.get? h.objs.size = none := by
  cases q : h.get? h.objs.size with
  | none => rfl
  | some o => exact absurd (Heap.lt_size q) (Nat.lt_irrefl _)
end
end Mine

namespace Mine

/-- what is known of the letters -/
structure Facts where
  fi : List (IE × Int) := []
  fb : List (CmpOp × IE × IE × Bool) := []
  lb : List (Option Nat) := []
  nn : List Bool := []

noncomputable def IE.tag : IE → Nat
  | .c _ => 0 | .v _ => 1 | .add _ _ => 2 | .sub _ _ => 3 | .mul _ _ => 4 | .div _ _ => 5 | .mod _ _ => 6 | .shl _ _ => 7 | .shr _ _ => 8 | .pow _ _ => 9 | .bxor _ _ => 10 | .bits _ => 11
noncomputable def IE.one : IE → IE
  | .c k => .c k | .v i => .v i | .add a _ => a | .sub a _ => a | .mul a _ => a | .div a _ => a | .mod a _ => a | .shl a _ => a | .shr a _ => a | .pow a _ => a | .bxor a _ => a | .bits a => a
noncomputable def IE.two : IE → IE
  | .c k => .c k | .v i => .v i | .add _ a => a | .sub _ a => a | .mul _ a => a | .div _ a => a | .mod _ a => a | .shl _ a => a | .shr _ a => a | .pow _ a => a | .bxor _ a => a | .bits a => a
noncomputable def IE.kst : IE → Int
  | .c k => k | .v i => i | .add _ _ => 0 | .sub _ _ => 0 | .mul _ _ => 0 | .div _ _ => 0 | .mod _ _ => 0 | .shl _ _ => 0 | .shr _ _ => 0 | .pow _ _ => 0 | .bxor _ _ => 0 | .bits _ => 0
/-- a form by its number and its parts -/
noncomputable def IE.un (y : IE) (g : Nat → Int → Bool) (f : Nat → IE → IE → Bool) : Bool := IE.rec (motive := fun _ => Bool) (fun k => g (nat_lit 0) k) (fun i => g (nat_lit 1) (.ofNat i)) (fun a b _ _ => f (nat_lit 2) a b) (fun a b _ _ => f (nat_lit 3) a b) (fun a b _ _ => f (nat_lit 4) a b)
  (fun a b _ _ => f (nat_lit 5) a b) (fun a b _ _ => f (nat_lit 6) a b) (fun a b _ _ => f (nat_lit 7) a b) (fun a b _ _ => f (nat_lit 8) a b) (fun a b _ _ => f (nat_lit 9) a b) (fun a b _ _ => f (nat_lit 10) a b) (fun a _ => f (nat_lit 11) a a) y
noncomputable def andB (a b : Bool) : Bool := Bool.rec (motive := fun _ => Bool) false b a
theorem andB_at {a b : Bool} (h : andB a b = true) : a = true ∧ b = true := by
  cases a
  · cases h
  · exact ⟨rfl, h⟩
noncomputable def beqZ (a b : Int) : Bool := Int.rec (motive := fun _ => Bool) (fun m => Int.rec (motive := fun _ => Bool) (fun n => Nat.beq m n) (fun _ => false) b) (fun m => Int.rec (motive := fun _ => Bool) (fun _ => false) (fun n => Nat.beq m n) b) a
theorem beqZ_eq (a b : Int) : beqZ a b = (a == b) := by
  cases a with
  | ofNat m => cases b with
    | ofNat n =>
      show Nat.beq m n = _
      rw [Tr.beq_eq, Bool.eq_iff_iff]; simp; omega
    | negSucc n => rfl
  | negSucc m => cases b with
    | ofNat n => rfl
    | negSucc n =>
      show Nat.beq m n = _
      rw [Tr.beq_eq, Bool.eq_iff_iff]; simp
noncomputable def leaf (n : Nat) (k : Int) (y : IE) : Bool := y.un (fun t j => andB (Nat.beq t n) (beqZ k j)) (fun _ _ _ => false)
noncomputable def fork (n : Nat) (p q : IE → Bool) (y : IE) : Bool := y.un (fun _ _ => false) (fun t c d => andB (Nat.beq t n) (andB (p c) (q d)))
noncomputable def IE.beq (a : IE) : IE → Bool := IE.rec (motive := fun _ => IE → Bool) (fun k => leaf (nat_lit 0) k) (fun i => leaf (nat_lit 1) (.ofNat i)) (fun _ _ p q => fork (nat_lit 2) p q) (fun _ _ p q => fork (nat_lit 3) p q) (fun _ _ p q => fork (nat_lit 4) p q)
  (fun _ _ p q => fork (nat_lit 5) p q) (fun _ _ p q => fork (nat_lit 6) p q) (fun _ _ p q => fork (nat_lit 7) p q) (fun _ _ p q => fork (nat_lit 8) p q) (fun _ _ p q => fork (nat_lit 9) p q) (fun _ _ p q => fork (nat_lit 10) p q) (fun _ p => fork (nat_lit 11) p (fun _ => true)) a
/-- a form is told by its number, its parts and its whole number -/
theorem IE.told {a b : IE} (h0 : a.tag = b.tag) (h1 : a.one = b.one) (h2 : a.two = b.two) (h3 : a.kst = b.kst) : a = b := by
  have mk : ∀ x : IE, x = (match x.tag with | 0 => .c x.kst | 1 => .v x.kst.toNat | 2 => .add x.one x.two | 3 => .sub x.one x.two | 4 => .mul x.one x.two | 5 => .div x.one x.two | 6 => .mod x.one x.two | 7 => .shl x.one x.two | 8 => .shr x.one x.two | 9 => .pow x.one x.two | 10 => .bxor x.one x.two | _ => .bits x.one) := by
    intro x; cases x <;> rfl
  rw [mk a, mk b, h0, h1, h2, h3]
theorem IE.leafs (y : IE) : (y.tag = 0 → y = .c y.kst) ∧ (y.tag = 1 → y = .v y.kst.toNat) ∧ (2 ≤ y.tag → y.kst = 0) ∧ (y.tag = 11 → y.two = y.one) := by
  cases y <;> (refine ⟨fun h => ?_, fun h => ?_, fun h => ?_, fun h => ?_⟩ <;> first | rfl | (cases h; done) | (cases h with | step h => cases h; done))
theorem leaf_at {n : Nat} {k : Int} {y : IE} (h : leaf n k y = true) : y.tag = n ∧ k = y.kst := by
  have key : ∀ {t : Nat} {j : Int}, andB (Nat.beq t n) (beqZ k j) = true → t = n ∧ k = j := fun h => ⟨Nat.eq_of_beq_eq_true (andB_at h).1, by have := (andB_at h).2; rw [beqZ_eq] at this; exact eq_of_beq this⟩
  cases y <;> first | exact key h | cases h
theorem fork_at {n : Nat} {p q : IE → Bool} {y : IE} (h : fork n p q y = true) : y.tag = n ∧ p y.one = true ∧ q y.two = true := by
  have key : ∀ {t : Nat} {c d : IE}, andB (Nat.beq t n) (andB (p c) (q d)) = true → t = n ∧ p c = true ∧ q d = true := fun h => ⟨Nat.eq_of_beq_eq_true (andB_at h).1, andB_at (andB_at h).2⟩
  cases y <;> first | exact key h | cases h
theorem IE.beq_sound {a : IE} : ∀ {b : IE}, IE.beq a b = true → a = b := by
  have two : ∀ {x : IE} {n : Nat} {a b y : IE}, x.tag = n → x.one = a → x.two = b → x.kst = 0 → 2 ≤ n → (∀ {z : IE}, IE.beq a z = true → a = z) → (∀ {z : IE}, IE.beq b z = true → b = z) →
      fork n (IE.beq a) (IE.beq b) y = true → x = y := by
    intro x n a b y h1 h2 h3 h4 hn iha ihb h
    obtain ⟨q, ha, hb⟩ := fork_at h
    exact IE.told (h1.trans q.symm) (h2.trans (iha ha)) (h3.trans (ihb hb)) (h4.trans ((IE.leafs y).2.2.1 (q ▸ hn)).symm)
  induction a with
  | c k => intro b h; obtain ⟨h1, h2⟩ := leaf_at h; rw [(IE.leafs b).1 h1, h2]
  | v i => intro b h; obtain ⟨h1, h2⟩ := leaf_at h; rw [(IE.leafs b).2.1 h1, ← h2]; rfl
  | bits a ih =>
    intro b h
    obtain ⟨h1, h2, _⟩ := fork_at h
    have h3 := ih h2
    exact IE.told (a := .bits a) h1.symm h3 (h3.trans ((IE.leafs b).2.2.2 h1).symm) ((IE.leafs b).2.2.1 (h1 ▸ by decide)).symm
  | add a b iha ihb => intro y h; exact two (x := .add a b) rfl rfl rfl rfl (Nat.le_of_ble_eq_true rfl) iha ihb h
  | sub a b iha ihb => intro y h; exact two (x := .sub a b) rfl rfl rfl rfl (Nat.le_of_ble_eq_true rfl) iha ihb h
  | mul a b iha ihb => intro y h; exact two (x := .mul a b) rfl rfl rfl rfl (Nat.le_of_ble_eq_true rfl) iha ihb h
  | div a b iha ihb => intro y h; exact two (x := .div a b) rfl rfl rfl rfl (Nat.le_of_ble_eq_true rfl) iha ihb h
  | mod a b iha ihb => intro y h; exact two (x := .mod a b) rfl rfl rfl rfl (Nat.le_of_ble_eq_true rfl) iha ihb h
  | shl a b iha ihb => intro y h; exact two (x := .shl a b) rfl rfl rfl rfl (Nat.le_of_ble_eq_true rfl) iha ihb h
  | shr a b iha ihb => intro y h; exact two (x := .shr a b) rfl rfl rfl rfl (Nat.le_of_ble_eq_true rfl) iha ihb h
  | pow a b iha ihb => intro y h; exact two (x := .pow a b) rfl rfl rfl rfl (Nat.le_of_ble_eq_true rfl) iha ihb h
  | bxor a b iha ihb => intro y h; exact two (x := .bxor a b) rfl rfl rfl rfl (Nat.le_of_ble_eq_true rfl) iha ihb h
noncomputable def cmpZ : CmpOp → Int → Int → Option Bool
  | .Eq, a, b => some (a == b)
  | .NotEq, a, b => some (a != b)
  | .Lt, a, b => some (decide (a < b))
  | .LtE, a, b => some (decide (a ≤ b))
  | .Gt, a, b => some (decide (b < a))
  | .GtE, a, b => some (decide (b ≤ a))
  | _, _, _ => none
structure Facts.Ok (K : Facts) (ι : Nat → Int) : Prop where
  fi : ∀ p ∈ K.fi, p.1.val ι = p.2
  fb : ∀ q ∈ K.fb, cmpZ q.1 (q.2.1.val ι) (q.2.2.1.val ι) = some q.2.2.2
  lb : ∀ i b, K.lb[i]? = some (some b) → (ι i).natAbs ≤ b
  nn : ∀ i, K.nn[i]? = some true → 0 ≤ ι i

noncomputable def lookI : List (IE × Int) → IE → Option Int
  | [], _ => none
  | p :: r, e => match IE.beq p.1 e with
    | true => some p.2
    | false => lookI r e
theorem lookI_sound {ι : Nat → Int} : ∀ {l : List (IE × Int)} {e : IE} {k : Int}, (∀ p ∈ l, p.1.val ι = p.2) → lookI l e = some k → e.val ι = k
  | p :: r, e, k, H, h => by
    unfold lookI at h
    split at h
    · rename_i q
      cases h
      rw [← IE.beq_sound q]
      exact H p (.head _)
    · exact lookI_sound (fun q hq => H q (.tail _ hq)) h
  | [], _, _, _, h => by cases h
noncomputable def opEq (a b : CmpOp) : Bool := decide (a = b)
noncomputable def lookB : List (CmpOp × IE × IE × Bool) → CmpOp → IE → IE → Option Bool
  | [], _, _, _ => none
  | p :: r, o, a, b => match opEq p.1 o && IE.beq p.2.1 a && IE.beq p.2.2.1 b with
    | true => some p.2.2.2
    | false => lookB r o a b
theorem lookB_sound {ι : Nat → Int} {o : CmpOp} {a b : IE} {k : Bool} : ∀ {l : List (CmpOp × IE × IE × Bool)}, (∀ q ∈ l, cmpZ q.1 (q.2.1.val ι) (q.2.2.1.val ι) = some q.2.2.2) → lookB l o a b = some k → cmpZ o (a.val ι) (b.val ι) = some k := by
  intro l
  induction l with
  | nil => intro _ h; cases h
  | cons p r ih =>
    intro H h
    unfold lookB at h
    cases q : opEq p.1 o && IE.beq p.2.1 a && IE.beq p.2.2.1 b with
    | false => rw [q] at h; exact ih (fun q hq => H q (.tail _ hq)) h
    | true =>
      rw [q] at h
      cases h
      obtain ⟨q1, q2⟩ := Bool.and_eq_true_iff.mp q
      obtain ⟨q0, q1⟩ := Bool.and_eq_true_iff.mp q1
      have := H p (.head _)
      rwa [IE.beq_sound q1, IE.beq_sound q2, of_decide_eq_true q0] at this
section
variable (K : Facts)
noncomputable def ob2 (f : Nat → Nat → Nat) (a b : Option Nat) : Option Nat := a.bind fun x => b.map (f x)
theorem ob2_at {f : Nat → Nat → Nat} {a b : Option Nat} {n : Nat} (h : ob2 f a b = some n) : ∃ x y, a = some x ∧ b = some y ∧ n = f x y := by
  cases a with
  | none => cases h
  | some x => cases b with
    | none => cases h
    | some y => cases h; exact ⟨x, y, rfl, rfl, rfl⟩
/-- a known number above nought -/
noncomputable def modC (e : IE) : Option Nat := bif Nat.beq e.tag 0 then (match e.kst with | .ofNat (k + 1) => some (k + 1) | _ => none) else none
noncomputable def natC (e : IE) : Option Nat := bif Nat.beq e.tag 0 then (match e.kst with | .ofNat k => some k | _ => none) else none
theorem modC_at {e : IE} {n : Nat} (h : modC e = some n) : e = .c n ∧ n ≠ 0 := by
  cases e with
  | c k => match k, h with
    | .ofNat (k + 1), h => cases h; exact ⟨rfl, by omega⟩
    | .ofNat 0, h => cases h
    | .negSucc _, h => cases h
  | _ => cases h
theorem natC_at {e : IE} {n : Nat} (h : natC e = some n) : e = .c n := by
  cases e with
  | c k => match k, h with
    | .ofNat k, h => cases h; rfl
    | .negSucc _, h => cases h
  | _ => cases h
/-- a bound of the size -/
noncomputable def ub : IE → Option Nat
  | .c k => some k.natAbs
  | .v i => (K.lb[i]?).bind id
  | .add a b => ob2 (fun x y => x + y) (ub a) (ub b)
  | .sub a b => ob2 (fun x y => x + y) (ub a) (ub b)
  | .mul a b => ob2 (fun x y => x * y) (ub a) (ub b)
  | .div a _ => (ub a).map (fun x => x + 1)
  | .mod a b => (modC b).or (ob2 (fun x y => x + y) (ub a) (ub b))
  | .shl a b => ob2 (fun x y => x * 2 ^ y) (ub a) (ub b)
  | .shr a _ => (ub a).map (fun x => x + 1)
  | .pow a b => ob2 (fun x y => x ^ y) (ub a) (natC b)
  | .bxor a b => ob2 (fun x y => 5 * (x + y) + 5) (ub a) (ub b)
  | .bits a => (ub a).map (fun x => Nat.log2 x + 1)
noncomputable def nnI : IE → Bool
  | .c k => decide (0 ≤ k)
  | .v i => (match K.nn[i]? with | some b => b | none => false)
  | .add a b => nnI a && nnI b
  | .mul a b => nnI a && nnI b
  | .bits _ => true
  | .sub _ _ => false | .div _ _ => false | .mod _ _ => false | .shl _ _ => false | .shr _ _ => false | .pow _ _ => false | .bxor _ _ => false
end
theorem natAbs_fdiv_le (a b : Int) : (a.fdiv b).natAbs ≤ a.natAbs + 1 := by
  rcases Int.lt_trichotomy b 0 with h | h | h
  · have e : a.fdiv b = (-a).fdiv (-b) := by rw [Int.neg_fdiv_neg]
    rw [e]
    have hb : 0 ≤ -b := by omega
    rw [Int.fdiv_eq_ediv_of_nonneg _ hb]
    have h1 := Int.natAbs_ediv_le_natAbs (-a) (-b)
    omega
  · subst h; simp
  · rw [Int.fdiv_eq_ediv_of_nonneg _ (Int.le_of_lt h)]
    have h1 := Int.natAbs_ediv_le_natAbs a b
    omega
theorem natAbs_fmod_le (a : Int) (k : Nat) : k ≠ 0 → (a.fmod (k : Int)).natAbs ≤ k := by
  intro h
  rw [Int.fmod_eq_emod_of_nonneg _ (by omega)]
  have h1 := Int.emod_nonneg a (b := (k : Int)) (by omega)
  have h2 := Int.emod_lt_of_pos a (b := (k : Int)) (by omega)
  omega
theorem natAbs_fmod_add (a b : Int) : (a.fmod b).natAbs ≤ a.natAbs + b.natAbs := by
  have pos : ∀ (a b : Int), 0 < b → (a.fmod b).natAbs ≤ b.natAbs := by
    intro a b h
    rw [Int.fmod_eq_emod_of_nonneg _ (Int.le_of_lt h)]
    have h1 := Int.emod_nonneg a (b := b) (by omega)
    have h2 := Int.emod_lt_of_pos a h
    omega
  rcases Int.lt_trichotomy b 0 with h | h | h
  · have e : a.fmod b = -((-a).fmod (-b)) := by rw [Int.neg_fmod_neg]; omega
    have := pos (-a) (-b) (by omega)
    rw [e]; omega
  · subst h; simp
  · have := pos a b h
    omega
theorem or_le2 (a b : Nat) : a ||| b ≤ 2 * (a + b) := by
  by_cases h : a + b = 0
  · have h1 : a = 0 := by omega
    have h2 : b = 0 := by omega
    subst h1 h2; simp
  · have l := Nat.lt_log2_self (n := a + b)
    have g := Nat.log2_self_le h
    have := Nat.or_lt_two_pow (x := a) (y := b) (n := (a + b).log2 + 1) (by omega) (by omega)
    rw [Nat.pow_succ] at this
    omega
theorem natAbs_bitAnd (x y : Int) : (Builtin.bitAnd x y).natAbs ≤ 2 * (x.natAbs + y.natAbs) + 1 := by
  by_cases hx : 0 ≤ x <;> by_cases hy : 0 ≤ y
  · rw [bitAnd_pp hx hy]
    have := Nat.and_le_left (n := x.toNat) (m := y.toNat)
    omega
  · rw [bitAnd_pn hx hy]
    have := Nat.and_le_left (n := x.toNat) (m := (Builtin.bitNot y).toNat)
    omega
  · rw [bitAnd_np hx hy]
    have := Nat.and_le_left (n := y.toNat) (m := (Builtin.bitNot x).toNat)
    omega
  · rw [bitAnd_nn hx hy]
    have := or_le2 (Builtin.bitNot x).toNat (Builtin.bitNot y).toNat
    simp only [Builtin.bitNot] at this ⊢
    omega
theorem natAbs_bitXor (x y : Int) : (Builtin.bitXor x y).natAbs ≤ 5 * (x.natAbs + y.natAbs) + 5 := by
  have := natAbs_bitAnd x y
  have e : Builtin.bitXor x y = x + y - 2 * Builtin.bitAnd x y := by
    show Builtin.bitOr x y - Builtin.bitAnd x y = _
    rw [bitOr_and]; omega
  rw [e]
  omega
theorem map_at {f : Nat → Nat} {a : Option Nat} {n : Nat} (h : a.map f = some n) : ∃ x, a = some x ∧ n = f x := by
  cases a with
  | none => cases h
  | some x => cases h; exact ⟨x, rfl, rfl⟩
theorem ub_sound {K : Facts} {ι : Nat → Int} (H : K.Ok ι) {e : IE} : ∀ {b : Nat}, ub K e = some b → (e.val ι).natAbs ≤ b := by
  induction e with
  | c k => intro b h; cases h; exact Nat.le_refl _
  | v i =>
    intro b h
    have h : (K.lb[i]?).bind id = some b := h
    cases q : K.lb[i]? with
    | none => rw [q] at h; cases h
    | some x => rw [q] at h; exact H.lb i _ (q.trans (congrArg some h))
  | add a b iha ihb =>
    intro n h
    obtain ⟨x, y, hx, hy, rfl⟩ := ob2_at h
    exact Nat.le_trans (Int.natAbs_add_le _ _) (Nat.add_le_add (iha hx) (ihb hy))
  | sub a b iha ihb =>
    intro n h
    obtain ⟨x, y, hx, hy, rfl⟩ := ob2_at h
    exact Nat.le_trans (Int.natAbs_sub_le _ _) (Nat.add_le_add (iha hx) (ihb hy))
  | mul a b iha ihb =>
    intro n h
    obtain ⟨x, y, hx, hy, rfl⟩ := ob2_at h
    exact Nat.le_trans (Nat.le_of_eq (Int.natAbs_mul _ _)) (Nat.mul_le_mul (iha hx) (ihb hy))
  | div a b iha _ =>
    intro n h
    obtain ⟨x, hx, rfl⟩ := map_at h
    exact Nat.le_trans (natAbs_fdiv_le _ _) (Nat.add_le_add_right (iha hx) 1)
  | mod a b iha ihb =>
    intro n h
    have h : (modC b).or (ob2 (fun x y => x + y) (ub K a) (ub K b)) = some n := h
    cases q : modC b with
    | some k =>
      rw [q] at h
      cases h
      obtain ⟨rfl, hk⟩ := modC_at q
      exact natAbs_fmod_le _ _ hk
    | none =>
      rw [q] at h
      obtain ⟨x, y, hx, hy, rfl⟩ := ob2_at h
      exact Nat.le_trans (natAbs_fmod_add _ _) (Nat.add_le_add (iha hx) (ihb hy))
  | shl a b iha ihb =>
    intro n h
    obtain ⟨x, y, hx, hy, rfl⟩ := ob2_at h
    have h2 := ihb hy
    refine Nat.le_trans (Nat.le_of_eq (Int.natAbs_mul _ _)) (Nat.mul_le_mul (iha hx) ?_)
    rw [Int.natAbs_pow]
    exact Nat.pow_le_pow_right (by decide) (by clear hx hy iha ihb h H; omega)
  | shr a b iha _ =>
    intro n h
    obtain ⟨x, hx, rfl⟩ := map_at h
    exact Nat.le_trans (natAbs_fdiv_le _ _) (Nat.add_le_add_right (iha hx) 1)
  | pow a b iha _ =>
    intro n h
    obtain ⟨x, y, hx, hy, rfl⟩ := ob2_at h
    have := natC_at hy
    subst this
    exact Nat.le_trans (Nat.le_of_eq (Int.natAbs_pow _ _)) (Nat.pow_le_pow_left (iha hx) _)
  | bits a iha =>
    intro n h
    obtain ⟨x, hx, rfl⟩ := map_at h
    exact intBits_le (Nat.lt_of_le_of_lt (iha hx) Nat.lt_log2_self)
  | bxor a b iha ihb =>
    intro n h
    obtain ⟨x, y, hx, hy, rfl⟩ := ob2_at h
    exact Nat.le_trans (natAbs_bitXor _ _) (Nat.add_le_add_right (Nat.mul_le_mul_left 5 (Nat.add_le_add (iha hx) (ihb hy))) 5)
theorem nnI_sound {K : Facts} {ι : Nat → Int} (H : K.Ok ι) {e : IE} : nnI K e = true → 0 ≤ e.val ι := by
  induction e with
  | c k => intro h; exact of_decide_eq_true h
  | v i =>
    intro h
    have h : (match K.nn[i]? with | some b => b | none => false) = true := h
    cases q : K.nn[i]? with
    | none => rw [q] at h; cases h
    | some b => rw [q] at h; exact H.nn i (q.trans (congrArg some h))
  | add a b iha ihb =>
    intro h
    obtain ⟨h1, h2⟩ := Bool.and_eq_true_iff.mp h
    exact Int.add_nonneg (iha h1) (ihb h2)
  | mul a b iha ihb =>
    intro h
    obtain ⟨h1, h2⟩ := Bool.and_eq_true_iff.mp h
    exact Int.mul_nonneg (iha h1) (ihb h2)
  | bits a _ => intro _; exact Int.natCast_nonneg _
  | _ => intro h; cases h

/-- the size in bits -/
noncomputable def bitsUb (K : Facts) (e : IE) : Option Nat := match ub K e with
  | some b => some (Nat.log2 b + 1)
  | none => none
theorem bitsUb_sound {K : Facts} {ι : Nat → Int} (H : K.Ok ι) {e : IE} {n : Nat} (h : bitsUb K e = some n) : Builtin.Int.intBits (e.val ι) ≤ n := by
  unfold bitsUb at h
  split at h
  · rename_i b hb
    cases h
    exact intBits_le (Nat.lt_of_le_of_lt (ub_sound H hb) Nat.lt_log2_self)
  · cases h
theorem bitsUb_log2 {K : Facts} {ι : Nat → Int} (H : K.Ok ι) {e : IE} {n : Nat} (h : bitsUb K e = some n) : (e.val ι).natAbs.log2 ≤ n := by
  unfold bitsUb at h
  split at h
  · rename_i b hb
    cases h
    have h1 := ub_sound H hb
    by_cases h0 : (e.val ι).natAbs = 0
    · rw [h0]; simp
    · have : (e.val ι).natAbs.log2 < b.log2 + 1 := (Nat.log2_lt h0).mpr (Nat.lt_of_le_of_lt h1 Nat.lt_log2_self)
      omega
  · cases h

noncomputable def fold2 (f : Int → Int → Int) (k : IE → IE → IE) (x y : IE) : IE := match x, y with
  | .c a, .c b => .c (f a b)
  | _, _ => k x y
theorem fold2_val {ι : Nat → Int} {f : Int → Int → Int} {k : IE → IE → IE} (h : ∀ x y, (k x y).val ι = f (x.val ι) (y.val ι)) (x y : IE) : (fold2 f k x y).val ι = f (x.val ι) (y.val ι) := by
  unfold fold2
  split
  · rfl
  · exact h x y
noncomputable def nrm (K : Facts) (e : IE) : IE := match lookI K.fi e with
  | some k => .c k
  | none => e
theorem nrm_val {K : Facts} {ι : Nat → Int} (H : K.Ok ι) (e : IE) : (nrm K e).val ι = e.val ι := by
  unfold nrm
  split
  · rename_i k h; exact (lookI_sound H.fi h).symm
  · rfl
/-- is it surely not nought -/
noncomputable def nz (K : Facts) (e : IE) : Bool := match e with
  | .c k => k != 0
  | e => match lookB K.fb .Eq e (.c 0) with
    | some b => !b
    | none => false
theorem nz_sound {K : Facts} {ι : Nat → Int} (H : K.Ok ι) {e : IE} (h : nz K e = true) : e.val ι ≠ 0 := by
  unfold nz at h
  split at h
  · simpa [IE.val] using h
  · split at h
    · rename_i b hb
      have := lookB_sound H.fb hb
      simp only [cmpZ, IE.val, Option.some.injEq] at this
      cases b
      · simpa using this
      · cases h
    · cases h
/-- is it surely not below nought -/
noncomputable def ge0 (K : Facts) (e : IE) : Bool := nnI K e || (match lookB K.fb .GtE e (.c 0) with
    | some b => b
    | none => false)
theorem ge0_sound {K : Facts} {ι : Nat → Int} (H : K.Ok ι) {e : IE} (h : ge0 K e = true) : 0 ≤ e.val ι := by
  unfold ge0 at h
  rcases Bool.or_eq_true_iff.mp h with q | q
  · exact nnI_sound H q
  · split at q
    · rename_i b hb
      have := lookB_sound H.fb hb
      simp only [cmpZ, IE.val, Option.some.injEq] at this
      subst q
      exact of_decide_eq_true this
    · cases q
noncomputable def small2 (K : Facts) (x y : IE) : Bool := match bitsUb K x, bitsUb K y with
  | some a, some b => Nat.ble (a + b) 100000
  | _, _ => false
noncomputable def shlOk (K : Facts) (x y : IE) : Bool := ge0 K y && (match bitsUb K x, ub K y with
  | some a, some b => Nat.ble (a + b) 100000
  | _, _ => false)
noncomputable def powOk (K : Facts) (x y : IE) : Bool := match bitsUb K x, natC y with
  | some a, some k => Nat.ble (a * k) 100000
  | _, _ => false
noncomputable def divOk (K : Facts) (y : IE) : Bool := nz K y && (match bitsUb K y with
  | some b => Nat.ble b 8000
  | none => false)
noncomputable def gd (b : Bool) (e : IE) : Option IE := match b with
  | true => some e
  | false => none
noncomputable def intOp (K : Facts) (o : Operator) (x y : IE) : Option IE := match o with
  | .Add => some (fold2 (· + ·) .add x y)
  | .Sub => some (fold2 (· - ·) .sub x y)
  | .Mult => gd (small2 K x y) (fold2 (· * ·) .mul x y)
  | .FloorDiv => gd (divOk K y) (nrm K (fold2 Int.fdiv .div x y))
  | .Mod => gd (nz K y) (nrm K (fold2 Int.fmod .mod x y))
  | .LShift => gd (shlOk K x y) (fold2 (fun a b => a * 2 ^ b.toNat) .shl x y)
  | .RShift => gd (ge0 K y) (fold2 (fun a b => a.fdiv (2 ^ b.toNat)) .shr x y)
  | .Pow => gd (powOk K x y) (fold2 (fun a b => a ^ b.toNat) .pow x y)
  | .BitAnd => bif Nat.beq x.tag 0 && Nat.beq y.tag 0 then some (.c (Builtin.bitAnd x.kst y.kst)) else none
  | .BitXor => some (fold2 Builtin.bitXor .bxor x y)
  | _ => none
theorem gd_some {b : Bool} {e z : IE} (h : gd b e = some z) : b = true ∧ z = e := by
  cases b
  · cases h
  · cases h; exact ⟨rfl, rfl⟩
section
variable {prog : Program} {w : World} {A : Around} {E : Value → Shared → Prop} {s : Shared} {t u : Tok} {Q : Value → Shared → Prop}
theorem intOp_sound {K : Facts} {ι : Nat → Int} (H : K.Ok ι) {o : Operator} {x y z : IE} (h : intOp K o x y = some z) (hq : Q (.int (z.val ι) s.toks) { s with toks := s.toks + 1 }) :
    wpAny (model prog w) A (binaryOp o (.int (x.val ι) t) (.int (y.val ι) u)) Q E s := by
  cases o with
  | Add => cases h; rw [fold2_val (fun _ _ => rfl)] at hq; exact add_int hq
  | Sub => cases h; rw [fold2_val (fun _ _ => rfl)] at hq; exact sub_int hq
  | Mult =>
    obtain ⟨hb, rfl⟩ := gd_some h
    rw [fold2_val (fun _ _ => rfl)] at hq
    refine PyProof.Rows.mul_int hq ?_
    unfold small2 at hb
    split at hb
    · rename_i a b ha hb'
      have h1 := bitsUb_sound H ha
      have h2 := bitsUb_sound H hb'
      have h3 : a + b ≤ 100000 := Nat.le_of_ble_eq_true hb
      unfold IntMulOk Builtin.Int.intTooBig
      have : ¬ ((Builtin.Int.intBits (x.val ι) : Int) + (Builtin.Int.intBits (y.val ι) : Int) > (bitsLine : Int)) := by
        have e : (bitsLine : Int) = 134217728 := by decide
        omega
      intro q
      simp only [Bool.and_eq_true, decide_eq_true_eq] at q
      exact absurd q.2 this
    · cases hb
  | FloorDiv =>
    obtain ⟨hb, rfl⟩ := gd_some h
    rw [nrm_val H, fold2_val (fun _ _ => rfl)] at hq
    unfold divOk at hb
    obtain ⟨h1, h2⟩ := Bool.and_eq_true_iff.mp hb
    refine floordiv_int (nz_sound H h1) hq (.inl ?_)
    split at h2
    · rename_i b hb'
      have h3 := bitsUb_log2 H hb'
      have h4 : b ≤ 8000 := Nat.le_of_ble_eq_true h2
      exact PyProof.noPylong_of_log2 (by omega)
    · cases h2
  | Mod =>
    obtain ⟨hb, rfl⟩ := gd_some h
    rw [nrm_val H, fold2_val (fun _ _ => rfl)] at hq
    exact mod_int' (nz_sound H hb) hq
  | LShift =>
    obtain ⟨hb, rfl⟩ := gd_some h
    rw [fold2_val (fun _ _ => rfl)] at hq
    unfold shlOk at hb
    obtain ⟨h1, h2⟩ := Bool.and_eq_true_iff.mp hb
    split at h2
    · rename_i a b ha hb'
      have h3 := bitsUb_sound H ha
      have h4 := ub_sound H hb'
      have h5 : a + b ≤ 100000 := Nat.le_of_ble_eq_true h2
      have h6 := ge0_sound H h1
      exact PyProof.Rows.lshift_int h6 (by omega) hq
    · cases h2
  | RShift =>
    obtain ⟨hb, rfl⟩ := gd_some h
    rw [fold2_val (fun _ _ => rfl)] at hq
    exact rshift_int (ge0_sound H hb) hq
  | Pow =>
    obtain ⟨hb, rfl⟩ := gd_some h
    rw [fold2_val (fun _ _ => rfl)] at hq
    unfold powOk at hb
    split at hb
    · rename_i a k ha hk
      have := natC_at hk
      subst this
      have h3 := bitsUb_sound H ha
      have h5 : a * k ≤ 100000 := Nat.le_of_ble_eq_true hb
      refine pow_int (by simp [IE.val]) ?_ hq
      have h6 : (Builtin.Int.intBits (x.val ι)) * k ≤ a * k := Nat.mul_le_mul_right k h3
      have h7 : (Builtin.Int.intBits (x.val ι)) * k ≤ 100000 := Nat.le_trans h6 h5
      show (Builtin.Int.intBits (x.val ι) : Int) * (k : Int) ≤ 2 ^ 27
      have h8 : ((Builtin.Int.intBits (x.val ι) * k : Nat) : Int) ≤ 100000 := Int.ofNat_le.mpr h7
      rw [Int.natCast_mul] at h8
      omega
    · cases hb
  | BitAnd =>
    cases x with
    | c j => cases y with
      | c k => cases h; exact and_int hq
      | _ => cases h
    | _ => cases h
  | BitXor => cases h; rw [fold2_val (fun _ _ => rfl)] at hq; exact xor_int hq
  | _ => cases h
end
end Mine

namespace Mine
noncomputable section
/-! Ways to take a value apart, by recursors: quick in the kernel, and no splitting of a match is asked. -/
variable {α β γ : Type}
noncomputable def bnd (x : Option α) (f : α → Option β) : Option β := Option.rec (motive := fun _ => Option β) none f x
noncomputable def bn2 (x : Option (α × γ)) (f : α → γ → Option β) : Option β := Option.rec (motive := fun _ => Option β) none (fun p => f p.1 p.2) x
noncomputable def oif (b : Bool) (x : Option β) : Option β := Bool.rec (motive := fun _ => Option β) none x b
theorem bnd_at {x : Option α} {f : α → Option β} {r : β} (h : bnd x f = some r) : ∃ a, x = some a ∧ f a = some r := by
  cases x with
  | none => cases h
  | some a => exact ⟨a, rfl, h⟩
theorem bn2_at {x : Option (α × γ)} {f : α → γ → Option β} {r : β} (h : bn2 x f = some r) : ∃ a b, x = some (a, b) ∧ f a b = some r := by
  cases x with
  | none => cases h
  | some p => exact ⟨p.1, p.2, rfl, h⟩
theorem oif_at {b : Bool} {x : Option β} {r : β} (h : oif b x = some r) : b = true ∧ x = some r := by
  cases b
  · cases h
  · exact ⟨rfl, h⟩
theorem oifD_at {p : Prop} [Decidable p] {x : Option β} {r : β} (h : oif (decide p) x = some r) : p ∧ x = some r := (oif_at h).imp of_decide_eq_true id
theorem an2 {a b : Bool} (h : (a && b) = true) : a = true ∧ b = true := Bool.and_eq_true_iff.mp h
theorem an3 {a b c : Bool} (hh : (a && b && c) = true) : (a = true ∧ b = true) ∧ c = true := (an2 hh).imp an2 id
theorem an4 {a b c d : Bool} (hh : (a && b && c && d) = true) : ((a = true ∧ b = true) ∧ c = true) ∧ d = true := (an2 hh).imp an3 id
theorem an5 {a b c d e : Bool} (hh : (a && b && c && d && e) = true) : (((a = true ∧ b = true) ∧ c = true) ∧ d = true) ∧ e = true := (an2 hh).imp an4 id
theorem an6 {a b c d e f : Bool} (hh : (a && b && c && d && e && f) = true) : ((((a = true ∧ b = true) ∧ c = true) ∧ d = true) ∧ e = true) ∧ f = true := (an2 hh).imp an5 id
theorem an7 {a b c d e f g : Bool} (hh : (a && b && c && d && e && f && g) = true) : (((((a = true ∧ b = true) ∧ c = true) ∧ d = true) ∧ e = true) ∧ f = true) ∧ g = true := (an2 hh).imp an6 id
theorem an8 {a b c d e f g h : Bool} (hh : (a && b && c && d && e && f && g && h) = true) : ((((((a = true ∧ b = true) ∧ c = true) ∧ d = true) ∧ e = true) ∧ f = true) ∧ g = true) ∧ h = true := (an2 hh).imp an7 id
theorem an9 {a b c d e f g h i : Bool} (hh : (a && b && c && d && e && f && g && h && i) = true) : (((((((a = true ∧ b = true) ∧ c = true) ∧ d = true) ∧ e = true) ∧ f = true) ∧ g = true) ∧ h = true) ∧ i = true := (an2 hh).imp an8 id
theorem an10 {a b c d e f g h i j : Bool} (hh : (a && b && c && d && e && f && g && h && i && j) = true) : ((((((((a = true ∧ b = true) ∧ c = true) ∧ d = true) ∧ e = true) ∧ f = true) ∧ g = true) ∧ h = true) ∧ i = true) ∧ j = true := (an2 hh).imp an9 id
theorem an11 {a b c d e f g h i j k : Bool} (hh : (a && b && c && d && e && f && g && h && i && j && k) = true) : (((((((((a = true ∧ b = true) ∧ c = true) ∧ d = true) ∧ e = true) ∧ f = true) ∧ g = true) ∧ h = true) ∧ i = true) ∧ j = true) ∧ k = true := (an2 hh).imp an10 id
theorem an12 {a b c d e f g h i j k l : Bool} (hh : (a && b && c && d && e && f && g && h && i && j && k && l) = true) : ((((((((((a = true ∧ b = true) ∧ c = true) ∧ d = true) ∧ e = true) ∧ f = true) ∧ g = true) ∧ h = true) ∧ i = true) ∧ j = true) ∧ k = true) ∧ l = true := (an2 hh).imp an11 id
noncomputable def asInt (z : α) (a : AV) (f : IE → α) : α := AV.rec (motive := fun _ => α) z (fun _ => z) f (fun _ => z) (fun _ => z) (fun _ => z) a
noncomputable def asRef (z : α) (a : AV) (f : Nat → α) : α := AV.rec (motive := fun _ => α) z (fun _ => z) (fun _ => z) (fun _ => z) f (fun _ => z) a
noncomputable def asStr (z : α) (a : AV) (f : Str → α) : α := AV.rec (motive := fun _ => α) z (fun _ => z) (fun _ => z) f (fun _ => z) (fun _ => z) a
noncomputable def asGlo (z : α) (a : AV) (f : Nat → α) : α := AV.rec (motive := fun _ => α) z (fun _ => z) (fun _ => z) (fun _ => z) (fun _ => z) f a
noncomputable def asNon (z : α) (a : AV) (f : α) : α := AV.rec (motive := fun _ => α) f (fun _ => z) (fun _ => z) (fun _ => z) (fun _ => z) (fun _ => z) a
noncomputable def asC (z : α) (e : IE) (f : Int → α) : α := IE.rec (motive := fun _ => α) f (fun _ => z) (fun _ _ _ _ => z) (fun _ _ _ _ => z) (fun _ _ _ _ => z) (fun _ _ _ _ => z) (fun _ _ _ _ => z) (fun _ _ _ _ => z) (fun _ _ _ _ => z) (fun _ _ _ _ => z) (fun _ _ _ _ => z) (fun _ _ => z) e
noncomputable def asN (z : α) (e : Int) (f : Nat → α) : α := Int.rec (motive := fun _ => α) f (fun _ => z) e
noncomputable def asFr (z : α) (o : Option AObj) (f : Nat → List (Option AV) → α) : α :=
  Option.rec (motive := fun _ => α) z (fun o => AObj.rec (motive := fun _ => α) f (fun _ => z) (fun _ => z) (fun _ => z) z (fun _ _ _ => z) (fun _ => z) (fun _ _ _ => z) z o) o
noncomputable def asLst (z : α) (o : Option AObj) (f : List AV → α) : α :=
  Option.rec (motive := fun _ => α) z (fun o => AObj.rec (motive := fun _ => α) (fun _ _ => z) f (fun _ => z) (fun _ => z) z (fun _ _ _ => z) (fun _ => z) (fun _ _ _ => z) z o) o
noncomputable def asSeq (z : α) (o : Option AObj) (f g : List AV → α) : α :=
  Option.rec (motive := fun _ => α) z (fun o => AObj.rec (motive := fun _ => α) (fun _ _ => z) f g (fun _ => z) z (fun _ _ _ => z) (fun _ => z) (fun _ _ _ => z) z o) o
noncomputable def asCel (z : α) (o : Option AObj) (f : Option AV → α) : α :=
  Option.rec (motive := fun _ => α) z (fun o => AObj.rec (motive := fun _ => α) (fun _ _ => z) (fun _ => z) (fun _ => z) f z (fun _ _ _ => z) (fun _ => z) (fun _ _ _ => z) z o) o
/-- the lists of none, one, two, three, four -/
noncomputable def l0 (z : α) (l : List β) (f : α) : α := List.rec (motive := fun _ => α) f (fun _ _ _ => z) l
noncomputable def l1 (z : α) (l : List β) (f : β → α) : α := List.rec (motive := fun _ => α) z (fun x r _ => l0 z r (f x)) l
noncomputable def l2 (z : α) (l : List β) (f : β → β → α) : α := List.rec (motive := fun _ => α) z (fun x r _ => l1 z r (f x)) l
noncomputable def l3 (z : α) (l : List β) (f : β → β → β → α) : α := List.rec (motive := fun _ => α) z (fun x r _ => l2 z r (f x)) l
noncomputable def l4 (z : α) (l : List β) (f : β → β → β → β → α) : α := List.rec (motive := fun _ => α) z (fun x r _ => l3 z r (f x)) l
noncomputable def asTwo (z : α) (o : Option AObj) (f : AV → AV → α) : α :=
  Option.rec (motive := fun _ => α) z (fun o => AObj.rec (motive := fun _ => α) (fun _ _ => z) (fun _ => z) (fun l => l2 z l f) (fun _ => z) z (fun _ _ _ => z) (fun _ => z) (fun _ _ _ => z) z o) o
section
variable {z r : α}
theorem asInt_at (hz : z ≠ r) {a : AV} {f : IE → α} (h : asInt z a f = r) : ∃ e, a = .int e ∧ f e = r := by
  cases a <;> first | exact absurd h hz | exact ⟨_, rfl, h⟩
theorem asRef_at (hz : z ≠ r) {a : AV} {f : Nat → α} (h : asRef z a f = r) : ∃ e, a = .ref e ∧ f e = r := by
  cases a <;> first | exact absurd h hz | exact ⟨_, rfl, h⟩
theorem asStr_at (hz : z ≠ r) {a : AV} {f : Str → α} (h : asStr z a f = r) : ∃ e, a = .str e ∧ f e = r := by
  cases a <;> first | exact absurd h hz | exact ⟨_, rfl, h⟩
theorem asGlo_at (hz : z ≠ r) {a : AV} {f : Nat → α} (h : asGlo z a f = r) : ∃ e, a = .glob e ∧ f e = r := by
  cases a <;> first | exact absurd h hz | exact ⟨_, rfl, h⟩
theorem asNon_at (hz : z ≠ r) {a : AV} {f : α} (h : asNon z a f = r) : a = .none ∧ f = r := by
  cases a <;> first | exact absurd h hz | exact ⟨rfl, h⟩
theorem asC_at (hz : z ≠ r) {a : IE} {f : Int → α} (h : asC z a f = r) : ∃ e, a = .c e ∧ f e = r := by
  cases a <;> first | exact absurd h hz | exact ⟨_, rfl, h⟩
theorem asN_at (hz : z ≠ r) {a : Int} {f : Nat → α} (h : asN z a f = r) : ∃ e, a = .ofNat e ∧ f e = r := by
  cases a <;> first | exact absurd h hz | exact ⟨_, rfl, h⟩
theorem asFr_at (hz : z ≠ r) {o : Option AObj} {f : Nat → List (Option AV) → α} (h : asFr z o f = r) : ∃ k ls, o = some (.frame k ls) ∧ f k ls = r := by
  cases o with
  | none => exact absurd h hz
  | some o => cases o <;> first | exact absurd h hz | exact ⟨_, _, rfl, h⟩
theorem asLst_at (hz : z ≠ r) {o : Option AObj} {f : List AV → α} (h : asLst z o f = r) : ∃ ls, o = some (.list ls) ∧ f ls = r := by
  cases o with
  | none => exact absurd h hz
  | some o => cases o <;> first | exact absurd h hz | exact ⟨_, rfl, h⟩
theorem asSeq_at (hz : z ≠ r) {o : Option AObj} {f g : List AV → α} (h : asSeq z o f g = r) : ∃ ls, (o = some (.list ls) ∧ f ls = r) ∨ (o = some (.tup ls) ∧ g ls = r) := by
  cases o with
  | none => exact absurd h hz
  | some o => cases o <;> first | exact absurd h hz | exact ⟨_, .inl ⟨rfl, h⟩⟩ | exact ⟨_, .inr ⟨rfl, h⟩⟩
theorem asCel_at (hz : z ≠ r) {o : Option AObj} {f : Option AV → α} (h : asCel z o f = r) : ∃ v, o = some (.cell v) ∧ f v = r := by
  cases o with
  | none => exact absurd h hz
  | some o => cases o <;> first | exact absurd h hz | exact ⟨_, rfl, h⟩
theorem l0_at (hz : z ≠ r) {l : List β} {f : α} (h : l0 z l f = r) : l = [] ∧ f = r := by
  cases l with
  | nil => exact ⟨rfl, h⟩
  | cons x t => exact absurd h hz
theorem l1_at (hz : z ≠ r) {l : List β} {f : β → α} (h : l1 z l f = r) : ∃ x, l = [x] ∧ f x = r := by
  cases l with
  | nil => exact absurd h hz
  | cons x t => obtain ⟨rfl, h⟩ := l0_at hz h; exact ⟨x, rfl, h⟩
theorem l2_at (hz : z ≠ r) {l : List β} {f : β → β → α} (h : l2 z l f = r) : ∃ x y, l = [x, y] ∧ f x y = r := by
  cases l with
  | nil => exact absurd h hz
  | cons x t => obtain ⟨y, rfl, h⟩ := l1_at hz h; exact ⟨x, y, rfl, h⟩
theorem l3_at (hz : z ≠ r) {l : List β} {f : β → β → β → α} (h : l3 z l f = r) : ∃ x y u, l = [x, y, u] ∧ f x y u = r := by
  cases l with
  | nil => exact absurd h hz
  | cons x t => obtain ⟨y, u, rfl, h⟩ := l2_at hz h; exact ⟨x, y, u, rfl, h⟩
theorem l4_at (hz : z ≠ r) {l : List β} {f : β → β → β → β → α} (h : l4 z l f = r) : ∃ x y u v, l = [x, y, u, v] ∧ f x y u v = r := by
  cases l with
  | nil => exact absurd h hz
  | cons x t => obtain ⟨y, u, v, rfl, h⟩ := l3_at hz h; exact ⟨x, y, u, v, rfl, h⟩
theorem asTwo_at (hz : z ≠ r) {o : Option AObj} {f : AV → AV → α} (h : asTwo z o f = r) : ∃ a b, o = some (.tup [a, b]) ∧ f a b = r := by
  cases o with
  | none => exact absurd h hz
  | some o => cases o <;> first | exact absurd h hz | (obtain ⟨a, b, rfl, h⟩ := l2_at hz h; exact ⟨a, b, rfl, h⟩)
end
theorem ns {r : β} : (none : Option β) ≠ some r := nofun
/-- a known number; one from nought on -/
noncomputable def asZ (z : α) (a : AV) (f : Int → α) : α := asInt z a fun e => asC z e f
noncomputable def asK (z : α) (a : AV) (f : Nat → α) : α := asInt z a fun e => asC z e fun k => asN z k f
theorem asZ_at {z r : α} (hz : z ≠ r) {a : AV} {f : Int → α} (h : asZ z a f = r) : ∃ k, a = .int (.c k) ∧ f k = r := by
  obtain ⟨e, rfl, h⟩ := asInt_at hz h
  obtain ⟨k, rfl, h⟩ := asC_at hz h
  exact ⟨k, rfl, h⟩
theorem asK_at {z r : α} (hz : z ≠ r) {a : AV} {f : Nat → α} (h : asK z a f = r) : ∃ n : Nat, a = .int (.c (.ofNat n)) ∧ f n = r := by
  obtain ⟨e, rfl, h⟩ := asInt_at hz h
  obtain ⟨k, rfl, h⟩ := asC_at hz h
  obtain ⟨n, rfl, h⟩ := asN_at hz h
  exact ⟨n, rfl, h⟩
end
end Mine

namespace Mine

inductive Bif where
  | len | sum | sorted | max | divmod | hex
inductive Mth where
  | append | reverse | bitlen | split | join | index | dget
noncomputable def Bif.nm : Bif → Str
  | .len => "len" | .sum => "sum" | .sorted => "sorted" | .max => "max" | .divmod => "divmod" | .hex => "hex"
noncomputable def Mth.nm : Mth → Str
  | .append => "append" | .reverse => "reverse" | .bitlen => "bit_length" | .split => "split" | .join => "join" | .index => "index" | .dget => "get"
/-- our own trees of expressions -/
inductive X where
  | var (i : Nat) (p : Pos)
  | cvar (i : Nat) (p : Pos)
  | gint (i : Nat) (p : Pos)
  | num (k : Int) (p : Pos)
  | neg (k : Int) (q p : Pos)
  | nun (p : Pos)
  | str (x : Str) (p : Pos)
  | bin (o : Operator) (a b : X) (p : Pos)
  | cmp (o : CmpOp) (a b : X) (p : Pos)
  | ifx (t a b : X) (p : Pos)
  | or (xs : X) (p : Pos)
  | not (a : X) (p : Pos)
  | lst (xs : X) (p : Pos)
  | tup (xs : X) (p : Pos)
  | sub (a i : X) (p : Pos)
  | call (k : Nat) (xs : X) (q p : Pos)
  | bfn (b : Bif) (xs : X) (q p : Pos)
  | meth (m : Mth) (o xs : X) (q p : Pos)
  | listOf (x : X) (q p : Pos)
  | listRev (x : X) (q' p' q p : Pos)
  | rng (xs : X) (q p : Pos)
  | rev (x : X) (q p : Pos)
  | gdict (i : Nat) (p : Pos)
  | ccall (i : Nat) (xs : X) (q p : Pos)
  | comp (fc : Nat) (fm : List (Nat × Nat)) (elt : X) (ti : Nat) (tp : Pos) (it cond : X) (p : Pos)
  | nil
  | cons (x xs : X)
inductive Y where
  | asn (i : Nat) (q : Pos) (e : X) (p : Pos)
  | asnc (i : Nat) (q : Pos) (e : X) (p : Pos)
  | asnt (i : Nat) (qi : Pos) (j : Nat) (qj : Pos) (q : Pos) (e : X) (p : Pos)
  | asns (o i : X) (q : Pos) (e : X) (p : Pos)
  | aug (o : Operator) (i : Nat) (q : Pos) (e : X) (p : Pos)
  | ex (e : X) (p : Pos)
  | ret (e : X) (p : Pos)
  | ret0 (p : Pos)
  | ife (t : X) (b o : Y) (p : Pos)
  | for_ (c : Bool) (i : Nat) (q : Pos) (it : X) (b o : Y) (p : Pos)
  | brk (p : Pos)
  | defn (k i : Nat) (p : Pos)
  | tryg (k i : Nat) (rx : X) (er ho : Nat) (b : Y) (ps : List Pos)
  | raw (s : Stmt)
  | nil
  | cons (y ys : Y)

/-- a def of the module -/
inductive Fn where
  | prog (np nl : Nat) (cells : List Nat) (body : Y)
  | prim (n : Nat)
/-- an inner def: its table's place among ours, where it stands, its free names and the maker's, its code's name -/
structure Inn where
  np : Nat
  nl : Nat
  body : Y
  ti : Nat
  l : Nat
  c : Nat
  fm : List (Nat × Nat)
  q : Str
  mkr : Nat
structure Mod where
  sc : Nat → Scope
  gi : Nat → Option (Str × Int)
  gd : Nat → Option (Str × List (Int × Str))
  fn : Nat → Option Fn
  fnm : Nat → Str
  par : Nat → Arguments
  body : Nat → List Stmt
  inn : Nat → Option Inn := fun _ => none
  /-- the generator def -/
  gn : Nat → Bool := fun _ => false

noncomputable def Mod.nm (M : Mod) (f i : Nat) : Str := ((M.sc f).names[i]?.map (·.1)).getD Str.empty
noncomputable def pa (ps : List Pos) (i : Nat) : Pos := ps.getD i ⟨0, 0, 0, 0⟩
section
variable (M : Mod)
noncomputable def Mod.giNm (i : Nat) : Str := ((M.gi i).map (·.1)).getD Str.empty
noncomputable def Mod.gdNm (i : Nat) : Str := ((M.gd i).map (·.1)).getD Str.empty
mutual
noncomputable def toE (f : Nat) : X → Expr
  | .var i p => .Name (M.nm f i) p
  | .cvar i p => .Name (M.nm f i) p
  | .gint i p => .Name (M.giNm i) p
  | .num k p => .Constant (.int k) 0 p
  | .neg k q p => .UnaryOp .USub (.Constant (.int k) 0 q) p
  | .nun p => .Constant .none 0 p
  | .str x p => .Constant (.str x) 0 p
  | .bin o a b p => .BinOp (toE f a) o (toE f b) p
  | .cmp o a b p => .Compare (toE f a) [o] [toE f b] p
  | .ifx t a b p => .IfExp (toE f t) (toE f a) (toE f b) p
  | .or xs p => .BoolOp .Or (toEs f xs) p
  | .not a p => .UnaryOp .Not (toE f a) p
  | .lst xs p => .List (toEs f xs) p
  | .tup xs p => .Tuple (toEs f xs) 0 p
  | .sub a i p => .Subscript (toE f a) (toE f i) p
  | .call k xs q p => .Call (.Name (M.fnm k) q) (toEs f xs) [] p
  | .bfn b xs q p => .Call (.Name b.nm q) (toEs f xs) [] p
  | .meth m o xs q p => .Call (.Attribute (toE f o) m.nm q) (toEs f xs) [] p
  | .listOf x q p => .Call (.Name "list" q) [toE f x] [] p
  | .listRev x q' p' q p => .Call (.Name "list" q) [.Call (.Name "reversed" q') [toE f x] [] p'] [] p
  | .rng xs q p => .Call (.Name "range" q) (toEs f xs) [] p
  | .rev x q p => .Call (.Name "reversed" q) [toE f x] [] p
  | .gdict i p => .Name (M.gdNm i) p
  | .ccall i xs q p => .Call (.Name (M.nm f i) q) (toEs f xs) [] p
  | .comp fc _ elt ti tp it cond p => .ListComp (toE fc elt) [⟨.Name (M.nm fc ti) tp, toE f it, toEs fc cond, 0⟩] (M.sc fc) p
  | .nil => .Constant .none 0 ⟨0, 0, 0, 0⟩
  | .cons _ _ => .Constant .none 0 ⟨0, 0, 0, 0⟩
noncomputable def toEs (f : Nat) : X → List Expr
  | .cons x xs => toE f x :: toEs f xs
  | _ => []
end
mutual
noncomputable def toS (f : Nat) : Y → Stmt
  | .asn i q e p => .Assign [.Name (M.nm f i) q] (toE M f e) p
  | .asnc i q e p => .Assign [.Name (M.nm f i) q] (toE M f e) p
  | .asnt i qi j qj q e p => .Assign [.Tuple [.Name (M.nm f i) qi, .Name (M.nm f j) qj] 0 q] (toE M f e) p
  | .asns o i q e p => .Assign [.Subscript (toE M f o) (toE M f i) q] (toE M f e) p
  | .aug o i q e p => .AugAssign (.Name (M.nm f i) q) o (toE M f e) p
  | .ex e p => .Expr (toE M f e) p
  | .ret e p => .Return (some (toE M f e)) p
  | .ret0 p => .Return none p
  | .ife t b o p => .If (toE M f t) (toSs f b) (toSs f o) p
  | .for_ _ i q it b o p => .For (.Name (M.nm f i) q) (toE M f it) (toSs f b) (toSs f o) p
  | .brk p => .Break p
  | .defn k i p => .FunctionDef (M.nm f i) (M.par k) (M.body k) [] none [] (M.sc k) none (M.nm f i) p
  | .tryg k i rx er ho b ps => .Try [.For (.Name (M.nm f i) (pa ps 0)) (.Call (.Name (M.fnm k) (pa ps 1)) [toE M f rx] [] (pa ps 2)) (toSs f b) [] (pa ps 3)]
      [.ExceptHandler (some (.Name "ValueError" (pa ps 4))) (some (M.nm f er)) [.Assign [.Name (M.nm f ho) (pa ps 5)] (.Call (.Name "str" (pa ps 6)) [.Name (M.nm f er) (pa ps 7)] [] (pa ps 8)) (pa ps 9)] (pa ps 10)] [] [] (pa ps 11)
  | .raw s => s
  | .nil => .Pass ⟨0, 0, 0, 0⟩
  | .cons _ _ => .Pass ⟨0, 0, 0, 0⟩
noncomputable def toSs (f : Nat) : Y → List Stmt
  | .cons y ys => toS f y :: toSs f ys
  | _ => []
end
end

noncomputable def nth {α : Type} (ls : List α) : Nat → Option α :=
  List.rec (motive := fun _ => Nat → Option α) (fun _ => none) (fun x _ ih i => Nat.rec (motive := fun _ => Option α) (some x) (fun j _ => ih j) i) ls
theorem nth_eq {α : Type} (l : List α) : ∀ n : Nat, nth l n = l[n]? := by
  induction l with
  | nil => intro n; rfl
  | cons x r ih => intro n; cases n with
    | zero => rfl
    | succ n => exact ih n
/-- is there an n-th -/
noncomputable def hasN {α : Type} (ls : List α) : Nat → Bool :=
  List.rec (motive := fun _ => Nat → Bool) (fun _ => false) (fun _ _ ih i => Nat.rec (motive := fun _ => Bool) true (fun j _ => ih j) i) ls
theorem hasN_lt {α : Type} (l : List α) : ∀ {n : Nat}, hasN l n = true → n < l.length := by
  induction l with
  | nil => intro n h; cases h
  | cons x r ih => intro n h; cases n with
    | zero => exact Nat.succ_pos _
    | succ n => exact Nat.succ_lt_succ (ih h)
noncomputable def setN {α : Type} (ls : List α) (v : α) : Nat → List α :=
  List.rec (motive := fun _ => Nat → List α) (fun _ => []) (fun x r ih i => Nat.rec (motive := fun _ => List α) (v :: r) (fun j _ => x :: ih j) i) ls
theorem setN_eq {α : Type} (v : α) (l : List α) : ∀ n : Nat, setN l v n = l.set n v := by
  induction l with
  | nil => intro n; rfl
  | cons x r ih => intro n; cases n with
    | zero => rfl
    | succ n => exact congrArg (x :: ·) (ih n)
noncomputable def addN {α : Type} (l m : List α) : List α := List.rec (motive := fun _ => List α) m (fun x _ r => x :: r) l
theorem addN_eq {α : Type} (l m : List α) : addN l m = l ++ m := by
  induction l with
  | nil => rfl
  | cons x r ih => exact congrArg (x :: ·) ih
noncomputable def lenN {α : Type} (l : List α) : Nat := List.rec (motive := fun _ => Nat) (nat_lit 0) (fun _ _ n => Nat.succ n) l
theorem lenN_eq {α : Type} (l : List α) : lenN l = l.length := by
  induction l with
  | nil => rfl
  | cons _ r ih => exact congrArg Nat.succ ih
structure AEnv where
  f : Nat
  fr : Nat
  cells : List (Nat × Nat)
  d : Nat
inductive Itr where
  | rng (x : Int) (left : Nat) (step : Int)
  | lst (l i : Nat)
  | rev (l i : Nat)
inductive Out where
  | next | brk | ret (v : AV)
structure Ev where
  e : AEnv → X → St → Option (AV × St)
  es : AEnv → X → St → Option (List AV × St)
  t : AEnv → X → St → Option (Bool × St)
  s : AEnv → Y → St → Option (Out × St)
  ss : AEnv → Y → St → Option (Out × St)
  lp : AEnv → Bool → Nat → Itr → Y → Y → St → Option (Out × St)
  cl : AEnv → X → Nat → Itr → X → Nat → St → Option St

noncomputable def rdVar (en : AEnv) (i : Nat) (σ : St) : Option AV := asFr none (σ.h.get en.fr) fun f ls => oif (Nat.beq f en.f) (bnd (nth ls i) fun v => v)
noncomputable def wrVar (en : AEnv) (i : Nat) (v : AV) (σ : St) : Option St := oif (Nat.ble (Nat.succ en.fr) (nat_lit 4096)) (asFr none (σ.h.get en.fr) fun f ls => oif (Nat.beq f en.f) (oif (hasN ls i) (some (σ.put en.fr (.frame f (setN ls (some v) i))))))
noncomputable def rdCell (en : AEnv) (i : Nat) (σ : St) : Option AV := bnd (lkN en.cells i) fun c => asCel none (σ.h.get c) fun v => v
noncomputable def wrCell (en : AEnv) (i : Nat) (v : AV) (σ : St) : Option St := bnd (lkN en.cells i) fun c => oif (Nat.ble (Nat.succ c) (nat_lit 4096)) (asCel none (σ.h.get c) fun _ => some (σ.put c (.cell (some v))))
theorem rdVar_at {en : AEnv} {i : Nat} {σ : St} {v : AV} (h : rdVar en i σ = some v) : ∃ ls, σ.h.get en.fr = some (.frame en.f ls) ∧ ls[i]? = some (some v) := by
  obtain ⟨f, ls, hf, h⟩ := asFr_at ns h
  obtain ⟨e, h⟩ := oif_at h
  obtain ⟨v', hn, h⟩ := bnd_at h
  exact ⟨ls, Nat.eq_of_beq_eq_true e ▸ hf, (nth_eq ls i).symm.trans (hn.trans (congrArg some h))⟩
theorem wrVar_at {en : AEnv} {i : Nat} {v : AV} {σ σ' : St} (h : wrVar en i v σ = some σ') : en.fr < 4096 ∧ ∃ ls, σ.h.get en.fr = some (.frame en.f ls) ∧ i < ls.length ∧ σ' = σ.put en.fr (.frame en.f (ls.set i (some v))) := by
  obtain ⟨hb, h⟩ := oif_at h
  obtain ⟨f, ls, hf, h⟩ := asFr_at ns h
  obtain ⟨e, h⟩ := oif_at h
  obtain ⟨hl, h⟩ := oif_at h
  have e := Nat.eq_of_beq_eq_true e
  cases h
  exact ⟨Nat.le_of_ble_eq_true hb, ls, e ▸ hf, hasN_lt ls hl, by rw [setN_eq, e]⟩
theorem rdCell_at {en : AEnv} {i : Nat} {σ : St} {v : AV} (h : rdCell en i σ = some v) : ∃ c, lkN en.cells i = some c ∧ σ.h.get c = some (.cell (some v)) := by
  obtain ⟨c, hc, h⟩ := bnd_at h
  obtain ⟨v', hv, h⟩ := asCel_at ns h
  exact ⟨c, hc, hv.trans (congrArg (fun x => some (AObj.cell x)) h)⟩
theorem wrCell_at {en : AEnv} {i : Nat} {v : AV} {σ σ' : St} (h : wrCell en i v σ = some σ') : ∃ c v', lkN en.cells i = some c ∧ c < 4096 ∧ σ.h.get c = some (.cell v') ∧ σ' = σ.put c (.cell (some v)) := by
  obtain ⟨c, hc, h⟩ := bnd_at h
  obtain ⟨hb, h⟩ := oif_at h
  obtain ⟨v', hv, h⟩ := asCel_at ns h
  cases h
  exact ⟨c, v', hc, Nat.le_of_ble_eq_true hb, hv, rfl⟩
noncomputable def mk (σ : St) (o : AObj) : Option (AV × St) := oif (Nat.ble (Nat.succ σ.n) (nat_lit 4096)) (some (.ref σ.n, σ.new o))
noncomputable def fewer {α : Type} (n : Nat) (l : List α) : Bool := Nat.ble (lenN l) n
theorem fewer_le {α : Type} {n : Nat} {l : List α} (h : fewer n l = true) : l.length ≤ n := lenN_eq l ▸ Nat.le_of_ble_eq_true h
noncomputable def mkList (σ : St) (xs : List AV) : Option (AV × St) := oif (fewer 1000 xs) (mk σ (.list xs))
theorem mk_at {σ σ' : St} {o : AObj} {av : AV} (h : mk σ o = some (av, σ')) : σ.n < 4096 ∧ av = .ref σ.n ∧ σ' = σ.new o := by
  obtain ⟨h0, h⟩ := oif_at h
  cases h
  exact ⟨Nat.le_of_ble_eq_true h0, rfl, rfl⟩
/-- the whole numbers of a list, if all are known -/
noncomputable def consts (l : List AV) : Option (List Int) := List.rec (motive := fun _ => Option (List Int)) (some []) (fun x _ ih => asZ none x fun k => bnd ih fun l => some (k :: l)) l
noncomputable def strsOf (l : List AV) : Option (List Str) := List.rec (motive := fun _ => Option (List Str)) (some []) (fun x _ ih => asStr none x fun k => bnd ih fun l => some (k :: l)) l
noncomputable def eqN (a : List Nat) : List Nat → Bool := List.rec (motive := fun _ => List Nat → Bool) (fun b => l0 false b true) (fun x _ ih b => List.rec (motive := fun _ => Bool) false (fun y s _ => Bool.rec (motive := fun _ => Bool) false (ih s) (Nat.beq x y)) b) a
noncomputable def eqS (a b : Str) : Bool := eqN a.cps.toList b.cps.toList
noncomputable def memI (k : Int) (l : List Int) : Bool := List.rec (motive := fun _ => Bool) false (fun a _ ih => Bool.rec (motive := fun _ => Bool) ih true (beqZ a k)) l
noncomputable def memS (k : Str) (l : List Str) : Bool := List.rec (motive := fun _ => Bool) false (fun a _ ih => Bool.rec (motive := fun _ => Bool) ih true (eqS a k)) l
noncomputable def idxS (k : Str) (l : List Str) : Nat → Option Nat := List.rec (motive := fun _ => Nat → Option Nat) (fun _ => none) (fun a _ ih n => Bool.rec (motive := fun _ => Option Nat) (ih (Nat.succ n)) (some n) (eqS a k)) l
noncomputable def eqIs (a : List Int) : List Int → Bool := List.rec (motive := fun _ => List Int → Bool) (fun b => l0 false b true) (fun x _ ih b => List.rec (motive := fun _ => Bool) false (fun y s _ => Bool.rec (motive := fun _ => Bool) false (ih s) (beqZ x y)) b) a
noncomputable def eqSs (a : List Str) : List Str → Bool := List.rec (motive := fun _ => List Str → Bool) (fun b => l0 false b true) (fun x _ ih b => List.rec (motive := fun _ => Bool) false (fun y s _ => Bool.rec (motive := fun _ => Bool) false (ih s) (eqS x y)) b) a
noncomputable def listAt (σ : St) (i : Nat) : Option (List AV) := asLst none (σ.h.get i) some
theorem listAt_at {σ : St} {i : Nat} {xs : List AV} (h : listAt σ i = some xs) : σ.h.get i = some (.list xs) := by
  obtain ⟨l, e, h⟩ := asLst_at ns h
  cases h
  exact e
theorem at_listAt {σ : St} {i : Nat} {xs : List AV} (h : σ.h.get i = some (.list xs)) : listAt σ i = some xs := by unfold listAt; rw [h]; rfl

section
variable (K : Facts) (M : Mod)
noncomputable def cmpI (o : CmpOp) (a b : IE) : Option Bool := match a, b with
  | .c x, .c y => cmpZ o x y
  | a, b => lookB K.fb o a b
noncomputable def rep (n : Nat) (xs : List AV) : List AV := match n with
  | 0 => []
  | n + 1 => xs ++ rep n xs
noncomputable def binAV (o : Operator) (a b : AV) (σ : St) : Option (AV × St) :=
  AV.rec (motive := fun _ => Option (AV × St)) none (fun _ => none) (fun x => asInt none b fun y => bnd (intOp K o x y) fun z => some (.int z, σ)) (fun _ => none)
    (fun i => bnd (listAt σ i) fun xs => AV.rec (motive := fun _ => Option (AV × St)) none (fun _ => none)
      (fun y => oif (decide (o = .Mult)) (asC none y fun k => asN none k fun n => oif (Nat.ble n 1000) (oif (fewer 1000 xs) (mkList σ (rep n xs))))) (fun _ => none)
      (fun j => oif (decide (o = .Add)) (bnd (listAt σ j) fun ys => mkList σ (addN xs ys))) (fun _ => none) b) (fun _ => none) a
noncomputable def sameIE (a : List AV) : List AV → Bool := List.rec (motive := fun _ => List AV → Bool) (fun b => l0 false b true)
  (fun x _ ih b => List.rec (motive := fun _ => Bool) false (fun y s _ => asInt false x fun p => asInt false y fun q => IE.beq p q && ih s) b) a
noncomputable def eqLs (xs ys : List AV) : Option Bool := Bool.rec (motive := fun _ => Option Bool)
  (Option.rec (motive := fun _ => Option Bool) (bnd (strsOf xs) fun a => bnd (strsOf ys) fun b => some (eqSs a b)) (fun a => bnd (consts ys) fun b => some (eqIs a b)) (consts xs)) (some true) (sameIE xs ys)
noncomputable def neLs (xs ys : List AV) : Option Bool := Bool.rec (motive := fun _ => Option Bool) (bnd (consts xs) fun a => bnd (consts ys) fun b => some (!(eqIs a b))) (some false) (sameIE xs ys)
noncomputable def cmpRef (o : CmpOp) (xs ys : List AV) : Option Bool := Bool.rec (motive := fun _ => Option Bool) (oif (decide (o = .NotEq)) (neLs xs ys)) (eqLs xs ys) (decide (o = .Eq))
noncomputable def cmpAV (o : CmpOp) (a b : AV) (σ : St) : Option Bool :=
  AV.rec (motive := fun _ => Option Bool) none (fun _ => none)
    (fun x => AV.rec (motive := fun _ => Option Bool) none (fun _ => none) (fun y => cmpI K o x y) (fun _ => none)
      (fun j => asC none x fun k => bnd (listAt σ j) fun ys => bnd (consts ys) fun l => Bool.rec (motive := fun _ => Option Bool) (oif (decide (o = .NotIn)) (some (!(memI k l)))) (some (memI k l)) (decide (o = .In))) (fun _ => none) b)
    (fun x => AV.rec (motive := fun _ => Option Bool) none (fun _ => none) (fun _ => none) (fun y => oif (decide (o = .NotEq)) (some (!(eqS x y))))
      (fun j => oif (decide (o = .In)) (bnd (listAt σ j) fun ys => bnd (strsOf ys) fun l => some (memS x l))) (fun _ => none) b)
    (fun i => asRef none b fun j => bnd (listAt σ i) fun xs => bnd (listAt σ j) fun ys => cmpRef o xs ys) (fun _ => none) a
noncomputable def truth (a : AV) : Option Bool :=
  AV.rec (motive := fun _ => Option Bool) none (fun b => some b) (fun e => asC (bnd (lookB K.fb .Eq e (.c 0)) fun b => some (!b)) e fun k => some (!(beqZ k 0))) (fun _ => none) (fun _ => none) (fun _ => none) a
noncomputable def subAV (a i : AV) (σ : St) : Option (AV × St) := asRef none a fun r => asK none i fun k => oif (Nat.ble k (nat_lit 1000)) (asSeq none (σ.h.get r) (fun xs => bnd (nth xs k) fun v => some (v, σ)) fun xs => bnd (nth xs k) fun v => some (v, σ))
noncomputable def insI (k : Int) : List Int → List Int
  | [] => [k]
  | a :: r => match decide (k ≤ a) with
    | true => k :: a :: r
    | false => a :: insI k r
noncomputable def sortI : List Int → List Int
  | [] => []
  | a :: r => insI a (sortI r)
noncomputable def sumI : List Int → Int → Int
  | [], a => a
  | k :: r, a => sumI r (a + k)
noncomputable def maxI : List Int → Int → Int
  | [], a => a
  | k :: r, a => maxI r (match decide (a < k) with | true => k | false => a)
noncomputable def lkZ {α : Type} (l : List (Int × α)) (k : Int) : Option α := List.rec (motive := fun _ => Option α) none (fun p _ ih => Bool.rec (motive := fun _ => Option α) ih (some p.2) (beqZ p.1 k)) l
theorem lkZ_mem {α : Type} (k : Int) (x : α) (l : List (Int × α)) (h : lkZ l k = some x) : (k, x) ∈ l := by
  induction l with
  | nil => cases h
  | cons p r ih =>
    have h : Bool.rec (motive := fun _ => Option α) (lkZ r k) (some p.2) (beqZ p.1 k) = some x := h
    rw [beqZ_eq] at h
    cases q : p.1 == k with
    | true =>
      rw [q] at h
      have h : some p.2 = some x := h
      cases h
      rw [← beq_iff_eq.mp q]
      exact List.mem_cons_self
    | false => rw [q] at h; exact List.mem_cons_of_mem _ (ih h)
noncomputable def hexs : List (Int × Str) := [(0, "0x0"), (1, "0x1"), (2, "0x2"), (4, "0x4"), (8, "0x8"), (16, "0x10"), (32, "0x20"), (64, "0x40"), (128, "0x80"), (256, "0x100"), (512, "0x200")]
noncomputable def bifAV (b : Bif) (vs : List AV) (σ : St) : Option (AV × St) :=
  Bif.rec (motive := fun _ => Option (AV × St))
   (l1 none vs fun v => asRef none v fun i => bnd (listAt σ i) fun xs => oif (fewer 1000 xs) (some (.int (.c (.ofNat (lenN xs))), σ)))
   (l1 none vs fun v => asRef none v fun i => bnd (listAt σ i) fun xs => bnd (consts xs) fun l => some (.int (.c (sumI l 0)), σ))
   (l1 none vs fun v => asRef none v fun i => bnd (listAt σ i) fun xs => oif (fewer 63 xs) (bnd (consts xs) fun l => mkList σ ((sortI l).map fun k => .int (.c k))))
   (l1 none vs fun v => asRef none v fun i => bnd (listAt σ i) fun xs => bnd (consts xs) fun l => List.rec (motive := fun _ => Option (AV × St)) none (fun k r _ => some (.int (.c (maxI r k)), σ)) l)
   (l2 none vs fun a b => asInt none a fun x => asInt none b fun y => oif (divOk K y) (mk σ (.tup [.int (fold2 Int.fdiv .div x y), .int (fold2 Int.fmod .mod x y)])))
   (l1 none vs fun v => asZ none v fun k => bnd (lkZ hexs k) fun x => some (.str x, σ)) b
noncomputable def lkD (l : List (Int × Str)) (k : Int) : Option Str := lkZ l k
noncomputable def methAV (m : Mth) (o : AV) (vs : List AV) (σ : St) : Option (AV × St) :=
  Mth.rec (motive := fun _ => Option (AV × St))
   (asRef none o fun i => l1 none vs fun v => bnd (listAt σ i) fun xs => oif (Nat.ble (Nat.succ i) (nat_lit 4096)) (oif (fewer 1000 xs) (some (.none, σ.put i (.list (addN xs [v]))))))
   (asRef none o fun i => l0 none vs (bnd (listAt σ i) fun xs => oif (Nat.ble (Nat.succ i) (nat_lit 4096)) (oif (fewer 1000 xs) (some (.none, σ.put i (.list xs.reverse))))))
   (asInt none o fun e => l0 none vs (some (.int (nrm K (.bits e)), σ)))
   (asStr none o fun x => l1 none vs fun v => asStr none v fun y => oif (Nat.ble x.length 1000 && Nat.ble 1 y.length) (mkList σ ((Txt.split x y).map .str)))
   (asStr none o fun x => l1 none vs fun v => asRef none v fun i => bnd (listAt σ i) fun xs => bnd (strsOf xs) fun l => oif (Nat.ble x.length 16 && Nat.ble ((l.map (·.length)).sum + l.length) 100000) (some (.str (Txt.join x l), σ)))
   (asRef none o fun i => l1 none vs fun v => asStr none v fun x => bnd (listAt σ i) fun xs => bnd (strsOf xs) fun l => bnd (idxS x l (nat_lit 0)) fun n => oif (Nat.ble n (nat_lit 1000)) (some (.int (.c (.ofNat n)), σ)))
   (asGlo none o fun g => l2 none vs fun a b => asZ none a fun k => asStr none b fun _ => bn2 (M.gd g) fun _ t => bnd (lkD t k) fun x => some (.str x, σ)) m
end
end Mine

namespace Mine
section
variable (K : Facts) (M : Mod) (P : Nat → List AV → St → Option (AV × St))
noncomputable def memN (i : Nat) : List Nat → Bool
  | [] => false
  | a :: r => match Nat.beq a i with
    | true => true
    | false => memN i r
/-- the frame's slots of the parameters: one that is a cell has none -/
noncomputable def maskF (cells : List Nat) : Nat → List AV → List (Option AV)
  | _, [] => []
  | i, v :: r => (match memN i cells with | true => none | false => some v) :: maskF cells (i + 1) r
noncomputable def newCells (vs : List AV) : List Nat → St → Option (List (Nat × Nat) × St)
  | [], σ => some ([], σ)
  | c :: r, σ => match Nat.blt σ.n 4096 with
    | true => match newCells vs r (σ.new (.cell (nth vs c))) with
      | some (l, σ') => some ((c, σ.n) :: l, σ')
      | none => none
    | false => none
noncomputable def blanks : Nat → List (Option AV)
  | 0 => []
  | n + 1 => none :: blanks n
/-- what a call's body comes to -/
noncomputable def outV (o : Out) (σ : St) : Option (AV × St) := Out.rec (motive := fun _ => Option (AV × St)) (some (.none, σ)) none (fun v => some (v, σ)) o
theorem outV_at {o : Out} {σ σ' : St} {v : AV} (h : outV o σ = some (v, σ')) : σ' = σ ∧ (o = .ret v ∨ o = .next ∧ v = .none) := by
  cases o with
  | next => cases h; exact ⟨rfl, .inr ⟨rfl, rfl⟩⟩
  | brk => cases h
  | ret u => cases h; exact ⟨rfl, .inl rfl⟩
noncomputable def callFn (r : Ev) (d k : Nat) (vs : List AV) (σ : St) : Option (AV × St) := bnd (M.fn k) fun F => Fn.rec (motive := fun _ => Option (AV × St))
  (fun np nl cells body => oif (Nat.beq (lenN vs) np && Nat.blt d 40 && Nat.blt σ.n 4096) (bn2 (newCells vs cells (σ.new (.frame k (maskF cells 0 vs ++ blanks nl)))) fun cs σ1 => bn2 (r.ss ⟨k, σ.n, cs, d + 1⟩ body σ1) outV))
  (fun n => oif (Nat.beq d 0) (P n vs σ)) F
noncomputable def keysIn : List (Nat × Nat) → List (Nat × Nat) → Bool
  | [], _ => true
  | p :: r, fm => match lkN fm p.1 with
    | some _ => keysIn r fm
    | none => false
/-- a call of an inner def -/
noncomputable def asFunc {α : Type} (z : α) (o : Option AObj) (f : Nat → List (Nat × Nat) → Nat → α) : α :=
  Option.rec (motive := fun _ => α) z (fun o => AObj.rec (motive := fun _ => α) (fun _ _ => z) (fun _ => z) (fun _ => z) (fun _ => z) z (fun _ _ _ => z) (fun _ => z) f z o) o
noncomputable def asCode {α : Type} (z : α) (o : Option AObj) (f : Str → α) : α :=
  Option.rec (motive := fun _ => α) z (fun o => AObj.rec (motive := fun _ => α) (fun _ _ => z) (fun _ => z) (fun _ => z) (fun _ => z) z (fun _ _ _ => z) f (fun _ _ _ => z) z o) o
theorem asFunc_at {α : Type} {z r : α} (hz : z ≠ r) {o : Option AObj} {f : Nat → List (Nat × Nat) → Nat → α} (h : asFunc z o f = r) : ∃ k cs ci, o = some (.func k cs ci) ∧ f k cs ci = r := by
  cases o with
  | none => exact absurd h hz
  | some o => cases o <;> first | exact absurd h hz | exact ⟨_, _, _, rfl, h⟩
theorem asCode_at {α : Type} {z r : α} (hz : z ≠ r) {o : Option AObj} {f : Str → α} (h : asCode z o f = r) : ∃ q, o = some (.code q) ∧ f q = r := by
  cases o with
  | none => exact absurd h hz
  | some o => cases o <;> first | exact absurd h hz | exact ⟨_, rfl, h⟩
noncomputable def callInn (r : Ev) (d fi : Nat) (vs : List AV) (σ : St) : Option (AV × St) := asFunc none (σ.h.get fi) fun k cs ci => bnd (M.inn k) fun i => asCode none (σ.h.get ci) fun q =>
  oif (Nat.beq (lenN vs) i.np && Nat.blt d 40 && Nat.blt σ.n 4096 && eqS q i.q && keysIn cs i.fm) (bn2 (r.ss ⟨k, σ.n, cs, d + 1⟩ i.body (σ.new (.frame k (vs.map some ++ blanks i.nl)))) outV)
noncomputable def mkRng (a b s : Int) : Option Itr := match Builtin.Range.small a b s with
  | true => some (.rng a (Builtin.Range.rangeSize a b s).toNat s)
  | false => none
noncomputable def rngOf (vs : List AV) : Option Itr := List.rec (motive := fun _ => Option Itr) none (fun x r _ => asZ none x fun a => List.rec (motive := fun _ => Option Itr) (mkRng 0 a 1) (fun y r _ => asZ none y fun b =>
  List.rec (motive := fun _ => Option Itr) (mkRng a b 1) (fun z r _ => l0 none r (asZ none z fun s => Bool.rec (motive := fun _ => Option Itr) (oif (decide (s = -1)) (mkRng a b (-1))) (mkRng a b 2) (decide (s = 2)))) r) r) vs
/-- what a loop goes over -/
noncomputable def itL (r : Ev) (en : AEnv) (x : X) (σ : St) : Option (Itr × St) := bn2 (r.e en x σ) fun v σ1 => asRef none v fun l => bnd (listAt σ1 l) fun _ => some (.lst l (nat_lit 0), σ1)
noncomputable def itOf (r : Ev) (en : AEnv) (x : X) (σ : St) : Option (Itr × St) := X.rec (motive := fun _ => Option (Itr × St))
    (fun _ _ => itL r en x σ)
    (fun _ _ => itL r en x σ)
    (fun _ _ => itL r en x σ)
    (fun _ _ => itL r en x σ)
    (fun _ _ _ => itL r en x σ)
    (fun _ => itL r en x σ)
    (fun _ _ => itL r en x σ)
    (fun _ _ _ _ _ _ => itL r en x σ)
    (fun _ _ _ _ _ _ => itL r en x σ)
    (fun _ _ _ _ _ _ _ => itL r en x σ)
    (fun _ _ _ => itL r en x σ)
    (fun _ _ _ => itL r en x σ)
    (fun _ _ _ => itL r en x σ)
    (fun _ _ _ => itL r en x σ)
    (fun _ _ _ _ _ => itL r en x σ)
    (fun _ _ _ _ _ => itL r en x σ)
    (fun _ _ _ _ _ => itL r en x σ)
    (fun _ _ _ _ _ _ _ => itL r en x σ)
    (fun _ _ _ _ => itL r en x σ)
    (fun _ _ _ _ _ _ => itL r en x σ)
    (fun xs _ _ _ => bn2 (r.es en xs σ) fun vs σ1 => bnd (rngOf vs) fun t => some (t, σ1))
    (fun y _ _ _ => bn2 (r.e en y σ) fun v σ1 => asRef none v fun l => bnd (listAt σ1 l) fun xs => some (.rev l (lenN xs), σ1))
    (fun _ _ => itL r en x σ)
    (fun _ _ _ _ _ => itL r en x σ)
    (fun _ _ _ _ _ _ _ _ _ _ _ => itL r en x σ)
    (itL r en x σ)
    (fun _ _ _ _ => itL r en x σ) x
/-- the next item: nothing is left | an item and what then is left -/
noncomputable def nextOf (t : Itr) (σ : St) : Option (Option (AV × Itr)) := Itr.rec (motive := fun _ => Option (Option (AV × Itr)))
  (fun x left s => Nat.rec (motive := fun _ => Option (Option (AV × Itr))) (some none) (fun n _ => some (some (.int (.c x), .rng (x + s) n s))) left)
  (fun l i => bnd (listAt σ l) fun xs => some (Option.rec (motive := fun _ => Option (AV × Itr)) none (fun v => some (v, .lst l (Nat.succ i))) (nth xs i)))
  (fun l i => Nat.rec (motive := fun _ => Option (Option (AV × Itr))) (some none) (fun j _ => bnd (listAt σ l) fun xs => bnd (nth xs j) fun v => some (some (v, .rev l j))) i) t
noncomputable def wrTo (en : AEnv) (c : Bool) (i : Nat) (v : AV) (σ : St) : Option St := match c with
  | true => wrCell en i v σ
  | false => wrVar en i v σ
noncomputable def cellsFor : List (Nat × Nat) → List (Nat × Nat) → Option (List (Nat × Nat))
  | [], _ => some []
  | p :: r, cs => match lkN cs p.2, cellsFor r cs with
    | some c, some l => some ((p.1, c) :: l)
    | _, _ => none
noncomputable def orT (r : Ev) (en : AEnv) (x : X) : St → Option (Bool × St) := X.rec (motive := fun _ => St → Option (Bool × St))
    (fun _ _ => fun σ => some (false, σ))
    (fun _ _ => fun σ => some (false, σ))
    (fun _ _ => fun σ => some (false, σ))
    (fun _ _ => fun σ => some (false, σ))
    (fun _ _ _ => fun σ => some (false, σ))
    (fun _ => fun σ => some (false, σ))
    (fun _ _ => fun σ => some (false, σ))
    (fun _ _ _ _ _ _ => fun σ => some (false, σ))
    (fun _ _ _ _ _ _ => fun σ => some (false, σ))
    (fun _ _ _ _ _ _ _ => fun σ => some (false, σ))
    (fun _ _ _ => fun σ => some (false, σ))
    (fun _ _ _ => fun σ => some (false, σ))
    (fun _ _ _ => fun σ => some (false, σ))
    (fun _ _ _ => fun σ => some (false, σ))
    (fun _ _ _ _ _ => fun σ => some (false, σ))
    (fun _ _ _ _ _ => fun σ => some (false, σ))
    (fun _ _ _ _ _ => fun σ => some (false, σ))
    (fun _ _ _ _ _ _ _ => fun σ => some (false, σ))
    (fun _ _ _ _ => fun σ => some (false, σ))
    (fun _ _ _ _ _ _ => fun σ => some (false, σ))
    (fun _ _ _ _ => fun σ => some (false, σ))
    (fun _ _ _ _ => fun σ => some (false, σ))
    (fun _ _ => fun σ => some (false, σ))
    (fun _ _ _ _ _ => fun σ => some (false, σ))
    (fun _ _ _ _ _ _ _ _ _ _ _ => fun σ => some (false, σ))
    (fun σ => some (false, σ))
    (fun y _ _ ih => fun σ => bn2 (r.t en y σ) fun b σ1 => Bool.rec (motive := fun _ => Option (Bool × St)) (ih σ1) (some (true, σ1)) b) x
/-- the object is one that has the method -/
noncomputable def methTy (m : Mth) (o : AV) (σ : St) : Bool :=
  Mth.rec (motive := fun _ => Bool) (asRef false o fun i => (listAt σ i).isSome) (asRef false o fun i => (listAt σ i).isSome) (asInt false o fun _ => true) (asStr false o fun _ => true) (asStr false o fun _ => true)
    (asRef false o fun i => (listAt σ i).isSome) (asGlo false o fun i => (M.gd i).isSome) m
noncomputable def stepE (r : Ev) (en : AEnv) (x : X) (σ : St) : Option (AV × St) := X.rec (motive := fun _ => Option (AV × St))
    (fun i _ => bnd (rdVar en i σ) fun v => some (v, σ))
    (fun i _ => bnd (rdCell en i σ) fun v => some (v, σ))
    (fun i _ => bn2 (M.gi i) fun _ k => some (.int (.c k), σ))
    (fun k _ => some (.int (.c k), σ))
    (fun k _ _ => some (.int (.c (-k)), σ))
    (fun _ => some (.none, σ))
    (fun y _ => some (.str y, σ))
    (fun o a b _ _ _ => bn2 (r.e en a σ) fun va σ1 => bn2 (r.e en b σ1) fun vb σ2 => binAV K o va vb σ2)
    (fun o a b _ _ _ => bn2 (r.e en a σ) fun va σ1 => bn2 (r.e en b σ1) fun vb σ2 => bnd (cmpAV K o va vb σ2) fun c => some (.bool c, σ2))
    (fun t a b _ _ _ _ => bn2 (r.t en t σ) fun c σ1 => Bool.rec (motive := fun _ => Option (AV × St)) (r.e en b σ1) (r.e en a σ1) c)
    (fun _ _ _ => none)
    (fun _ _ _ => none)
    (fun xs _ _ => bn2 (r.es en xs σ) fun vs σ1 => mkList σ1 vs)
    (fun xs _ _ => bn2 (r.es en xs σ) fun vs σ1 => oif (fewer 1000 vs) (mk σ1 (.tup vs)))
    (fun a i _ _ _ => bn2 (r.e en a σ) fun va σ1 => bn2 (r.e en i σ1) fun vi σ2 => subAV va vi σ2)
    (fun k xs _ _ _ => bn2 (r.es en xs σ) fun vs σ1 => callFn M P r en.d k vs σ1)
    (fun b xs _ _ _ => bn2 (r.es en xs σ) fun vs σ1 => bifAV K b vs σ1)
    (fun m o xs _ _ _ _ => bn2 (r.e en o σ) fun vo σ1 => oif (methTy M m vo σ1) (bn2 (r.es en xs σ1) fun vs σ2 => methAV K M m vo vs σ2))
    (fun y _ _ _ => bn2 (r.e en y σ) fun v σ1 => asRef none v fun l => bnd (listAt σ1 l) fun xs => mkList σ1 xs)
    (fun y _ _ _ _ _ => bn2 (r.e en y σ) fun v σ1 => asRef none v fun l => bnd (listAt σ1 l) fun xs => mkList σ1 xs.reverse)
    (fun _ _ _ _ => none)
    (fun _ _ _ _ => none)
    (fun i _ => bnd (M.gd i) fun _ => some (.glob i, σ))
    (fun i xs _ _ _ => bnd (rdCell en i σ) fun f => asRef none f fun fi => bn2 (r.es en xs σ) fun vs σ1 => callInn M r en.d fi vs σ1)
    (fun fc fm elt ti _ it cond _ _ _ _ => bn2 (itOf r en it σ) fun t σ1 => bnd (cellsFor fm en.cells) fun cs => oif (Nat.blt (σ1.n + 1) 4096) (bnd (r.cl ⟨fc, σ1.n + 1, cs, en.d⟩ elt ti t cond σ1.n ((σ1.new (.list [])).new (.frame fc (blanks (M.sc fc).names.length)))) fun σ2 => some (.ref σ1.n, σ2.put (σ1.n + 1) (.frame fc []))))
    (none)
    (fun _ _ _ _ => none) x
noncomputable def stepEs (r : Ev) (en : AEnv) (x : X) (σ : St) : Option (List AV × St) := X.rec (motive := fun _ => Option (List AV × St))
    (fun _ _ => none)
    (fun _ _ => none)
    (fun _ _ => none)
    (fun _ _ => none)
    (fun _ _ _ => none)
    (fun _ => none)
    (fun _ _ => none)
    (fun _ _ _ _ _ _ => none)
    (fun _ _ _ _ _ _ => none)
    (fun _ _ _ _ _ _ _ => none)
    (fun _ _ _ => none)
    (fun _ _ _ => none)
    (fun _ _ _ => none)
    (fun _ _ _ => none)
    (fun _ _ _ _ _ => none)
    (fun _ _ _ _ _ => none)
    (fun _ _ _ _ _ => none)
    (fun _ _ _ _ _ _ _ => none)
    (fun _ _ _ _ => none)
    (fun _ _ _ _ _ _ => none)
    (fun _ _ _ _ => none)
    (fun _ _ _ _ => none)
    (fun _ _ => none)
    (fun _ _ _ _ _ => none)
    (fun _ _ _ _ _ _ _ _ _ _ _ => none)
    (some ([], σ))
    (fun y ys _ _ => bn2 (r.e en y σ) fun v σ1 => bn2 (r.es en ys σ1) fun vs σ2 => some (v :: vs, σ2)) x
/-- what a value is worth as a condition -/
noncomputable def truthAt (v : AV) (σ : St) : Option Bool := AV.rec (motive := fun _ => Option Bool) (truth K v) (fun _ => truth K v) (fun _ => truth K v) (fun _ => truth K v) (fun i => bnd (listAt σ i) fun xs => oif (fewer 1000 xs) (some (!xs.isEmpty))) (fun _ => truth K v) v
noncomputable def valT (r : Ev) (en : AEnv) (x : X) (σ : St) : Option (Bool × St) := bn2 (r.e en x σ) fun v σ1 => bnd (truthAt K v σ1) fun b => some (b, σ1)
noncomputable def stepT (r : Ev) (en : AEnv) (x : X) (σ : St) : Option (Bool × St) := X.rec (motive := fun _ => Option (Bool × St))
    (fun _ _ => valT K r en x σ)
    (fun _ _ => valT K r en x σ)
    (fun _ _ => valT K r en x σ)
    (fun _ _ => valT K r en x σ)
    (fun _ _ _ => valT K r en x σ)
    (fun _ => valT K r en x σ)
    (fun _ _ => valT K r en x σ)
    (fun _ _ _ _ _ _ => valT K r en x σ)
    (fun o a b _ _ _ => bn2 (r.e en a σ) fun va σ1 => bn2 (r.e en b σ1) fun vb σ2 => bnd (cmpAV K o va vb σ2) fun c => some (c, σ2))
    (fun _ _ _ _ _ _ _ => none)
    (fun xs _ _ => orT r en xs σ)
    (fun a _ _ => bn2 (r.t en a σ) fun b σ1 => some (!b, σ1))
    (fun _ _ _ => valT K r en x σ)
    (fun _ _ _ => valT K r en x σ)
    (fun _ _ _ _ _ => valT K r en x σ)
    (fun _ _ _ _ _ => valT K r en x σ)
    (fun _ _ _ _ _ => valT K r en x σ)
    (fun _ _ _ _ _ _ _ => valT K r en x σ)
    (fun _ _ _ _ => valT K r en x σ)
    (fun _ _ _ _ _ _ => valT K r en x σ)
    (fun _ _ _ _ => valT K r en x σ)
    (fun _ _ _ _ => valT K r en x σ)
    (fun _ _ => valT K r en x σ)
    (fun _ _ _ _ _ => valT K r en x σ)
    (fun _ _ _ _ _ _ _ _ _ _ _ => valT K r en x σ)
    (valT K r en x σ)
    (fun _ _ _ _ => valT K r en x σ) x
noncomputable def setAV (o i v : AV) (σ : St) : Option St := asRef none o fun l => asK none i fun k => bnd (listAt σ l) fun xs => oif (Nat.ble (Nat.succ l) (nat_lit 4096)) (oif (hasN xs k) (oif (Nat.ble (Nat.succ k) (nat_lit 1000)) (some (σ.put l (.list (setN xs v k))))))
/-- a def inside a def: its code is made once, its function each time -/
noncomputable def defInn (en : AEnv) (k : Nat) (σ : St) : Option (AV × St) := match M.inn k with
  | some i => match cellsFor i.fm en.cells, Nat.blt (σ.n + 1) 4096 && Nat.blt i.ti 4096 with
    | some cs, true => match σ.h.get i.ti with
      | some (.tab l c none) => match Nat.beq l i.l && Nat.beq c i.c with
        | true => some (.ref (σ.n + 1), ((σ.put i.ti (.tab l c (some σ.n))).new (.code i.q)).new (.func k cs σ.n))
        | false => none
      | some (.tab l c (some ci)) => match Nat.beq l i.l && Nat.beq c i.c with
        | true => some (.ref σ.n, σ.new (.func k cs ci))
        | false => none
      | _ => none
    | _, _ => none
  | none => none
/-- where the generator _grouping_intervals stands: at its start | at a place of its row, behind a number | telling one number for ever -/
inductive GT where
  | start
  | row (j : Nat) (last : Int)
  | rep (v : Int)
/-- a turn of the generator's loop -/
noncomputable def gTurn (ns : List Int) (j : Nat) (last : Option Int) : Option (Int × GT) := match ns[j]? with
  | none => none
  | some k => if k = 127 then none else if k = 0 then (match last with | some v => some (v, .rep v) | none => none) else some (k, .row (j + 1) k)
noncomputable def gnI (ns : List Int) : GT → Option (Int × GT)
  | .start => gTurn ns 0 none
  | .row j last => gTurn ns j (some last)
  | .rep v => some (v, .rep v)
noncomputable def gst (ns : List Int) : Nat → GT
  | 0 => .start
  | r + 1 => match gnI ns (gst ns r) with
    | some (_, t) => t
    | none => gst ns r
noncomputable def listIs (σ : St) (l : Nat) (ns : List Int) : Bool := match listAt σ l with
  | some xs => match consts xs with
    | some ms => eqIs ms ns
    | none => false
  | none => false
noncomputable def gLoop (r : Ev) (en : AEnv) (i l : Nat) (ns : List Int) (b : Y) : Nat → GT → St → Option (Out × St)
  | 0, _, _ => none
  | n + 1, t, σ => match listIs σ l ns with
    | true => match gnI ns t with
      | some (k, t') => match wrVar en i (.int (.c k)) σ with
        | some σ1 => match r.ss en b σ1 with
          | some (.next, σ2) => gLoop r en i l ns b n t' σ2
          | some (.brk, σ2) => some (.next, σ2)
          | some (.ret v, σ2) => some (.ret v, σ2)
          | none => none
        | none => none
      | none => some (.next, σ)
    | false => none
/-- what a frame's slots from one on hold is no longer known -/
noncomputable def cutVar (en : AEnv) (i : Nat) (σ : St) : Option St := match Nat.blt en.fr 4096 with
  | true => match σ.h.get en.fr with
    | some (.frame f ls) => match Nat.beq f en.f with
      | true => some (σ.put en.fr (.frame f (ls.take i)))
      | false => none
    | _ => none
  | false => none
noncomputable def head0 : List Int → Bool
  | k :: _ => k == 0
  | [] => false
noncomputable def tryGen (r : Ev) (en : AEnv) (i : Nat) (rx : X) (er ho : Nat) (b : Y) (σ : St) : Option (Out × St) := match Nat.blt en.d 40, r.e en rx σ with
  | true, some (.ref l, σ1) => match listAt σ1 l with
    | some xs => match consts xs with
      | some ns => match head0 ns with
        | true => match cutVar en er σ1 with
          | some σ2 => match wrVar en ho (.str "invalid grouping") σ2 with
            | some σ3 => match cutVar en er σ3 with
              | some σ4 => some (.next, σ4)
              | none => none
            | none => none
          | none => none
        | false => gLoop r en i l ns b 40 .start σ1
      | none => none
    | none => none
  | _, _ => none
noncomputable def stepS (r : Ev) (en : AEnv) (y : Y) (σ : St) : Option (Out × St) := Y.rec (motive := fun _ => Option (Out × St))
    (fun i _ e _ => bn2 (r.e en e σ) fun v σ1 => bnd (wrVar en i v σ1) fun σ2 => some (.next, σ2))
    (fun i _ e _ => bn2 (r.e en e σ) fun v σ1 => bnd (wrCell en i v σ1) fun σ2 => some (.next, σ2))
    (fun i _ j _ _ e _ => bn2 (r.e en e σ) fun v σ1 => asRef none v fun t => asTwo none (σ1.h.get t) fun a b => bnd (wrVar en i a σ1) fun σ2 => bnd (wrVar en j b σ2) fun σ3 => some (.next, σ3))
    (fun o i _ e _ => bn2 (r.e en e σ) fun v σ1 => bn2 (r.e en o σ1) fun vo σ2 => bn2 (r.e en i σ2) fun vi σ3 => bnd (setAV vo vi v σ3) fun σ4 => some (.next, σ4))
    (fun o i _ e _ => oif (decide (o = .BitXor)) (bnd (rdVar en i σ) fun v => asInt none v fun x => bn2 (r.e en e σ) fun w σ1 => asInt none w fun z => bnd (wrVar en i (.int (fold2 Builtin.bitXor .bxor x z)) σ1) fun σ2 => some (.next, σ2)))
    (fun e _ => bn2 (r.e en e σ) fun v σ1 => asNon none v (some (.next, σ1)))
    (fun e _ => bn2 (r.e en e σ) fun v σ1 => some (.ret v, σ1))
    (fun _ => some (.ret .none, σ))
    (fun t b o _ _ _ => bn2 (r.t en t σ) fun c σ1 => Bool.rec (motive := fun _ => Option (Out × St)) (r.ss en o σ1) (r.ss en b σ1) c)
    (fun c i _ it b o _ _ _ => bn2 (itOf r en it σ) fun t σ1 => r.lp en c i t b o σ1)
    (fun _ => some (.brk, σ))
    (fun k i _ => bn2 (defInn M en k σ) fun v σ1 => bnd (wrCell en i v σ1) fun σ2 => some (.next, σ2))
    (fun _ i rx er ho b _ _ => tryGen r en i rx er ho b σ)
    (fun _ => none)
    (none)
    (fun _ _ _ _ => none) y
noncomputable def stepSs (r : Ev) (en : AEnv) (y : Y) (σ : St) : Option (Out × St) := Y.rec (motive := fun _ => Option (Out × St))
    (fun _ _ _ _ => none)
    (fun _ _ _ _ => none)
    (fun _ _ _ _ _ _ _ => none)
    (fun _ _ _ _ _ => none)
    (fun _ _ _ _ _ => none)
    (fun _ _ => none)
    (fun _ _ => none)
    (fun _ => none)
    (fun _ _ _ _ _ _ => none)
    (fun _ _ _ _ _ _ _ _ _ => none)
    (fun _ => none)
    (fun _ _ _ => none)
    (fun _ _ _ _ _ _ _ _ => none)
    (fun _ => none)
    (some (.next, σ))
    (fun z zs _ _ => bn2 (r.s en z σ) fun o σ1 => Out.rec (motive := fun _ => Option (Out × St)) (r.ss en zs σ1) (some (.brk, σ1)) (fun v => some (.ret v, σ1)) o) y
noncomputable def stepL (r : Ev) (en : AEnv) (c : Bool) (i : Nat) (t : Itr) (b o : Y) (σ : St) : Option (Out × St) := bnd (nextOf t σ) fun q => Option.rec (motive := fun _ => Option (Out × St)) (r.ss en o σ)
  (fun p => bnd (wrTo en c i p.1 σ) fun σ1 => bn2 (r.ss en b σ1) fun out σ2 => Out.rec (motive := fun _ => Option (Out × St)) (r.lp en c i p.2 b o σ2) (some (.next, σ2)) (fun v => some (.ret v, σ2)) out) q
/-- one item more -/
noncomputable def compPut (r : Ev) (en : AEnv) (elt : X) (ti : Nat) (t : Itr) (cond : X) (acc : Nat) (σ : St) : Option St := bn2 (r.e en elt σ) fun u σ3 => bn2 (methAV K M .append (.ref acc) [u] σ3) fun _ σ4 => r.cl en elt ti t cond acc σ4
noncomputable def noX (x : X) : Bool := X.rec (motive := fun _ => Bool)
    (fun _ _ => false)
    (fun _ _ => false)
    (fun _ _ => false)
    (fun _ _ => false)
    (fun _ _ _ => false)
    (fun _ => false)
    (fun _ _ => false)
    (fun _ _ _ _ _ _ => false)
    (fun _ _ _ _ _ _ => false)
    (fun _ _ _ _ _ _ _ => false)
    (fun _ _ _ => false)
    (fun _ _ _ => false)
    (fun _ _ _ => false)
    (fun _ _ _ => false)
    (fun _ _ _ _ _ => false)
    (fun _ _ _ _ _ => false)
    (fun _ _ _ _ _ => false)
    (fun _ _ _ _ _ _ _ => false)
    (fun _ _ _ _ => false)
    (fun _ _ _ _ _ _ => false)
    (fun _ _ _ _ => false)
    (fun _ _ _ _ => false)
    (fun _ _ => false)
    (fun _ _ _ _ _ => false)
    (fun _ _ _ _ _ _ _ _ _ _ _ => false)
    (true)
    (fun _ _ _ _ => false) x
theorem noX_at {x : X} (h : noX x = true) : x = .nil := by
  cases x <;> first | rfl | cases h
noncomputable def asCond {α : Type} (z : α) (c : X) (f : α) (g : X → α) : α := X.rec (motive := fun _ => α)
    (fun _ _ => z)
    (fun _ _ => z)
    (fun _ _ => z)
    (fun _ _ => z)
    (fun _ _ _ => z)
    (fun _ => z)
    (fun _ _ => z)
    (fun _ _ _ _ _ _ => z)
    (fun _ _ _ _ _ _ => z)
    (fun _ _ _ _ _ _ _ => z)
    (fun _ _ _ => z)
    (fun _ _ _ => z)
    (fun _ _ _ => z)
    (fun _ _ _ => z)
    (fun _ _ _ _ _ => z)
    (fun _ _ _ _ _ => z)
    (fun _ _ _ _ _ => z)
    (fun _ _ _ _ _ _ _ => z)
    (fun _ _ _ _ => z)
    (fun _ _ _ _ _ _ => z)
    (fun _ _ _ _ => z)
    (fun _ _ _ _ => z)
    (fun _ _ => z)
    (fun _ _ _ _ _ => z)
    (fun _ _ _ _ _ _ _ _ _ _ _ => z)
    (f)
    (fun x xs _ _ => Bool.rec (motive := fun _ => α) z (g x) (noX xs)) c
theorem asCond_at {α : Type} {z r : α} (hz : z ≠ r) {c : X} {f : α} {g : X → α} (h : asCond z c f g = r) : (c = .nil ∧ f = r) ∨ ∃ x, c = .cons x .nil ∧ g x = r := by
  cases c with
  | nil => exact .inl ⟨rfl, h⟩
  | cons x xs =>
    have h : Bool.rec (motive := fun _ => α) z (g x) (noX xs) = r := h
    cases q : noX xs with
    | true => rw [q] at h; exact .inr ⟨x, by rw [noX_at q], h⟩
    | false => rw [q] at h; exact absurd h hz
  | _ => exact absurd h hz
noncomputable def stepC (r : Ev) (en : AEnv) (elt : X) (ti : Nat) (t : Itr) (cond : X) (acc : Nat) (σ : St) : Option St := bnd (nextOf t σ) fun q => Option.rec (motive := fun _ => Option St) (asFr none (σ.h.get en.fr) fun _ _ => some σ)
  (fun p => bnd (wrVar en ti p.1 σ) fun σ1 => asCond none cond (compPut K M r en elt ti p.2 cond acc σ1)
    fun x => bn2 (r.t en x σ1) fun b σ2 => Bool.rec (motive := fun _ => Option St) (r.cl en elt ti p.2 cond acc σ2) (compPut K M r en elt ti p.2 cond acc σ2) b) q
noncomputable def stepEv (r : Ev) : Ev := ⟨stepE K M P r, stepEs r, stepT K r, stepS M r, stepSs r, stepL r, stepC K M r⟩
noncomputable def noEv : Ev := ⟨fun _ _ _ => none, fun _ _ _ => none, fun _ _ _ => none, fun _ _ _ => none, fun _ _ _ => none, fun _ _ _ _ _ _ _ => none, fun _ _ _ _ _ _ _ => none⟩
noncomputable def ev (n : Nat) : Ev := Nat.rec (motive := fun _ => Ev) noEv (fun _ r => stepEv K M P r) n
end
end Mine

namespace Mine

noncomputable def kindEq : NameKind → NameKind → Bool
  | .local, .local => true | .cell, .cell => true | .free, .free => true | .globalExplicit, .globalExplicit => true | .globalImplicit, .globalImplicit => true
  | _, _ => false
theorem kindEq_iff {a b : NameKind} (h : kindEq a b = true) : a = b := by cases a <;> cases b <;> first | rfl | cases h
section
variable (M : Mod)
noncomputable def isL (f i : Nat) : Bool := match (M.sc f).names[i]? with
  | some (_, k) => kindEq k .local
  | none => false
noncomputable def isC (f i : Nat) : Bool := match (M.sc f).names[i]? with
  | some (_, k) => kindEq k .cell || kindEq k .free
  | none => false
noncomputable def isCell (f i : Nat) : Bool := match (M.sc f).names[i]? with
  | some (_, k) => kindEq k .cell
  | none => false
noncomputable def isG (f : Nat) (x : Str) : Bool := match (M.sc f).names.lookup x with
  | some k => kindEq k .globalImplicit
  | none => false
noncomputable def lenX : X → Nat
  | .nil => 0
  | .cons _ r => lenX r + 1
  | _ => 3
noncomputable def plainO : X → Bool
  | .call _ (.cons _ _) _ _ => true
  | .bfn _ (.cons _ _) _ _ => true
  | .rng (.cons _ _) _ _ => true
  | .call .. => false
  | .bfn .. => false
  | .rng .. => false
  | .ccall .. => false
  | _ => true
noncomputable def fewX (x : X) : Bool := Nat.ble (lenX x) 2
noncomputable def isX : X → Bool
  | .nil => false
  | .cons _ _ => false
  | _ => true
noncomputable def line (q p : Pos) : Bool := q.endLine == p.line
noncomputable def okCells (fc f : Nat) : List (Nat × Nat) → Bool
  | [] => true
  | p :: r => (match (M.sc fc).names[p.1]?, (M.sc f).names[p.2]? with
      | some (x, k), some (y, _) => kindEq k .free && eqS x y
      | _, _ => false) && okCells fc f r
noncomputable def plainScope (fc : Nat) (fm : List (Nat × Nat)) : Bool := (List.range (M.sc fc).names.length).all fun i => match (M.sc fc).names[i]? with
  | some (_, k) => match k with
    | .free => (lkN fm i).isSome
    | .cell => false
    | _ => true
  | none => true
noncomputable def chkX (f : Nat) : X → Bool
  | .var i _ => isL M f i
  | .cvar i _ => isC M f i
  | .gint i _ => isG M f (M.giNm i)
  | .gdict i _ => isG M f (M.gdNm i)
  | .num _ _ => true
  | .neg _ _ _ => true
  | .nun _ => true
  | .str _ _ => true
  | .bin _ a b _ => chkX f a && chkX f b
  | .cmp _ a b _ => chkX f a && chkX f b
  | .ifx t a b _ => chkX f t && chkX f a && chkX f b
  | .or xs _ => chkX f xs
  | .not a _ => chkX f a
  | .lst xs _ => chkX f xs
  | .tup xs _ => chkX f xs
  | .sub a i _ => chkX f a && chkX f i
  | .call k xs _ _ => isG M f (M.fnm k) && chkX f xs
  | .bfn b xs _ _ => isG M f b.nm && chkX f xs
  | .meth _ o xs q p => fewX xs && plainO o && isX o && line q p && chkX f o && chkX f xs
  | .listOf x _ _ => isG M f "list" && isX x && chkX f x
  | .listRev x _ _ _ _ => isG M f "list" && isG M f "reversed" && isX x && chkX f x
  | .rng xs _ _ => isG M f "range" && chkX f xs
  | .rev x _ _ => isG M f "reversed" && isX x && chkX f x
  | .ccall i xs _ _ => isC M f i && chkX f xs
  | .comp fc fm elt ti _ it cond _ => (M.fn fc).isNone && plainScope M fc fm && okCells M fc f fm && isX it && isX elt && isL M fc ti && chkX fc elt && chkX f it && chkX fc cond
  | .nil => true
  | .cons x xs => isX x && chkX f x && chkX f xs
noncomputable def noComp : X → Bool
  | .comp .. => false
  | _ => true
noncomputable def noTup : X → Bool
  | .tup .. => false
  | _ => true
noncomputable def chkY (f : Nat) : Y → Bool
  | .asn i _ e _ => isL M f i && isX e && noComp e && chkX M f e
  | .asnc i _ e _ => isCell M f i && isX e && chkX M f e
  | .asnt i _ j _ _ e _ => isL M f i && isL M f j && isX e && noComp e && noTup e && chkX M f e
  | .asns o i _ e _ => isX o && isX i && isX e && noComp e && chkX M f o && chkX M f i && chkX M f e
  | .aug _ i _ e _ => isL M f i && isX e && chkX M f e
  | .ex e _ => isX e && noComp e && chkX M f e
  | .ret e _ => isX e && chkX M f e
  | .ret0 _ => true
  | .ife t b o _ => isX t && chkX M f t && chkY f b && chkY f o
  | .for_ c i _ it b o _ => (match c with | true => isCell M f i | false => isL M f i) && isX it && chkX M f it && chkY f b && chkY f o
  | .brk _ => true
  | .defn k i p => isCell M f i && (match M.inn k with
    | some n => Nat.beq n.mkr f && okCells M k f n.fm && plainScope M k n.fm && Nat.beq p.line n.l && Nat.beq p.col n.c && eqS (M.fnm f ++ ".<locals>." ++ M.nm f i) n.q
    | none => false)
  | .tryg k i rx er ho b _ => (M.fn f).isSome && M.gn k && isL M f i && isX rx && isL M f er && isL M f ho && !(Nat.beq er ho) && isG M f (M.fnm k) && isG M f "ValueError" && isG M f "str" && chkX M f rx && chkY f b
  | .raw _ => true
  | .nil => true
  | .cons y ys => chkY f y && chkY f ys
end

structure AOk (A : Around) (d : Nat) : Prop where
  handled : A.handled = none
  depth : A.depth ≤ 500 + d
  units : A.units ≤ 500 + 10 * d
  d : d ≤ 41

noncomputable def Bif.id : Bif → String
  | .len => "len" | .sum => "sum" | .sorted => "sorted" | .max => "max" | .divmod => "divmod" | .hex => "hex"
/-- the generator def as it stands in the row -/
noncomputable def gArgs : Arguments := { posonlyargs := [], args := [{ arg := "grouping", annotation := none, pos := ⟨3, 24, 3, 32⟩ : PySem.Arg }], vararg := none, kwonlyargs := [], kw_defaults := [], kwarg := none, defaults := [] : PySem.Arguments }
noncomputable def gScope : Scope := { kind := .function, names := [("grouping", .local), ("last_interval", .local), ("interval", .local), ("CHAR_MAX", .globalImplicit), ("ValueError", .globalImplicit)], isGenerator := true, isCoroutine := false, more := [] }
noncomputable def gIf1 : Stmt := .If (.Compare (.Name "interval" ⟨6, 11, 6, 19⟩) [.Eq] [.Name "CHAR_MAX" ⟨6, 23, 6, 31⟩] ⟨6, 11, 6, 31⟩) [.Return none ⟨7, 12, 7, 18⟩] [] ⟨6, 8, 7, 18⟩
noncomputable def gRaise : Stmt := .If (.Compare (.Name "last_interval" ⟨9, 15, 9, 28⟩) [.Is] [.Constant .none 0 ⟨9, 32, 9, 36⟩] ⟨9, 15, 9, 36⟩)
  [.Raise (some (.Call (.Name "ValueError" ⟨10, 22, 10, 32⟩) [.Constant (.str "invalid grouping") 0 ⟨10, 33, 10, 51⟩] [] ⟨10, 22, 10, 52⟩)) none ⟨10, 16, 10, 52⟩] [] ⟨9, 12, 10, 52⟩
noncomputable def gYieldL : Stmt := .Expr (.Yield (some (.Name "last_interval" ⟨12, 22, 12, 35⟩)) ⟨12, 16, 12, 35⟩) ⟨12, 16, 12, 35⟩
noncomputable def gTrue : Expr := .Constant (.bool true) 0 ⟨11, 18, 11, 22⟩
noncomputable def gWhile : Stmt := .While gTrue [gYieldL] [] ⟨11, 12, 12, 35⟩
noncomputable def gTest2 : Expr := .Compare (.Name "interval" ⟨8, 11, 8, 19⟩) [.Eq] [.Constant (.int 0) 0 ⟨8, 23, 8, 24⟩] ⟨8, 11, 8, 24⟩
noncomputable def gIf2 : Stmt := .If gTest2 [gRaise, gWhile] [] ⟨8, 8, 12, 35⟩
noncomputable def gYieldI : Stmt := .Expr (.Yield (some (.Name "interval" ⟨13, 14, 13, 22⟩)) ⟨13, 8, 13, 22⟩) ⟨13, 8, 13, 22⟩
noncomputable def gLast : Stmt := .Assign [.Name "last_interval" ⟨14, 8, 14, 21⟩] (.Name "interval" ⟨14, 24, 14, 32⟩) ⟨14, 8, 14, 32⟩
noncomputable def gTarget : Expr := .Name "interval" ⟨5, 8, 5, 16⟩
noncomputable def gSuite : List Stmt := [gIf1, gIf2, gYieldI, gLast]
noncomputable def gFor : Stmt := .For gTarget (.Name "grouping" ⟨5, 20, 5, 28⟩) gSuite [] ⟨5, 4, 14, 32⟩
noncomputable def gFirst : Stmt := .Assign [.Name "last_interval" ⟨4, 4, 4, 17⟩] (.Constant .none 0 ⟨4, 20, 4, 24⟩) ⟨4, 4, 4, 24⟩
noncomputable def gBody : List Stmt := [gFirst, gFor]
structure GFn (C : WC) (nm : Str) : Prop where
  fn : ∃ a o fd, C.mg nm = some (.ref a) ∧ C.hb.get? a = some o ∧ a ∉ C.tabs ∧ o.data = .func fd ∧ ∃ pm cd doc, fd = docDef nm gArgs gBody gScope pm cd doc ∧
    (∃ c oc vs tq, cd = .ref c ∧ c ∉ C.tabs ∧ C.hb.get? c = some oc ∧ oc.data = .fields vs ∧ vs[1]? = some (.str nm tq))
  bind : ∀ v pm cd doc, bindArgs (docDef nm gArgs gBody gScope pm cd doc) ⟨[v], []⟩ = pure [(("grouping" : Str), v)]
  cm : ∃ t, C.mg "CHAR_MAX" = some (.int 127 t)
  ve : C.mg "ValueError" = none ∧ C.mb "ValueError" = some (.type "ValueError")
  st : C.mg "str" = none ∧ C.mb "str" = some (.type "str")
structure MOk (C : WC) (M : Mod) : Prop where
  nm : C.nm = M.nm
  cnt : ∀ f, C.cnt f = (M.sc f).names.length
  look : ∀ (f i : Nat) (x : Str) (k : NameKind), (M.sc f).names[i]? = some (x, k) → (M.sc f).names.lookup x = some k
  inj : ∀ (f i j : Nat) (x : Str) (k k' : NameKind), (M.sc f).names[i]? = some (x, k) → (M.sc f).names[j]? = some (x, k') → i = j
  dbg : ∀ (f i : Nat) (x : Str) (k : NameKind), (M.sc f).names[i]? = some (x, k) → (x == ("__debug__" : Str)) = false
  cls : ∀ (f i : Nat) (x : Str) (k : NameKind), (M.sc f).names[i]? = some (x, k) → (x == ("__classdict__" : Str)) = false
  kind : ∀ f, (M.sc f).kind = .function
  co : ∀ f, (M.sc f).isCoroutine = false
  gen : ∀ f, (M.sc f).isGenerator = false
  g : C.hb.Ns mainGlobals C.mg
  b : C.hb.Ns builtinsNs C.mb
  lim : C.hb.NoLimit
  tg : mainGlobals ∉ C.tabs ∧ builtinsNs ∉ C.tabs ∧ cStatics ∉ C.tabs
  gi : ∀ i x k, M.gi i = some (x, k) → ∃ t, C.mg x = some (.int k t)
  tal : ∀ b ∈ C.tabs, ∃ o, C.hb.get? b = some o ∧ IsD o
  bfs : ∀ b : Bif, C.mg b.nm = none ∧ C.mb b.nm = some (.builtin b.id)
  tys : (C.mg "list" = none ∧ C.mb "list" = some (.type "list")) ∧ (C.mg "range" = none ∧ C.mb "range" = some (.type "range")) ∧ (C.mg "reversed" = none ∧ C.mb "reversed" = some (.type "reversed"))
  gd : ∀ i x t, M.gd i = some (x, t) → C.mg x = some (.ref (C.ga i)) ∧
    ∀ h' : Heap, (∀ b o, C.hb.get? b = some o → b ∉ C.tabs → h'.get? b = some o) → IntTab C.prog C.w h' (C.ga i) (t.map fun p => (PyData.int p.1, PyData.str p.2))
  fn : ∀ k F, M.fn k = some F → ∃ a o fd, C.mg (M.fnm k) = some (.ref a) ∧ C.hb.get? a = some o ∧ a ∉ C.tabs ∧ o.data = .func fd ∧
    ∀ np nl cells body, F = .prog np nl cells body → ∃ pm cd doc, fd = docDef (M.fnm k) (M.par k) (toSs M k body) (M.sc k) pm cd doc ∧
      (∃ c oc vs tq, cd = .ref c ∧ c ∉ C.tabs ∧ C.hb.get? c = some oc ∧ oc.data = .fields vs ∧ vs[1]? = some (.str (M.fnm k) tq))
  pg : ∀ k np nl cells body, M.fn k = some (.prog np nl cells body) → chkY M k body = true ∧ np + nl = (M.sc k).names.length ∧ (∀ i, i < np → ∃ x kd, (M.sc k).names[i]? = some (x, kd) ∧ (kd = NameKind.local ∨ kd = NameKind.cell ∧ memN i cells = true)) ∧
    (∀ (vals : List Value) (pm cd doc : Value), vals.length = np → bindArgs (docDef (M.fnm k) (M.par k) (toSs M k body) (M.sc k) pm cd doc) ⟨vals, []⟩ = pure (((List.range np).map (M.nm k)).zip vals)) ∧
    (∀ (n j i : Nat), cells[j]? = some i → ∃ x, (M.sc k).names[i]? = some (x, NameKind.cell) ∧ (cellsFrom n (M.sc k).names []).lookup x = some (n + j))
  fo : ∀ k o cl b, C.fo k o cl b → ∃ n, M.inn k = some n ∧ ∃ nm doc pm ctv, o = fnMade nm n.q (M.par k) (M.body k) (M.sc k) cl doc pm (b) ctv
  fo' : ∀ k n, M.inn k = some n → ∀ nm doc pm ctv cl b, C.fo k (fnMade nm n.q (M.par k) (M.body k) (M.sc k) cl doc pm b ctv) cl b
  inn : ∀ k n, M.inn k = some n → (M.fn k).isNone = true ∧ (M.fn n.mkr).isSome = true ∧ chkY M k n.body = true ∧ M.body k = toSs M k n.body ∧ n.np + n.nl = (M.sc k).names.length ∧
    (∀ i, i < n.np → ∃ x, (M.sc k).names[i]? = some (x, NameKind.local)) ∧ (M.par k).defaults = [] ∧ (M.par k).kw_defaults = [] ∧ (∀ env, annTrees (M.par k) none env = []) ∧
    (∀ (nm : Str) (cl : List (Str × Addr)) (vals : List Value) (doc pm cdv ctv : Value), vals.length = n.np → bindArgs (fnX nm n.q (M.par k) (M.body k) (M.sc k) cl .none .none doc pm none cdv ctv) ⟨vals, []⟩ = pure (((List.range n.np).map (M.nm k)).zip vals)) ∧
    (∀ x ∈ (M.sc k).names, x.2 ≠ NameKind.cell) ∧ okCells M k n.mkr n.fm = true
  gn : ∀ k, M.gn k = true → GFn C (M.fnm k)
  made : ∀ k n, M.inn k = some n → ∃ P, C.ta[n.ti]? = some P ∧ P ≠ mainGlobals ∧ C.hb.BuiltinsAt C.mg P ∧
    ∀ a o fd, C.mg (M.fnm n.mkr) = some (.ref a) → C.hb.get? a = some o → o.data = .func fd → ∃ c, fd.code = .ref c ∧ CodeHd C.hb c P

/-- the frames that stand below are objects that hold dicts, ours or the ones that may change -/
noncomputable def Stk (C : WC) (S : List Addr) (A : Around) (s : Shared) : Prop :=
  ∃ l, A.frames = some l ∧ ∀ env ∈ l, env.scope.kind ≠ .module ∧ ∃ L o, env.frame = some L ∧ (L ∈ S ∨ L ∈ C.tabs) ∧ s.heap.get? L = some o ∧ IsD o
structure EnvOk (C : WC) (M : Mod) (env : Env) (en : AEnv) (S : List Addr) (A : Around) (s : Shared) : Prop where
  stk : Stk C S A s
  top : (M.fn en.f).isSome = true → ∃ outer, A.frames = some (env :: outer)
  kind : env.scope.kind = .function
  glob : env.globals = mainGlobals
  blt : env.builtins = builtinsNs
  fr : S[en.fr]? = some env.locals
  loc : ∀ (i : Nat) (x : Str), (M.sc en.f).names[i]? = some (x, NameKind.local) → env.kindOf x = some .local
  cll : ∀ (i : Nat) (x : Str), (M.sc en.f).names[i]? = some (x, NameKind.cell) → env.kindOf x = some .cell
  gl : ∀ x : Str, (M.sc en.f).names.lookup x = some .globalImplicit → env.kindOf x = some .globalImplicit
  cod : ∀ k n, M.inn k = some n → n.mkr = en.f → ∃ c P, env.code = .ref c ∧ C.ta[n.ti]? = some P ∧ CodeHd C.hb c P ∧ env.qual = M.fnm n.mkr ++ ".<locals>."
  cel : ∀ (i c : Nat), lkN en.cells i = some c → ∃ (x : Str) (k : NameKind) (a : Addr), (M.sc en.f).names[i]? = some (x, k) ∧ S[c]? = some a ∧ env.cells.lookup x = some a ∧ (env.kindOf x = some .cell ∨ env.kindOf x = some .free)
section
variable {C : WC} {M : Mod} {env : Env} {en : AEnv} {S S' : List Addr} {s s' : Shared} {σ : St} {A : Around}
theorem Stk.dct (T : Stk C S A s) (D : Dct s s') : Stk C S A s' :=
  let ⟨l, e, h⟩ := T; ⟨l, e, fun env he => let ⟨k, L, o, h1, h2, h3, h4⟩ := h env he; let ⟨o', e', d'⟩ := D L o h3 h4; ⟨k, L, o', h1, h2, e', d'⟩⟩
theorem Stk.mono (T : Stk C S A s) (N : List Addr) : Stk C (S ++ N) A s :=
  let ⟨l, e, h⟩ := T; ⟨l, e, fun env he => let ⟨k, L, o, h1, h2, h3⟩ := h env he; ⟨k, L, o, h1, h2.imp (List.mem_append_left _) id, h3⟩⟩
theorem Stk.grow (T : Stk C S A s) (G : Grow C S s S' s') : Stk C S' A s' := by
  obtain ⟨N, rfl, _⟩ := G.pre
  exact (T.dct G.dict).mono N
theorem Stk.deeper (T : Stk C S A s) {e : Env} {a : Addr} {o : Obj} (hk : e.scope.kind ≠ .module) (hf : e.frame = some a) (ha : a ∈ S) (ho : s.heap.get? a = some o) (hd : IsD o) (hf' : (A.deeper e).frames = A.frames.map (e :: ·) := by rfl) : Stk C S (A.deeper e) s := by
  obtain ⟨l, q, h⟩ := T
  refine ⟨e :: l, by rw [hf', q]; rfl, fun env he => ?_⟩
  rcases List.mem_cons.mp he with rfl | he
  · exact ⟨hk, a, o, hf, .inl ha, ho, hd⟩
  · exact h env he
theorem EnvOk.dct (H : EnvOk C M env en S A s) (D : Dct s s') : EnvOk C M env en S A s' := { H with stk := H.stk.dct D }
theorem EnvOk.grow (H : EnvOk C M env en S A s) (G : Grow C S s S' s') : EnvOk C M env en S' A s' :=
  ⟨H.stk.grow G, H.top, H.kind, H.glob, H.blt, G.at H.fr, H.loc, H.cll, H.gl, H.cod, fun i c e => let ⟨x, k, a, h1, h2, h3⟩ := H.cel i c e; ⟨x, k, a, h1, G.at h2, h3⟩⟩
theorem Rel.ns (R : Rel C σ S s) {a : Addr} {m : Str → Option Value} (h : C.hb.Ns a m) (ht : a ∉ C.tabs) : s.heap.Ns a m :=
  let ⟨o, es, ep, ho, r⟩ := h; ⟨o, es, ep, R.keep a o ho ht, r⟩
theorem Rel.lim (R : Rel C σ S s) (O : MOk C M) : s.heap.NoLimit := let ⟨mc, h, q⟩ := O.lim; ⟨mc, R.ns h O.tg.2.2, q⟩
theorem isL_at {f i : Nat} (h : isL M f i = true) : ∃ x, (M.sc f).names[i]? = some (x, .local) := by
  unfold isL at h
  split at h
  · rename_i x k e; exact ⟨x, by rw [e, kindEq_iff h]⟩
  · cases h
theorem isCell_at {f i : Nat} {x : Str} {k : NameKind} (h : isCell M f i = true) (e : (M.sc f).names[i]? = some (x, k)) : (M.sc f).names[i]? = some (x, .cell) := by
  unfold isCell at h
  rw [e] at h
  rw [e, kindEq_iff h]
theorem isG_at {f : Nat} {x : Str} (h : isG M f x = true) : (M.sc f).names.lookup x = some .globalImplicit := by
  unfold isG at h
  split at h
  · rename_i k e; rw [e, kindEq_iff h]
  · cases h
theorem nm_at {f i : Nat} {x : Str} {k : NameKind} (h : (M.sc f).names[i]? = some (x, k)) : M.nm f i = x := by
  unfold Mod.nm; rw [h]; rfl
theorem lookup_mem {α : Type} : ∀ {l : List (Str × α)} {x : Str} {k : α}, l.lookup x = some k → ∃ i : Nat, l[i]? = some (x, k)
  | p :: r, x, k, h => by
    rw [List.lookup_cons] at h
    cases q : x == p.1 with
    | true =>
      rw [q] at h
      cases h
      exact ⟨0, by rw [beq_iff_eq.mp q]; rfl⟩
    | false =>
      rw [q] at h
      obtain ⟨i, hi⟩ := lookup_mem h
      exact ⟨i + 1, by simpa using hi⟩
  | [], _, _, h => by cases h
theorem dbg_of (O : MOk C M) {f : Nat} {x : Str} {k : NameKind} (h : (M.sc f).names.lookup x = some k) : (x == ("__debug__" : Str)) = false := by
  obtain ⟨i, hi⟩ := lookup_mem h
  exact O.dbg f i x k hi
section
variable {E : Value → Shared → Prop} {Q : Value → Shared → Prop} {p : Pos}
theorem ev_var (O : MOk C M) (H : EnvOk C M env en S A s) (R : Rel C σ S s) {i : Nat} {v : AV} (hc : isL M en.f i = true) (h : rdVar en i σ = some v) (hq : ∀ u, RV C S v u → Q u s) :
    wpAny (model C.prog C.w) A (eval (.Name (M.nm en.f i) p) env) Q E s := by
  obtain ⟨x, hx⟩ := isL_at hc
  rw [nm_at hx]
  obtain ⟨ls, hf, hn⟩ := rdVar_at h
  obtain ⟨a, ha, hro⟩ := R.objs _ _ hf
  have : a = env.locals := by have := H.fr; rw [ha] at this; exact Option.some.inj this
  subst this
  obtain ⟨hcnt, m, hm, hl⟩ := hro
  obtain ⟨u, hu, hr⟩ := hl i _ hn
  rw [O.nm, nm_at hx] at hu
  exact wpAny_Name (wpAny_loadName_local H.kind (H.loc i x hx) hm hu (hq u hr)) (O.dbg _ _ _ _ hx)
theorem ev_cvar (O : MOk C M) (H : EnvOk C M env en S A s) (R : Rel C σ S s) {i : Nat} {v : AV} (h : rdCell en i σ = some v) (hq : ∀ u, RV C S v u → Q u s) :
    wpAny (model C.prog C.w) A (eval (.Name (M.nm en.f i) p) env) Q E s := by
  obtain ⟨c, hcl, hv⟩ := rdCell_at h
  obtain ⟨x, k, a, hx, ha, hl, hk⟩ := H.cel i c hcl
  rw [nm_at hx]
  obtain ⟨a', ha', hro⟩ := R.objs _ _ hv
  have : a' = a := by rw [ha] at ha'; exact (Option.some.inj ha').symm
  subst this
  obtain ⟨o, ho, u, hu, hr⟩ := hro
  subst hu
  rcases hk with hk | hk
  · exact wpAny_Name (wpAny_loadName_cell H.kind hk hl ho (hq u hr)) (O.dbg _ _ _ _ hx)
  · exact wpAny_Name (wpAny_loadName_free H.kind hk hl ho (hq u hr) (O.cls _ _ _ _ hx)) (O.dbg _ _ _ _ hx)
theorem ev_glob (O : MOk C M) (H : EnvOk C M env en S A s) (R : Rel C σ S s) {x : Str} {v : Value} (hc : isG M en.f x = true) (hv : C.mg x = some v) (hq : Q v s) :
    wpAny (model C.prog C.w) A (eval (.Name x p) env) Q E s := by
  have hx := isG_at hc
  refine Name_function_global H.kind (H.gl x hx) (loadGlobal_global (mg := C.mg) ?_ hv hq) (dbg_of O hx)
  rw [H.glob]; exact R.ns O.g O.tg.1
theorem ev_blt (O : MOk C M) (H : EnvOk C M env en S A s) (R : Rel C σ S s) {x : Str} {v : Value} (hc : isG M en.f x = true) (hn : C.mg x = none) (hv : C.mb x = some v) (hq : Q v s) :
    wpAny (model C.prog C.w) A (eval (.Name x p) env) Q E s := by
  have hx := isG_at hc
  refine Name_function_global H.kind (H.gl x hx) (loadGlobal_builtin (mg := C.mg) (mb := C.mb) ?_ hn ?_ hv hq) (dbg_of O hx)
  · rw [H.glob]; exact R.ns O.g O.tg.1
  · rw [H.blt]; exact R.ns O.b O.tg.2.1
/-- a store into a local name -/
theorem st_var (O : MOk C M) (H : EnvOk C M env en S A s) (R : Rel C σ S s) {i : Nat} {v : AV} {u : Value} {σ' : St} {Q : Unit → Shared → Prop} (hc : isL M en.f i = true) (h : wrVar en i v σ = some σ') (hv : RV C S v u)
    (hq : ∀ s', Rel C σ' S s' → Grow C S s S s' → Q () s') : wpAny (model C.prog C.w) A (storeName env (M.nm en.f i) u) Q E s := by
  obtain ⟨x, hx⟩ := isL_at hc
  rw [nm_at hx]
  obtain ⟨hb, ls, hf, hlt, rfl⟩ := wrVar_at h
  obtain ⟨a, ha, hro⟩ := R.objs _ _ hf
  have : a = env.locals := by have := H.fr; rw [ha] at this; exact Option.some.inj this
  subst this
  obtain ⟨hcnt, m, hm, hl⟩ := hro
  refine wpAny_storeName_local (H.loc i x hx) hm (fun h' hn hs => ?_) (by rw [H.kind]; rfl)
  have key : RO C S h' env.locals (.frame en.f (ls.set i (some v))) := by
    refine ⟨by rw [List.length_set]; exact hcnt, _, hn, fun j y hj => ?_⟩
    by_cases hji : j = i
    · subst hji
      rw [List.getElem?_set_self hlt] at hj
      cases hj
      rw [O.nm, nm_at hx, if_pos rfl]
      exact ⟨u, rfl, hv⟩
    · rw [List.getElem?_set_ne (Ne.symm hji)] at hj
      have hjl : j < ls.length := (List.getElem?_eq_some_iff.mp hj).1
      have hjc : j < (M.sc en.f).names.length := Nat.lt_of_lt_of_le hjl (O.cnt en.f ▸ hcnt)
      have hjn : (M.sc en.f).names[j]? = some ((M.sc en.f).names[j].1, (M.sc en.f).names[j].2) := by rw [List.getElem?_eq_getElem hjc]
      have hne : C.nm en.f j ≠ x := by
        rw [O.nm, nm_at hjn]
        intro e
        rw [e] at hjn
        exact hji (O.inj _ _ _ _ _ _ hjn hx)
      rw [if_neg hne]
      exact hl j y hj
  obtain ⟨R', G'⟩ := R.upd (t' := s.toks + 1) H.fr hf rfl hb hs key
  exact hq _ R' G'
theorem st_cell (H : EnvOk C M env en S A s) (R : Rel C σ S s) {i : Nat} {v : AV} {u : Value} {σ' : St} {Q : Unit → Shared → Prop} (hc : isCell M en.f i = true) (h : wrCell en i v σ = some σ') (hv : RV C S v u)
    (hq : ∀ s', Rel C σ' S s' → Grow C S s S s' → Q () s') : wpAny (model C.prog C.w) A (storeName env (M.nm en.f i) u) Q E s := by
  obtain ⟨c, v', hcl, hb, hv', rfl⟩ := wrCell_at h
  obtain ⟨x, k, a, hx, ha, hl, hk⟩ := H.cel i c hcl
  rw [nm_at hx]
  obtain ⟨a', ha', hro⟩ := R.objs _ _ hv'
  have : a' = a := by rw [ha] at ha'; exact (Option.some.inj ha').symm
  subst this
  obtain ⟨o, ho, hr⟩ := hro
  refine wpAny_storeName_cell H.kind (H.cll i x (isCell_at hc hx)) hl ho fun h' hn hs => ?_
  obtain ⟨R', G'⟩ := R.upd (t' := s.toks) ha hv' rfl hb (ao := .cell (some v)) hs ⟨_, hn, ⟨u, rfl, hv⟩⟩
  exact hq _ R' G'
end
end
end Mine

namespace Mine
section
variable {C : WC} {M : Mod} {env : Env} {en : AEnv} {S S' : List Addr} {s s' : Shared} {σ σ' : St} {K : Facts} {A : Around} {E : Value → Shared → Prop} {Q : Value → Shared → Prop}

theorem sizeLine_big {n : Nat} (h : n ≤ 10000) : n ≤ sizeLine := Nat.le_trans h (by decide)
/-- a new tracked object -/
theorem mk_sound (R : Rel C σ S s) {ao : AObj} {av : AV} (h : mk σ ao = some (av, σ')) {o : Obj} (hf : o.isFreed = false) (H : RO C (S ++ [s.heap.objs.size]) (s.heap.push o) s.heap.objs.size ao) (t : Nat) :
    Rel C σ' (S ++ [s.heap.objs.size]) { s with heap := s.heap.push o, toks := t } ∧ Grow C S s (S ++ [s.heap.objs.size]) { s with heap := s.heap.push o, toks := t } ∧ RV C (S ++ [s.heap.objs.size]) av (.ref s.heap.objs.size) := by
  obtain ⟨hb, rfl, rfl⟩ := mk_at h
  exact R.alloc hb (fun _ _ e => Heap.get?_push_of_some o e) (get_size _) H
theorem mkList_sound (R : Rel C σ S s) {xs : List AV} {vs : List Value} {av : AV} (h : mkList σ xs = some (av, σ')) (hv : RVs C S xs vs) (t : Nat) :
    Rel C σ' (S ++ [s.heap.objs.size]) { s with heap := s.heap.push { cls := .type "list", data := .seq vs.toArray }, toks := t } ∧
    Grow C S s (S ++ [s.heap.objs.size]) { s with heap := s.heap.push { cls := .type "list", data := .seq vs.toArray }, toks := t } ∧ RV C (S ++ [s.heap.objs.size]) av (.ref s.heap.objs.size) ∧ vs.length ≤ 1000 := by
  obtain ⟨hb, h⟩ := oif_at h
  obtain ⟨a, b, c⟩ := mk_sound R h (o := { cls := .type "list", data := .seq vs.toArray }) rfl ⟨vs.toArray, 0, Heap.get?_push_size _ rfl, hv.mono _⟩ t
  exact ⟨a, b, c, by rw [hv.length]; exact fewer_le hb⟩
theorem listAt_sound (R : Rel C σ S s) {i : Nat} {xs : List AV} (h : listAt σ i = some xs) {v : Value} (hv : RV C S (.ref i) v) :
    ∃ (a : Addr) (vs : List Value) (n : Nat), v = .ref a ∧ S[i]? = some a ∧ IsL s.heap a vs.toArray n ∧ RVs C S xs vs := by
  obtain ⟨a, ha, vs, n, hl, hr⟩ := R.objs _ _ (listAt_at h)
  obtain ⟨b, hb, rfl⟩ := hv
  have : a = b := by rw [ha] at hb; exact Option.some.inj hb
  subst this
  exact ⟨a, vs.toList, n, rfl, ha, by simpa using hl, hr⟩
theorem consts_sound {xs : List AV} : ∀ {ks : List Int} {vs : List Value}, consts xs = some ks → RVs C S xs vs → IntsAre vs ks := by
  induction xs with
  | nil => intro ks vs h hv; cases h; rw [show vs = [] from hv]; exact .nil
  | cons x r ih =>
    intro ks vs h hv
    obtain ⟨v, vr, rfl, hx, hr⟩ := hv
    replace h := asZ_at ns h
    obtain ⟨k, rfl, h⟩ := h
    obtain ⟨l, hl, h⟩ := bnd_at h
    cases h
    obtain ⟨t, rfl⟩ := hx
    exact .cons k t (ih hl hr)
theorem strsOf_sound {xs : List AV} : ∀ {ks : List Str} {vs : List Value}, strsOf xs = some ks → RVs C S xs vs → StrsAre vs ks := by
  induction xs with
  | nil => intro ks vs h hv; cases h; rw [show vs = [] from hv]; exact .nil
  | cons x r ih =>
    intro ks vs h hv
    obtain ⟨v, vr, rfl, hx, hr⟩ := hv
    replace h := asStr_at ns h
    obtain ⟨k, rfl, h⟩ := h
    obtain ⟨l, hl, h⟩ := bnd_at h
    cases h
    obtain ⟨t, rfl⟩ := hx
    exact .cons k t (ih hl hr)
theorem rvs_consts : ∀ {ks : List Int} {vs : List Value}, IntsAre vs ks → RVs C S (ks.map fun k => .int (.c k)) vs
  | _, _, .nil => rfl
  | _, _, .cons k t h => ⟨_, _, rfl, ⟨t, rfl⟩, rvs_consts h⟩
theorem rvs_strs : ∀ {ks : List Str} {vs : List Value}, StrsAre vs ks → RVs C S (ks.map AV.str) vs
  | _, _, .nil => rfl
  | _, _, .cons k t h => ⟨_, _, rfl, ⟨t, rfl⟩, rvs_strs h⟩
theorem eqN_iff (a : List Nat) : ∀ b : List Nat, eqN a b = (a == b) := by
  induction a with
  | nil => intro b; cases b <;> rfl
  | cons x r ih =>
    intro b
    cases b with
    | nil => rfl
    | cons y t =>
      show Bool.rec (motive := fun _ => Bool) false (eqN r t) (Nat.beq x y) = _
      cases h : Nat.beq x y with
      | true => rw [show Bool.rec (motive := fun _ => Bool) false (eqN r t) true = eqN r t from rfl, ih]; simp [Nat.eq_of_beq_eq_true h]
      | false => simp [Nat.ne_of_beq_eq_false h]
theorem eqS_iff (a b : Str) : eqS a b = (a == b) := by
  unfold eqS
  rw [eqN_iff]
  by_cases h : a = b
  · subst h; simp
  · have h1 : (a == b) = false := by simpa using h
    rw [h1]
    have : ¬ (a.cps.toList = b.cps.toList) := by
      intro e
      apply h
      cases a; cases b
      simp only [Str.mk.injEq]
      exact Array.toList_inj.mp e
    simpa using this
theorem memI_any (k : Int) (l : List Int) : memI k l = l.any (· == k) := by
  induction l with
  | nil => rfl
  | cons a r ih =>
    show Bool.rec (motive := fun _ => Bool) (memI k r) true (beqZ a k) = _
    rw [beqZ_eq, ih]
    cases h : a == k <;> simp [h]
theorem memS_any (k : Str) (l : List Str) : memS k l = l.any (· == k) := by
  induction l with
  | nil => rfl
  | cons a r ih =>
    show Bool.rec (motive := fun _ => Bool) (memS k r) true (eqS a k) = _
    rw [eqS_iff, ih]
    cases h : a == k <;> simp [h]
theorem eqIs_iff (a : List Int) : ∀ b : List Int, eqIs a b = decide (a = b) := by
  induction a with
  | nil => intro b; cases b <;> rfl
  | cons x r ih =>
    intro b
    cases b with
    | nil => rfl
    | cons y t =>
      show Bool.rec (motive := fun _ => Bool) false (eqIs r t) (beqZ x y) = _
      rw [beqZ_eq, ih]
      cases h : x == y with
      | true => simp [beq_iff_eq.mp h]
      | false => have : x ≠ y := by simpa using h
                 simp [this]
theorem eqSs_iff (a : List Str) : ∀ b : List Str, eqSs a b = decide (a = b) := by
  induction a with
  | nil => intro b; cases b <;> rfl
  | cons x r ih =>
    intro b
    cases b with
    | nil => rfl
    | cons y t =>
      show Bool.rec (motive := fun _ => Bool) false (eqSs r t) (eqS x y) = _
      rw [eqS_iff, ih]
      cases h : x == y with
      | true => simp [beq_iff_eq.mp h]
      | false => have : x ≠ y := by simpa using h
                 simp [this]
theorem cmpI_sound {ι : Nat → Int} (H : K.Ok ι) {o : CmpOp} {x y : IE} {b : Bool} (h : cmpI K o x y = some b) : cmpZ o (x.val ι) (y.val ι) = some b := by
  unfold cmpI at h
  split at h
  · exact h
  · exact lookB_sound H.fb h
theorem cmp_ints {o : CmpOp} {a b : Int} {t u : Tok} {r : Bool} (h : cmpZ o a b = some r) (hq : Q (.bool r) s) : wpAny (model C.prog C.w) A (compareOp o (.int a t) (.int b u)) Q E s := by
  cases o with
  | Eq => cases h; exact PyProof.Rows.eq_int hq
  | NotEq => cases h; exact PyProof.Rows.ne_int hq
  | Lt => cases h; exact PyProof.Rows.lt_int hq
  | LtE => cases h; exact P.le_int hq
  | Gt => cases h; exact PyProof.Rows.gt_int hq
  | GtE => cases h; exact P.ge_int hq
  | _ => cases h
theorem eq_strs {a b : Addr} {xs ys : List Str} {vs us : List Value} {n m : Nat} (ha : IsL s.heap a vs.toArray n) (hb : IsL s.heap b us.toArray m) (hx : StrsAre vs xs) (hy : StrsAre us ys) (hu : A.units < cLine)
    (h : Q (.bool (decide (xs = ys))) s) : wpAny (model C.prog C.w) A (compareOp .Eq (.ref a) (.ref b)) Q E s := by
  have len : ∀ {vs : List Value} {xs : List Str}, StrsAre vs xs → vs.length = xs.length := by
    intro vs xs h
    induction h with
    | nil => rfl
    | cons _ _ _ ih => simp [ih]
  have hit : ∀ {vs : List Value} {xs : List Str}, StrsAre vs xs → ∀ j (h : j < vs.length) (h' : j < xs.length), ∃ t, vs[j] = .str xs[j] t := by
    intro vs xs h
    induction h with
    | nil => intro j h; cases h
    | cons y t _ ih =>
      intro j h h'
      cases j with
      | zero => exact ⟨t, rfl⟩
      | succ j => exact ih j (by simpa using h) (by simpa using h')
  have l1 := len hx
  have l2 := len hy
  by_cases hs : vs.length = us.length
  · refine P.eq_list (e := fun j => (xs.getD j Str.empty) == (ys.getD j Str.empty)) ha hb (by simpa using hs) (fun j h1 h2 => ?_) hu ?_
    · obtain ⟨t, e1⟩ := hit hx j (by simpa using h1) (by rw [← l1]; simpa using h1)
      obtain ⟨u, e2⟩ := hit hy j (by simpa using h2) (by rw [← l2]; simpa using h2)
      have q1 : xs.getD j Str.empty = xs[j]'(by rw [← l1]; simpa using h1) := by
        rw [List.getD_eq_getElem?_getD, List.getElem?_eq_getElem (by rw [← l1]; simpa using h1)]; rfl
      have q2 : ys.getD j Str.empty = ys[j]'(by rw [← l2]; simpa using h2) := by
        rw [List.getD_eq_getElem?_getD, List.getElem?_eq_getElem (by rw [← l2]; simpa using h2)]; rfl
      rw [q1, q2]
      have e1' : vs.toArray[j] = Value.str (xs[j]'(by rw [← l1]; simpa using h1)) t := by simpa using e1
      have e2' : us.toArray[j] = Value.str (ys[j]'(by rw [← l2]; simpa using h2)) u := by simpa using e2
      rw [e1', e2']
      exact eqGives_str _ _ _ _
    · have : (List.range vs.toArray.size).all (fun j => (xs.getD j Str.empty) == (ys.getD j Str.empty)) = decide (xs = ys) := by
        rw [Bool.eq_iff_iff]
        simp only [List.all_eq_true, List.mem_range, beq_iff_eq, decide_eq_true_eq]
        constructor
        · intro H
          apply List.ext_getElem (by omega)
          intro j h1 h2
          have := H j (by simp; omega)
          rw [List.getD_eq_getElem?_getD, List.getElem?_eq_getElem h1, List.getD_eq_getElem?_getD, List.getElem?_eq_getElem h2] at this
          exact this
        · rintro rfl j _; rfl
      rw [this]; exact h
  · refine P.eq_list_lengths ha hb (by simpa using hs) hu ?_
    have : ¬ (xs = ys) := by rintro rfl; exact hs (l1.trans l2.symm)
    simpa [this] using h

theorem mulList' {a : Addr} {items : Array Value} {k : Nat} {x : Int} {u : Tok} (hl : IsL s.heap a items k) (h1 : Builtin.List.listFitsIndex x = true)
    (h2 : ¬ items.size * x.toNat > (2 ^ 63 - 1) / 8) (h3 : Builtin.List.listTooLong (items.size * x.toNat) = false)
    (h : Q (.ref s.heap.objs.size) { s with heap := s.heap.push { cls := .type "list", data := .seq (List.foldl (fun x1 x2 => x1 ++ x2) #[] (List.replicate (if items.isEmpty = true then 0 else x.toNat) items)) } }) :
    wpAny (model C.prog C.w) A (binaryOp .Mult (.ref a) (.int x u)) Q E s :=
  wpAny_binaryOp_repeat_ref (T := "list") (U := "int") (by decide) ⟨_, hl, rfl⟩ (fun s' => typeIs_int s' x u) noFill_list_mul F.fills_int_mul F.slot_int_rmul repeat_list F.slot_int_index.lookup
    (call_meets F.slot_int_rmul (typeIs_int s x u) F.entry_int_rmul (F.args_int_rmul_2 _ _) (int___rmul___int_list x u a items k)
      ⟨hl, rfl, ⟨_, hl, rfl⟩, call_meets F.slot_list_mul ⟨_, hl, rfl⟩ F.entry_list_mul (F.args_list_mul_2 _ _)
        (AutoListH.list___mul___list_int_3 a items k x u (by rw [h1]; exact Bool.false_ne_true) h2 (by rw [h3]; exact Bool.false_ne_true))
        ⟨hl, h⟩⟩)
theorem mulList {a : Addr} {items : Array Value} {k n : Nat} {u : Tok} (hl : IsL s.heap a items k) (hn : n ≤ 1000) (hs : items.size ≤ 1000)
    (h : Q (.ref s.heap.objs.size) { s with heap := s.heap.push { cls := .type "list", data := .seq (List.foldl (fun x1 x2 => x1 ++ x2) #[] (List.replicate (if items.isEmpty = true then 0 else (n : Int).toNat) items)) } }) :
    wpAny (model C.prog C.w) A (binaryOp .Mult (.ref a) (.int (n : Int) u)) Q E s := by
  have hp : items.size * (n : Int).toNat ≤ 1000000 := by
    rw [Int.toNat_natCast]
    exact Nat.le_trans (Nat.mul_le_mul hs hn) (by decide)
  refine mulList' hl ?_ (by omega) ?_ h
  · unfold Builtin.List.listFitsIndex
    rw [Bool.and_eq_true]
    exact ⟨decide_eq_true (by omega), decide_eq_true (by omega)⟩
  · unfold Builtin.List.listTooLong
    refine decide_eq_false ?_
    have : sizeLine = 16777216 := by decide
    omega
theorem binAV_sound (HK : K.Ok C.ι) (R : Rel C σ S s) {o : Operator} {a b av : AV} {va vb : Value} (h : binAV K o a b σ = some (av, σ')) (ha : RV C S a va) (hb : RV C S b vb)
    (hq : ∀ S' s' v, Rel C σ' S' s' → Grow C S s S' s' → RV C S' av v → Q v s') : wpAny (model C.prog C.w) A (binaryOp o va vb) Q E s := by
  cases a with
  | int x =>
    replace h := asInt_at ns h
    obtain ⟨y, rfl, h⟩ := h
    replace h := bnd_at h
    obtain ⟨z, hz, h⟩ := h
    cases h
    obtain ⟨t, rfl⟩ := ha
    obtain ⟨u, rfl⟩ := hb
    exact intOp_sound HK hz (hq _ _ _ R.tok.1 R.tok.2 ⟨_, rfl⟩)
  | ref i =>
    replace h := bnd_at h
    obtain ⟨xs, hx, h⟩ := h
    obtain ⟨a, vs, n, rfl, ha', hl, hv⟩ := listAt_sound R hx ha
    cases b with
    | ref j =>
      replace h := oifD_at h
      obtain ⟨rfl, h⟩ := h
      replace h := bnd_at h
      obtain ⟨ys, hy, h⟩ := h
      obtain ⟨b, us, m, rfl, hb', hl', hv'⟩ := listAt_sound R hy hb
      rw [addN_eq] at h
      obtain ⟨R', G', V', hlen⟩ := mkList_sound R h (hv.append hv') s.toks
      refine P.add_list hl hl' ?_ ?_
      · have e : vs.toArray ++ us.toArray = (vs ++ us).toArray := by simp
        rw [e]
        exact hq _ _ _ R' G' V'
      · have : vs.toArray.size + us.toArray.size = (vs ++ us).length := by simp
        rw [this]; exact sizeLine_big (by omega)
    | int y =>
      replace h := oifD_at h
      obtain ⟨rfl, h⟩ := h
      replace h := asC_at ns h
      obtain ⟨k, rfl, h⟩ := h
      replace h := asN_at ns h
      obtain ⟨n, rfl, h⟩ := h
      replace h := oif_at h
      obtain ⟨hn, h⟩ := h
      replace h := oif_at h
      obtain ⟨hf, h⟩ := h
      obtain ⟨u, rfl⟩ := hb
      have hn' : n ≤ 1000 := Nat.le_of_ble_eq_true hn
      have hf' := fewer_le hf
      have hvl := hv.length
      have rep_rv : ∀ n, RVs C S (rep n xs) (List.replicate n vs).flatten := by
        intro n
        induction n with
        | zero => exact rfl
        | succ n ih => rw [List.replicate_succ, List.flatten_cons]; exact hv.append ih
      obtain ⟨R', G', V', hlen⟩ := mkList_sound R h (rep_rv n) s.toks
      show wpAny _ A (binaryOp .Mult (.ref a) (.int (n : Int) u)) Q E s
      refine mulList hl hn' (by simp; omega) ?_
      have e : (List.foldl (fun x1 x2 => x1 ++ x2) #[] (List.replicate (if vs.toArray.isEmpty = true then 0 else (n : Int).toNat) vs.toArray)) = ((List.replicate n vs).flatten).toArray := by
        apply Array.ext'
        have fl : ∀ (l : List (Array Value)) (acc : Array Value), (List.foldl (fun x1 x2 => x1 ++ x2) acc l).toList = acc.toList ++ (l.map Array.toList).flatten := by
          intro l
          induction l with
          | nil => intro acc; simp
          | cons x r ih => intro acc; rw [List.foldl_cons, ih]; simp
        rw [fl]
        cases vs with
        | nil =>
          have : (List.replicate n ([] : List Value)).flatten = [] := by
            induction n with
            | zero => rfl
            | succ n ih => simp
          simp
        | cons v r => simp
      rw [e]
      exact hq _ _ _ R' G' V'
    | _ => cases h
  | _ => cases h
end
end Mine

namespace Mine
section
variable {C : WC} {M : Mod} {env : Env} {en : AEnv} {S S' : List Addr} {s s' : Shared} {σ σ' : St} {K : Facts} {A : Around} {E : Value → Shared → Prop} {Q : Value → Shared → Prop}

theorem isList_of {h : Heap} {a : Addr} {items : Array Value} {n : Nat} (hl : IsL h a items n) : h.IsList a items := ⟨_, hl, rfl, _, rfl⟩
theorem sameIE_sound (xs : List AV) : ∀ {ys : List AV} {vs us : List Value}, sameIE xs ys = true → RVs C S xs vs → RVs C S ys us → ∃ ks, IntsAre vs ks ∧ IntsAre us ks := by
  induction xs with
  | nil =>
    intro ys vs us h h1 h2
    replace h := l0_at Bool.false_ne_true h
    obtain ⟨rfl, _⟩ := h
    exact ⟨[], by rw [show vs = [] from h1]; exact .nil, by rw [show us = [] from h2]; exact .nil⟩
  | cons x r ih =>
    intro ys vs us h h1 h2
    cases ys with
    | nil => cases h
    | cons y s =>
      replace h := asInt_at Bool.false_ne_true h
      obtain ⟨a, rfl, h⟩ := h
      replace h := asInt_at Bool.false_ne_true h
      obtain ⟨b, rfl, h⟩ := h
      replace h := Bool.and_eq_true_iff.mp h
      obtain ⟨hb, h⟩ := h
      cases IE.beq_sound hb
      obtain ⟨v, vr, rfl, ⟨t, rfl⟩, hr⟩ := h1
      obtain ⟨u, ur, rfl, ⟨t', rfl⟩, hr'⟩ := h2
      obtain ⟨ks, k1, k2⟩ := ih h hr hr'
      exact ⟨_ :: ks, .cons _ _ k1, .cons _ _ k2⟩
theorem cmpRef_sound (R : Rel C σ S s) {o : CmpOp} {xs ys : List AV} {i j : Nat} {va vb : Value} {c : Bool} (hx : listAt σ i = some xs) (hy : listAt σ j = some ys)
    (ha : RV C S (.ref i) va) (hb : RV C S (.ref j) vb) (h : cmpRef o xs ys = some c) (hu : A.units + 64 < cLine) (hq : Q (.bool c) s) : wpAny (model C.prog C.w) A (compareOp o va vb) Q E s := by
  obtain ⟨a, vs, n, rfl, ha', hl, hv⟩ := listAt_sound R hx ha
  obtain ⟨b, us, m, rfl, hb', hl', hv'⟩ := listAt_sound R hy hb
  unfold cmpRef at h
  cases ho : decide (o = .Eq) with
  | true =>
    cases of_decide_eq_true ho
    rw [ho] at h
    have h : eqLs xs ys = some c := h
    unfold eqLs at h
    cases hs : sameIE xs ys with
    | true =>
      rw [hs] at h
      have h : some true = some c := h
      cases h
      obtain ⟨ks, k1, k2⟩ := sameIE_sound xs hs hv hv'
      refine PySem.W.ke_eq_ints (isList_of hl) (isList_of hl') k1 k2 hu ?_
      simpa using hq
    | false =>
      rw [hs] at h
      cases hp : consts xs with
      | some p =>
        rw [hp] at h
        obtain ⟨q, hq', h⟩ := bnd_at (show bnd (consts ys) _ = some c from h)
        cases h
        refine PySem.W.ke_eq_ints (isList_of hl) (isList_of hl') (consts_sound hp hv) (consts_sound hq' hv') hu ?_
        rw [← eqIs_iff]; exact hq
      | none =>
        rw [hp] at h
        obtain ⟨p, hp, h⟩ := bnd_at (show bnd (strsOf xs) _ = some c from h)
        obtain ⟨q, hq', h⟩ := bnd_at h
        cases h
        refine eq_strs hl hl' (strsOf_sound hp hv) (strsOf_sound hq' hv') (by omega) ?_
        rw [← eqSs_iff]; exact hq
  | false =>
    rw [ho] at h
    obtain ⟨ho, h⟩ := oifD_at (show oif (decide (o = .NotEq)) (neLs xs ys) = some c from h)
    cases ho
    unfold neLs at h
    cases hs : sameIE xs ys with
    | true =>
      rw [hs] at h
      have h : some false = some c := h
      cases h
      obtain ⟨ks, k1, k2⟩ := sameIE_sound xs hs hv hv'
      refine PySem.W.ke_ne_ints (isList_of hl) (isList_of hl') k1 k2 hu ?_
      simpa using hq
    | false =>
      rw [hs] at h
      obtain ⟨p, hp, h⟩ := bnd_at (show bnd (consts xs) _ = some c from h)
      obtain ⟨q, hq', h⟩ := bnd_at h
      cases h
      refine PySem.W.ke_ne_ints (isList_of hl) (isList_of hl') (consts_sound hp hv) (consts_sound hq' hv') hu ?_
      rw [← eqIs_iff]; exact hq
theorem cmpAV_sound (HK : K.Ok C.ι) (R : Rel C σ S s) {o : CmpOp} {a b : AV} {va vb : Value} {c : Bool} (h : cmpAV K o a b σ = some c) (ha : RV C S a va) (hb : RV C S b vb) (hu : A.units + 64 < cLine)
    (hq : Q (.bool c) s) : wpAny (model C.prog C.w) A (compareOp o va vb) Q E s := by
  cases a with
  | int x =>
    obtain ⟨t, rfl⟩ := ha
    cases b with
    | int y =>
      obtain ⟨u, rfl⟩ := hb
      exact cmp_ints (cmpI_sound HK h) hq
    | ref j =>
      replace h := asC_at ns h
      obtain ⟨k, rfl, h⟩ := h
      obtain ⟨ys, hy, h⟩ := bnd_at h
      obtain ⟨l, hc, h⟩ := bnd_at h
      obtain ⟨b, us, m, rfl, hb', hl', hv'⟩ := listAt_sound R hy hb
      cases ho : decide (o = .In) with
      | true =>
        cases of_decide_eq_true ho
        have h : some (memI k l) = some c := h
        cases h
        refine in_list_ints (isList_of hl') (consts_sound hc hv') ?_
        rw [← memI_any]; exact hq
      | false =>
        rw [ho] at h
        obtain ⟨ho, h⟩ := oifD_at (show oif (decide (o = .NotIn)) (some (!(memI k l))) = some c from h)
        cases ho
        cases h
        refine notin_list_ints (isList_of hl') (consts_sound hc hv') ?_
        rw [← memI_any]; exact hq
    | _ => cases h
  | str x =>
    obtain ⟨t, rfl⟩ := ha
    cases b with
    | str y =>
      obtain ⟨u, rfl⟩ := hb
      obtain ⟨ho, h⟩ := oifD_at h
      cases ho
      cases h
      refine P.ne_str ?_
      have : (x.cps.toList != y.cps.toList) = !(eqS x y) := by
        unfold eqS; rw [eqN_iff]; rfl
      rw [this]; exact hq
    | ref j =>
      obtain ⟨ho, h⟩ := oifD_at h
      cases ho
      obtain ⟨ys, hy, h⟩ := bnd_at h
      obtain ⟨l, hc, h⟩ := bnd_at h
      cases h
      obtain ⟨b, us, m, rfl, hb', hl', hv'⟩ := listAt_sound R hy hb
      refine in_list_strs (isList_of hl') (strsOf_sound hc hv') ?_
      rw [← memS_any]; exact hq
    | _ => cases h
  | ref i =>
    replace h := asRef_at ns h
    obtain ⟨j, rfl, h⟩ := h
    obtain ⟨xs, hx, h⟩ := bnd_at h
    obtain ⟨ys, hy, h⟩ := bnd_at h
    exact cmpRef_sound R hx hy ha hb h hu hq
  | _ => cases h
theorem truth_sound (HK : K.Ok C.ι) {a : AV} {va : Value} {c : Bool} {Q : Bool → Shared → Prop} (h : truth K a = some c) (ha : RV C S a va) (hq : Q c s) : wpAny (model C.prog C.w) A (truthy va) Q E s := by
  have key : ∀ {e : IE} {b : Bool}, (!(beqZ (e.val C.ι) 0)) = b → RV C S (.int e) va → Q b s → wpAny (model C.prog C.w) A (truthy va) Q E s := by
    intro e b h ha hq
    obtain ⟨t, rfl⟩ := ha
    refine P.truthy_int ?_
    rw [beqZ_eq] at h
    rw [show (e.val C.ι != 0) = b from h]; exact hq
  cases a with
  | bool b =>
    cases h
    rw [show va = _ from ha]
    exact wpAny_truthy_bool hq
  | int e =>
    by_cases he : ∃ k, e = .c k
    · obtain ⟨k, rfl⟩ := he
      cases h
      exact key rfl ha hq
    · have h' : bnd (lookB K.fb .Eq e (.c 0)) (fun b => some (!b)) = some c := by
        cases e <;> first | exact h | exact absurd ⟨_, rfl⟩ he
      obtain ⟨b, hb, h'⟩ := bnd_at h'
      cases h'
      have := lookB_sound HK.fb hb
      have e1 : (e.val C.ι == (0 : Int)) = b := by
        have : cmpZ .Eq (e.val C.ι) 0 = some b := this
        exact Option.some.inj this
      exact key (by rw [beqZ_eq, ← e1]) ha hq
  | _ => cases h
theorem truthAt_sound (HK : K.Ok C.ι) (R : Rel C σ S s) {a : AV} {va : Value} {c : Bool} {Q : Bool → Shared → Prop} (h : truthAt K a σ = some c) (ha : RV C S a va)
    (hq : ∀ s', Rel C σ S s' → Grow C S s S s' → Q c s') : wpAny (model C.prog C.w) A (truthy va) Q E s := by
  cases a with
  | ref i =>
    obtain ⟨xs, hx, h⟩ := bnd_at h
    obtain ⟨hf, h⟩ := oif_at h
    cases h
    obtain ⟨b, vs, n, rfl, _, hl, hv⟩ := listAt_sound R hx ha
    have hlen := hv.length
    have hle := fewer_le hf
    refine wpAny_truthy_list (items := vs.toArray) ⟨_, hl, rfl, n, rfl⟩ (by simp; omega) ?_
    obtain ⟨R1, G1⟩ := R.same (h' := s.heap) (t' := s.toks + 1 + 1) (fun _ _ e => e)
    have e : vs.toArray.isEmpty = xs.isEmpty := by
      cases hxs : xs with
      | nil => rw [hxs] at hv; rw [show vs = [] from hv]; rfl
      | cons x r => rw [hxs] at hv; obtain ⟨u, q, e, _⟩ := hv; rw [e]; simp
    rw [e]
    exact hq _ R1 G1
  | none => exact truth_sound (a := .none) HK h ha (hq _ R (Grow.refl ..))
  | bool b => exact truth_sound (a := .bool b) HK h ha (hq _ R (Grow.refl ..))
  | int e => exact truth_sound (a := .int e) HK h ha (hq _ R (Grow.refl ..))
  | str x => exact truth_sound (a := .str x) HK h ha (hq _ R (Grow.refl ..))
  | glob i => exact truth_sound (a := .glob i) HK h ha (hq _ R (Grow.refl ..))
theorem rvs_nth {xs : List AV} {vs : List Value} (h : RVs C S xs vs) {k : Nat} {v : AV} (e : nth xs k = some v) : ∃ u, vs[k]? = some u ∧ RV C S v u := h.get (by rw [← nth_eq]; exact e)
theorem tup_at (R : Rel C σ S s) {i : Nat} {xs : List AV} (h : σ.h.get i = some (.tup xs)) {v : Value} (hv : RV C S (.ref i) v) :
    ∃ (a : Addr) (vs : List Value), v = .ref a ∧ S[i]? = some a ∧ s.heap.get? a = some { cls := .type "tuple", data := .seq vs.toArray } ∧ RVs C S xs vs := by
  obtain ⟨a, ha, vs, hl, hr⟩ := R.objs _ _ h
  obtain ⟨b, hb, rfl⟩ := hv
  have : a = b := by rw [ha] at hb; exact Option.some.inj hb
  subst this
  exact ⟨a, vs.toList, rfl, ha, by simpa using hl, hr⟩
theorem subAV_sound (R : Rel C σ S s) {a i av : AV} {va vi : Value} {x y : Expr} (h : subAV a i σ = some (av, σ')) (ha : RV C S a va) (hi : RV C S i vi)
    (hs : subscripted y false va vi = operate [va, vi] (getItem va vi)) (hq : ∀ v, σ' = σ → RV C S av v → Q v s) : wpAny (model C.prog C.w) A (subscriptTail x y va vi) Q E s := by
  replace h := asRef_at ns h
  obtain ⟨r, rfl, h⟩ := h
  replace h := asK_at ns h
  obtain ⟨k, rfl, h⟩ := h
  obtain ⟨hk, h⟩ := oif_at h
  have hk' : k ≤ 1000 := Nat.le_of_ble_eq_true hk
  obtain ⟨xs, ⟨e, h⟩ | ⟨e, h⟩⟩ := asSeq_at ns h
  · obtain ⟨v, hv, h⟩ := bnd_at h
    cases h
    obtain ⟨b, vs, n, rfl, hb', hl, hvs⟩ := listAt_sound R (i := r) (xs := xs) (at_listAt e) ha
    obtain ⟨t, rfl⟩ := hi
    obtain ⟨u, hu, hr⟩ := rvs_nth hvs hv
    refine tail_any (T := "list") ⟨_, hl, rfl⟩ F.slot_list_getitem.lookup ?_ hs
    refine wpAny_getItem_list (isList_of hl) (Int.natCast_nonneg k) (show ((k : Int)) < 2 ^ 63 by omega) ?_ (hq u rfl hr)
    show vs.toArray[(k : Int).toNat]? = some u
    rw [Int.toNat_natCast]
    simpa using hu
  · obtain ⟨v, hv, h⟩ := bnd_at h
    cases h
    obtain ⟨b, vs, rfl, hb', hl, hvs⟩ := tup_at R e ha
    obtain ⟨t, rfl⟩ := hi
    obtain ⟨u, hu, hr⟩ := rvs_nth hvs hv
    have hlen := (List.getElem?_eq_some_iff.mp hu).1
    have hsq : seqIndex? (k : Int) vs.length = some k := by
      unfold seqIndex?
      have h1 : ¬ ((k : Int) < 0) := by omega
      simp [h1, hlen]
    exact item_tupleT (l := vs) (k := (k : Int)) (j := k) ⟨_, hl, rfl, _, rfl⟩ (by omega) (by omega) hsq hu (hq u rfl hr) hs
end
end Mine

namespace Mine
section
variable {C : WC} {M : Mod} {env : Env} {en : AEnv} {S S' : List Addr} {s s' : Shared} {σ σ' : St} {K : Facts} {A : Around} {E : Value → Shared → Prop} {Q : Value → Shared → Prop}

theorem sizeLine_eq : sizeLine = 16777216 := by decide
theorem mapSeq_list {h : Heap} {a : Addr} {items : Array Value} {n : Nat} (hl : IsL h a items n) (f : Array Value → Array Value) :
    IsL (h.update a (Obj.mapSeq f)) a (f items) (if (f items).size == items.size then n else n + 1) := hl.update f
/-- a list of ours is written anew -/
theorem listAt_get {i : Nat} {xs : List AV} (h : listAt σ i = some xs) : σ.h.get i = some (.list xs) := listAt_at h
theorem listPut_sound (R : Rel C σ S s) {i : Nat} {a : Addr} {vs : List Value} {n : Nat} {xs ys : List AV} (hx : listAt σ i = some xs) (hi : S[i]? = some a) (hb : i < 4096) (hl : IsL s.heap a vs.toArray n) (f : Array Value → Array Value) (t : Nat)
    (hv : RVs C S ys (f vs.toArray).toList) : Rel C (σ.put i (.list ys)) S { s with heap := s.heap.update a (Obj.mapSeq f), toks := t } ∧ Grow C S s S { s with heap := s.heap.update a (Obj.mapSeq f), toks := t } :=
  R.upd hi (listAt_get hx) rfl hb (ao := .list ys) (Heap.SameBut.update ..) ⟨_, _, mapSeq_list hl f, hv⟩
theorem setItem_list {a : Addr} {items : Array Value} {n : Nat} {k : Int} {t : Tok} {v : Value} {Q : Unit → Shared → Prop} (hl : IsL s.heap a items n) (h0 : 0 ≤ k) (hfit : k < 2 ^ 63) (hn : k < items.size)
    (h : Q () { s with heap := s.heap.update a (Obj.mapSeq (·.setIfInBounds k.toNat v)) }) : wpAny (model C.prog C.w) A (setItem (.ref a) (.int k t) v) Q E s := by
  have hL : s.heap.IsList a items := isList_of hl
  unfold setItem
  try with_reducible refine wpAny_holding ?_
  first | refine wpAny_bind (wpAny_pure ?_) | skip
  refine wpAny_bind (wpAny_sequenceKey hL.typeIs (by decide) ?_)
  refine wpAny_bind (wpAny_callSpecial?_slot (name := Str.ofString "__setitem__") hL.typeIs slot_list_setitem
    (wpAny_call_entry slot_list_setitem hL.typeIs entry_list_setitem ?_ (args_list_setitem _ _ _)))
  show wpAny _ _ (Builtin.List.listSubscript? (.int k t) >>= _) _ _ s
  refine wpAny_bind (wpAny_listSubscript_int (fitsIndex_of h0 hfit) ?_)
  clear hfit
  obtain ⟨j, rfl⟩ := Int.eq_ofNat_of_zero_le h0
  have hj : j < items.size := by omega
  have hx' : items[j]? = some items[j] := Array.getElem?_eq_getElem hj
  show wpAny _ _ ((seqItemAt a j >>= fun r => pure (r.map (j, ·))) >>= _) _ _ s
  refine wpAny_bind (wpAny_bind (wpAny_seqItemAt hl rfl (wpAny_pure ?_)))
  rw [hx']
  show wpAny _ _ (setSeqItemAt a j v >>= _) _ _ s
  refine wpAny_bind (wpAny_setSeqItemAt hl rfl ?_)
  first
    | exact wpAny_bind (wpAny_pure (wpAny_pure ⟨.none, rfl, wpAny_pure h⟩))
    | exact wpAny_pure ⟨.none, rfl, wpAny_pure h⟩
theorem setAV_sound (R : Rel C σ S s) {o i v : AV} {vo vi u : Value} {Q : Unit → Shared → Prop} (h : setAV o i v σ = some σ') (ho : RV C S o vo) (hi : RV C S i vi) (hv : RV C S v u)
    (hq : ∀ s', Rel C σ' S s' → Grow C S s S s' → Q () s') : wpAny (model C.prog C.w) A (setItem vo vi u) Q E s := by
  replace h := asRef_at ns h
  obtain ⟨l, rfl, h⟩ := h
  replace h := asK_at ns h
  obtain ⟨k, rfl, h⟩ := h
  obtain ⟨xs, hx, h⟩ := bnd_at h
  obtain ⟨hb, h⟩ := oif_at h
  obtain ⟨hk1, h⟩ := oif_at h
  obtain ⟨hk2, h⟩ := oif_at h
  cases h
  obtain ⟨a, vs, n, rfl, ha', hl, hvs⟩ := listAt_sound R hx ho
  obtain ⟨t, rfl⟩ := hi
  have hk' : k < xs.length := hasN_lt xs hk1
  have hk3 : k < 1000 := Nat.le_of_ble_eq_true hk2
  have hlen := hvs.length
  obtain ⟨R', G'⟩ := listPut_sound R hx ha' (Nat.le_of_ble_eq_true hb) hl (·.setIfInBounds k u) s.toks (ys := setN xs v k) (by rw [setN_eq]; simpa using hvs.set hv)
  refine setItem_list (k := Int.ofNat k) hl (Int.natCast_nonneg k) (show ((k : Nat) : Int) < 2 ^ 63 by omega) (show ((k : Nat) : Int) < _ by simp; omega) (hq _ R' G')
theorem sumI_eq : ∀ (l : List Int) (a : Int), sumI l a = a + l.sum
  | [], a => by simp [sumI]
  | k :: r, a => by simp [sumI, sumI_eq r, Int.add_assoc]
theorem maxI_spec : ∀ (l : List Int) (a : Int), (maxI l a = a ∨ maxI l a ∈ l) ∧ a ≤ maxI l a ∧ ∀ x ∈ l, x ≤ maxI l a
  | [], a => ⟨.inl rfl, Int.le_refl _, fun _ h => by cases h⟩
  | k :: r, a => by
    unfold maxI
    by_cases h : a < k
    · simp only [h, decide_true]
      obtain ⟨p, q, z⟩ := maxI_spec r k
      refine ⟨.inr ?_, by omega, fun x hx => ?_⟩
      · rcases p with p | p
        · rw [p]; exact List.mem_cons_self
        · exact List.mem_cons_of_mem _ p
      · rcases List.mem_cons.mp hx with rfl | hx
        · exact q
        · exact z x hx
    · simp only [h, decide_false]
      obtain ⟨p, q, z⟩ := maxI_spec r a
      refine ⟨?_, q, fun x hx => ?_⟩
      · rcases p with p | p
        · exact .inl p
        · exact .inr (List.mem_cons_of_mem _ p)
      · rcases List.mem_cons.mp hx with rfl | hx
        · omega
        · exact z x hx
theorem insI_perm (k : Int) : ∀ l : List Int, (insI k l).Perm (k :: l)
  | [] => .refl _
  | a :: r => by
    unfold insI
    by_cases h : k ≤ a
    · simp only [h, decide_true]; exact .refl _
    · simp only [h, decide_false]; exact ((insI_perm k r).cons a).trans (.swap _ _ _)
theorem sortI_perm : ∀ l : List Int, (sortI l).Perm l
  | [] => .refl _
  | a :: r => (insI_perm a (sortI r)).trans ((sortI_perm r).cons a)
theorem insI_sorted (k : Int) : ∀ l : List Int, l.Pairwise (· ≤ ·) → (insI k l).Pairwise (· ≤ ·)
  | [], _ => by simp [insI]
  | a :: r, H => by
    unfold insI
    obtain ⟨h1, h2⟩ := List.pairwise_cons.mp H
    by_cases h : k ≤ a
    · simp only [h, decide_true]
      refine List.pairwise_cons.mpr ⟨fun x hx => ?_, H⟩
      rcases List.mem_cons.mp hx with rfl | hx
      · exact h
      · exact Int.le_trans h (h1 x hx)
    · simp only [h, decide_false]
      refine List.pairwise_cons.mpr ⟨fun x hx => ?_, insI_sorted k r h2⟩
      rcases List.mem_cons.mp ((insI_perm k r).mem_iff.mp hx) with rfl | hx
      · omega
      · exact h1 x hx
theorem sortI_sorted : ∀ l : List Int, (sortI l).Pairwise (· ≤ ·)
  | [] => .nil
  | a :: r => insI_sorted a _ (sortI_sorted r)
theorem sorted_uniq : ∀ {l m : List Int}, l.Perm m → l.Pairwise (· ≤ ·) → m.Pairwise (· ≤ ·) → l = m
  | [], m, p, _, _ => by rw [List.nil_perm.mp p]
  | a :: l, [], p, _, _ => absurd p.symm (by simp)
  | a :: l, b :: m, p, hl, hm => by
    obtain ⟨l1, l2⟩ := List.pairwise_cons.mp hl
    obtain ⟨m1, m2⟩ := List.pairwise_cons.mp hm
    have h1 : b ≤ a := by
      rcases List.mem_cons.mp (p.mem_iff.mp List.mem_cons_self) with h | h
      · omega
      · exact m1 a h
    have h2 : a ≤ b := by
      rcases List.mem_cons.mp (p.mem_iff.mpr List.mem_cons_self) with h | h
      · omega
      · exact l1 b h
    have : a = b := by omega
    subst this
    rw [sorted_uniq p.cons_inv l2 m2]
theorem divOk_sound (HK : K.Ok C.ι) {x : Int} {y : IE} (h : divOk K y = true) : y.val C.ι ≠ 0 ∧ Builtin.divisionGoesByPylong x (y.val C.ι) = false := by
  unfold divOk at h
  obtain ⟨h1, h2⟩ := Bool.and_eq_true_iff.mp h
  refine ⟨nz_sound HK h1, ?_⟩
  split at h2
  · rename_i b hb'
    have h3 := bitsUb_log2 HK hb'
    have h4 : b ≤ 8000 := Nat.le_of_ble_eq_true h2
    exact PyProof.noPylong_of_log2 (by omega)
  · cases h2
theorem hexT_sound {k : Int} {x : Str} (h : lkZ hexs k = some x) : baseText "0x" 16 k = x ∧ (baseText "0x" 16 k).length ≤ sizeLine := by
  have key : ∀ p ∈ hexs, baseText "0x" 16 p.1 = p.2 ∧ (baseText "0x" 16 p.1).length ≤ sizeLine := by decide +kernel
  exact key (k, x) (lkZ_mem k x hexs h)
theorem intsAre_at : ∀ {vs : List Value} {ks : List Int}, IntsAre vs ks → vs.length = ks.length
  | _, _, .nil => rfl
  | _, _, .cons _ _ h => by simp [intsAre_at h]
theorem bifAV_sound (HK : K.Ok C.ι) (R : Rel C σ S s) {b : Bif} {vs : List AV} {us : List Value} {av : AV} (h : bifAV K b vs σ = some (av, σ')) (hv : RVs C S vs us) (hh : A.handled = none)
    (hq : ∀ S' s' v, Rel C σ' S' s' → Grow C S s S' s' → RV C S' av v → Q v s') : wpAny (model C.prog C.w) A (call (.builtin b.id) us) Q E s := by
  cases b with
  | len =>
    replace h := l1_at ns h
    obtain ⟨v, rfl, h⟩ := h
    replace h := asRef_at ns h
    obtain ⟨i, rfl, h⟩ := h
    obtain ⟨xs, hx, h⟩ := bnd_at h
    obtain ⟨hf, h⟩ := oif_at h
    cases h
    obtain ⟨v, r, rfl, hv1, rfl⟩ := hv
    obtain ⟨a, ws, n, rfl, ha', hl, hw⟩ := listAt_sound R hx hv1
    have hf' := fewer_le hf
    have hlen := hw.length
    refine call_len_list (isList_of hl) (by simp; omega) ?_
    obtain ⟨R', G'⟩ := R.same (h' := s.heap) (t' := s.toks + 1 + 1) (fun _ _ e => e)
    refine hq _ _ _ R' G' ⟨s.toks + 1, ?_⟩
    show Value.int _ _ = Value.int ((lenN xs : Nat) : Int) _
    rw [lenN_eq]
    rw [show ((ws.toArray.size : Nat) : Int) = (xs.length : Int) by simp [hlen]]
  | sum =>
    replace h := l1_at ns h
    obtain ⟨v, rfl, h⟩ := h
    replace h := asRef_at ns h
    obtain ⟨i, rfl, h⟩ := h
    obtain ⟨xs, hx, h⟩ := bnd_at h
    obtain ⟨l, hc, h⟩ := bnd_at h
    cases h
    obtain ⟨v, r, rfl, hv1, rfl⟩ := hv
    obtain ⟨a, ws, n, rfl, ha', hl, hw⟩ := listAt_sound R hx hv1
    have hi := consts_sound hc hw
    obtain ⟨ys, hy⟩ := hi.allInts.items
    have hl' : s.heap.IsList a (intItems ys) := hy ▸ isList_of hl
    refine sum_intListG hh hl' fun h' tk t' hk => ?_
    have e1 : l = ys.toList.map (·.1) := by
      rw [← nums_intItems, ← hy]
      exact (show numsOf ws.toArray.toList = l from hi.numsOf).symm
    have e2 : preSum (numAt ys) ys.size = l.sum := by
      rw [preSum_eq, List.take_of_length_le (by simp), e1]
    rw [e2]
    obtain ⟨R', G'⟩ := R.same (h' := h') (t' := tk) hk
    refine hq _ _ _ R' G' ⟨t', ?_⟩
    show _ = Value.int (sumI l 0) t'
    rw [sumI_eq]; simp
  | sorted =>
    replace h := l1_at ns h
    obtain ⟨v, rfl, h⟩ := h
    replace h := asRef_at ns h
    obtain ⟨i, rfl, h⟩ := h
    obtain ⟨xs, hx, h⟩ := bnd_at h
    obtain ⟨hf, h⟩ := oif_at h
    obtain ⟨l, hc, h⟩ := bnd_at h
    obtain ⟨v, r, rfl, hv1, rfl⟩ := hv
    obtain ⟨a, ws, n, rfl, ha', hl, hw⟩ := listAt_sound R hx hv1
    have hi := consts_sound hc hw
    have hf' := fewer_le hf
    have hlen := hw.length
    refine sorted_ints (isList_of hl) hi (by omega) fun out ns' a1 a2 a3 => ?_
    have e : ns' = sortI l := sorted_uniq (a2.trans (sortI_perm l).symm) a3 (sortI_sorted l)
    subst e
    obtain ⟨c, hc'⟩ := sortedAll_at s.heap ws out
    obtain ⟨_, h⟩ := oif_at h
    obtain ⟨hb, rfl, rfl⟩ := mk_at h
    obtain ⟨R', G', V'⟩ := R.alloc hb (t' := s.toks) (a := s.heap.objs.size + 1) (h' := sortedAll s.heap ws out) (ao := .list ((sortI l).map fun k => .int (.c k)))
      (fun _ _ e => sortedAll_old e) (by
        cases q : s.heap.get? (s.heap.objs.size + 1) with
        | none => rfl
        | some o => exact absurd (Heap.lt_size q) (Nat.not_lt.mpr (Nat.le_succ _))) ⟨out, c, hc', rvs_consts a1⟩
    exact hq _ _ _ R' G' V'
  | max =>
    replace h := l1_at ns h
    obtain ⟨v, rfl, h⟩ := h
    replace h := asRef_at ns h
    obtain ⟨i, rfl, h⟩ := h
    obtain ⟨xs, hx, h⟩ := bnd_at h
    obtain ⟨l, hc, h⟩ := bnd_at h
    cases l with
    | nil => cases h
    | cons k l =>
    cases h
    obtain ⟨v, r, rfl, hv1, rfl⟩ := hv
    obtain ⟨a, ws, n, rfl, ha', hl, hw⟩ := listAt_sound R hx hv1
    have hi := consts_sound hc hw
    obtain ⟨ys, hy⟩ := hi.allInts.items
    have hl' : s.heap.IsList a (intItems ys) := hy ▸ isList_of hl
    have e1 : k :: l = ys.toList.map (·.1) := by
      rw [← nums_intItems, ← hy]
      exact (show numsOf ws.toArray.toList = k :: l from hi.numsOf).symm
    have hsz : 0 < ys.size := by
      have := congrArg List.length e1
      simp at this
      omega
    refine max_intList hh hl' hsz fun v h' tk hv hk => ?_
    obtain ⟨t, rfl⟩ := intItems_at hv
    obtain ⟨g1, g2⟩ := argBest_gt (numAt ys) (ys.size - 1)
    generalize argBest (fun i j => decide (numAt ys i > numAt ys j)) (ys.size - 1) = j at g1 g2
    obtain ⟨m1, m2, m3⟩ := maxI_spec l k
    have getD_at : ∀ (p : Nat), p < ys.size → numAt ys p ∈ k :: l := by
      intro p hp
      rw [numAt_eq, e1, List.getD_eq_getElem?_getD, List.getElem?_eq_getElem (by simpa using hp)]
      exact List.getElem_mem _
    have at_getD : ∀ x ∈ k :: l, ∃ p, p < ys.size ∧ numAt ys p = x := by
      intro x hx
      rw [e1] at hx
      obtain ⟨p, hp, e⟩ := List.getElem_of_mem hx
      refine ⟨p, by simpa using hp, ?_⟩
      rw [numAt_eq, List.getD_eq_getElem?_getD, List.getElem?_eq_getElem hp]
      exact e
    have e2 : numAt ys j = maxI l k := by
      apply Int.le_antisymm
      · rcases List.mem_cons.mp (getD_at j (by omega)) with e | e
        · rw [e]; exact m2
        · exact m3 _ e
      · have : maxI l k ∈ k :: l := by
          rcases m1 with e | e
          · rw [e]; exact List.mem_cons_self
          · exact List.mem_cons_of_mem _ e
        obtain ⟨p, hp, e⟩ := at_getD _ this
        rw [← e]
        exact g2 p (by omega)
    obtain ⟨R', G'⟩ := R.same (h' := h') (t' := tk) hk
    refine hq _ _ _ R' G' ⟨t, ?_⟩
    rw [e2]; rfl
  | divmod =>
    replace h := l2_at ns h
    obtain ⟨v, v', rfl, h⟩ := h
    replace h := asInt_at ns h
    obtain ⟨x, rfl, h⟩ := h
    replace h := asInt_at ns h
    obtain ⟨y, rfl, h⟩ := h
    obtain ⟨hd, h⟩ := oif_at h
    obtain ⟨v, r, rfl, hv1, v2, r2, rfl, hv2, rfl⟩ := hv
    obtain ⟨t, rfl⟩ := hv1
    obtain ⟨u, rfl⟩ := hv2
    obtain ⟨d1, d2⟩ := divOk_sound HK (x := x.val C.ι) hd
    refine divmod_int d1 ?_ (.inl d2)
    obtain ⟨R', G', V'⟩ := mk_sound R h (o := { cls := .type "tuple", data := .seq #[.int ((x.val C.ι).fdiv (y.val C.ι)) s.toks, .int ((x.val C.ι).fmod (y.val C.ι)) (s.toks + 1)] }) rfl
      ⟨_, Heap.get?_push_size _ rfl, _, _, rfl, ⟨_, by rw [fold2_val (fun _ _ => rfl)]⟩, _, _, rfl, ⟨_, by rw [fold2_val (fun _ _ => rfl)]⟩, rfl⟩ (s.toks + 1 + 1)
    exact hq _ _ _ R' G' V'
  | hex =>
    replace h := l1_at ns h
    obtain ⟨v, rfl, h⟩ := h
    replace h := asZ_at ns h
    obtain ⟨k, rfl, h⟩ := h
    obtain ⟨x, hx, h⟩ := bnd_at h
    cases h
    obtain ⟨v, r, rfl, hv1, rfl⟩ := hv
    obtain ⟨t, rfl⟩ := hv1
    obtain ⟨e, hz⟩ := hexT_sound hx
    obtain ⟨R', G'⟩ := R.tok
    refine P.hex_of_int ?_ hz
    refine hq _ _ _ R' G' ⟨s.toks, ?_⟩
    show Value.str (baseText "0x" 16 k) _ = _
    rw [e]
end
end Mine

namespace Mine
section
variable {C : WC} {M : Mod} {env : Env} {en : AEnv} {S S' : List Addr} {s s' : Shared} {σ σ' : St} {K : Facts} {A : Around} {E : Value → Shared → Prop} {Q : Value → Shared → Prop}

noncomputable def Mth.T : Mth → String
  | .append => "list" | .reverse => "list" | .bitlen => "int" | .split => "str" | .join => "str" | .index => "list" | .dget => "dict"
noncomputable def Mth.id : Mth → String
  | .append => "list.append" | .reverse => "list.reverse" | .bitlen => "int.bit_length" | .split => "str.split" | .join => "str.join" | .index => "list.index" | .dget => "dict.get"
theorem Mth.pa : ∀ m : Mth, PlainAttrs m.T
  | .append => F.plainAttrs_list | .reverse => F.plainAttrs_list | .bitlen => F.plainAttrs_int | .split => F.plainAttrs_str | .join => F.plainAttrs_str | .index => F.plainAttrs_list | .dget => F.plainAttrs_dict
theorem Mth.slot : ∀ m : Mth, Slot m.T m.nm m.id
  | .append => F.slot_list_append | .reverse => F.slot_list_reverse | .bitlen => F.slot_int_bit_length | .split => F.slot_str_split | .join => F.slot_str_join | .index => F.slot_list_index | .dget => F.slot_dict_get
theorem Mth.ty : ∀ m : Mth, typeOf (.builtin m.id) = pure (.type "method_descriptor")
  | .append => F.type_list_append | .reverse => F.type_list_reverse | .bitlen => F.type_int_bit_length | .split => F.type_str_split | .join => F.type_str_join | .index => F.type_list_index | .dget => F.type_dict_get
/-- split by a separator, with the heap as it is -/
theorem split_sep {x y : Str} {t u : Tok} (hy : (y.length == 0) = false) (hsz : x.length + 2 ≤ sizeLine)
    (h : ∀ (l : List (Str × Tok)) (k : Nat), l.map (·.1) = Txt.split x y → Q (.ref s.heap.objs.size) { s with heap := s.heap.push { cls := .type "list", data := .seq (strValues l).toArray }, toks := k }) :
    wpAny (model C.prog C.w) A (call (.builtin "str.split") [.str x t, .str y u]) Q E s := by
  cases h1 : (decide (x.length < y.length) || decide (Builtin.Str.strKind x < Builtin.Str.strKind y)) with
  | true =>
    refine call_meets F.slot_str_split (typeIs_str _ _ _) F.entry_str_split (F.args_str_split_2 _ _) (meets_str_split_cannot_occur x y t u h1) ?_
    refine h [(x, t)] s.toks ?_
    unfold Txt.split
    rw [h1]; rfl
  | false =>
    cases hf : (Builtin.Str.occurrences x y 0 x.length (x.length + 1)).isEmpty with
    | true =>
      refine call_meets F.slot_str_split (typeIs_str _ _ _) F.entry_str_split (F.args_str_split_2 _ _) (meets_str_split_not_found x y t u h1 hy hf) ?_
      refine h [(x, t)] s.toks ?_
      unfold Txt.split
      rw [h1, hf]; rfl
    | false =>
      have hn : (Builtin.Str.partsBetween x (Builtin.Str.occurrences x y 0 x.length (x.length + 1)) y.length).length ≤ sizeLine := by
        have e1 := StrLaws.occ_length_le x y 0 x.length (x.length + 1)
        rw [length_partsBetween]; omega
      refine call_meets F.slot_str_split (typeIs_str _ _ _) F.entry_str_split (F.args_str_split_2 _ _) (meets_str_split_sep x y t u h1 hy hf (by omega) hn) ?_
      show wants Q E _ { s with toks := _, heap := s.heap.push { cls := .type "list", data := .seq (strsFrom s.toks (Builtin.Str.partsBetween x (Builtin.Str.occurrences x y 0 x.length (x.length + 1)) y.length)).toArray } }
      rw [strsFrom_eq]
      refine h (numbered s.toks _) _ ?_
      rw [numbered_texts]
      unfold Txt.split
      rw [h1, hf]; rfl
theorem strsAre_values : ∀ l : List (Str × Tok), StrsAre (strValues l) (l.map (·.1))
  | [] => .nil
  | p :: r => .cons p.1 p.2 (strsAre_values r)
theorem idxS_spec (k : Str) (l : List Str) : ∀ (n j : Nat), idxS k l n = some j → n ≤ j ∧ j - n < l.length ∧ l[j - n]? = some k ∧ ∀ m, m < j - n → ∀ y, l[m]? = some y → (y == k) = false := by
  induction l with
  | nil => intro n j h; cases h
  | cons a r ih =>
    intro n j h
    have h : Bool.rec (motive := fun _ => Option Nat) (idxS k r (n + 1)) (some n) (eqS a k) = some j := h
    rw [eqS_iff] at h
    cases q : a == k with
    | true =>
      rw [q] at h
      have h : some n = some j := h
      cases h
      refine ⟨Nat.le_refl _, by simp, ?_, fun m hm => by omega⟩
      rw [Nat.sub_self, beq_iff_eq.mp q]; rfl
    | false =>
      rw [q] at h
      obtain ⟨h1, h2, h3, h4⟩ := ih (n + 1) j h
      have e : j - n = (j - (n + 1)) + 1 := by omega
      rw [e]
      refine ⟨by omega, by simp; omega, by simpa using h3, fun m hm y hy => ?_⟩
      cases m with
      | zero => simp at hy; rw [← hy]; exact q
      | succ m => exact h4 m (by omega) y (by simpa using hy)
theorem strsAre_at : ∀ {vs : List Value} {xs : List Str}, StrsAre vs xs → vs.length = xs.length ∧ ∀ j (h : j < vs.length), ∃ x t, xs[j]? = some x ∧ vs[j] = .str x t
  | _, _, .nil => ⟨rfl, fun j h => by cases h⟩
  | _, _, .cons x t h => by
    obtain ⟨h1, h2⟩ := strsAre_at h
    refine ⟨by simp [h1], fun j hj => ?_⟩
    cases j with
    | zero => exact ⟨x, t, rfl, rfl⟩
    | succ j =>
      obtain ⟨y, u, e1, e2⟩ := h2 j (by simpa using hj)
      exact ⟨y, u, by simpa using e1, by simpa using e2⟩
noncomputable def isStr (k : Str) : Value → Bool
  | .str x _ => x == k
  | _ => false
theorem lkD_spec (t : List (Int × Str)) (k : Int) (x : Str) (h : lkD t k = some x) : Spec.lookup (.int k) (t.map fun p => (PyData.int p.1, PyData.str p.2)) = some (.str x) := by
  induction t with
  | nil => cases h
  | cons p r ih =>
    have h : Bool.rec (motive := fun _ => Option Str) (lkD r k) (some p.2) (beqZ p.1 k) = some x := h
    show (if Spec.same (PyData.int p.1) (PyData.int k) = true then some (PyData.str p.2) else Spec.lookup (.int k) (r.map fun p => (PyData.int p.1, PyData.str p.2))) = _
    have e : Spec.same (PyData.int p.1) (PyData.int k) = (p.1 == k) := by simp [Spec.same]
    rw [e]
    rw [beqZ_eq] at h
    cases q : p.1 == k with
    | true =>
      rw [q] at h
      have h : some p.2 = some x := h
      cases h
      rfl
    | false =>
      rw [q] at h
      exact ih h
theorem methAV_sound (HK : K.Ok C.ι) (O : MOk C M) (R : Rel C σ S s) {m : Mth} {o : AV} {vo : Value} {vs : List AV} {us : List Value} {av : AV} (h : methAV K M m o vs σ = some (av, σ')) (ho : RV C S o vo) (hv : RVs C S vs us) (hh : A.handled = none)
    (hq : ∀ S' s' v, Rel C σ' S' s' → Grow C S s S' s' → RV C S' av v → Q v s') :
    s.TypeIs vo m.T ∧ (∀ a, vo = .ref a → ∃ ob, s.heap.get? a = some ob ∧ ob.dict = none) ∧ wpAny (model C.prog C.w) A (call (.builtin m.id) (vo :: us)) Q E s := by
  cases m with
  | append =>
    replace h := asRef_at ns h
    obtain ⟨i, rfl, h⟩ := h
    replace h := l1_at ns h
    obtain ⟨v, rfl, h⟩ := h
    obtain ⟨xs, hx, h⟩ := bnd_at h
    obtain ⟨hb, h⟩ := oif_at h
    obtain ⟨hf, h⟩ := oif_at h
    cases h
    obtain ⟨u, r, rfl, hu, rfl⟩ := hv
    obtain ⟨a, ws, n, rfl, ha', hl, hw⟩ := listAt_sound R hx ho
    have hf' := fewer_le hf
    have hlen := hw.length
    obtain ⟨R', G'⟩ := listPut_sound R hx ha' (Nat.le_of_ble_eq_true hb) hl (fun xs => xs.push u) s.toks (ys := addN xs [v]) (by rw [addN_eq]; simpa using hw.append (RVs.one hu))
    refine ⟨⟨_, hl, rfl⟩, fun b e => by cases e; exact ⟨_, hl, rfl⟩, ?_⟩
    exact call_meets F.slot_list_append ⟨_, hl, rfl⟩ F.entry_list_append (F.args_list_append_2 _ _) (list_append a ws.toArray n u (sizeLine_big (by simp; omega))) ⟨hl, hq _ _ _ R' G' rfl⟩
  | reverse =>
    replace h := asRef_at ns h
    obtain ⟨i, rfl, h⟩ := h
    replace h := l0_at ns h
    obtain ⟨rfl, h⟩ := h
    obtain ⟨xs, hx, h⟩ := bnd_at h
    obtain ⟨hb, h⟩ := oif_at h
    obtain ⟨hf, h⟩ := oif_at h
    cases h
    have hv : us = [] := hv
    subst hv
    obtain ⟨a, ws, n, rfl, ha', hl, hw⟩ := listAt_sound R hx ho
    have hf' := fewer_le hf
    have hlen := hw.length
    obtain ⟨R', G'⟩ := listPut_sound R hx ha' (Nat.le_of_ble_eq_true hb) hl (fun xs => xs.reverse) s.toks (ys := xs.reverse) (by simpa using hw.reverse)
    refine ⟨⟨_, hl, rfl⟩, fun b e => by cases e; exact ⟨_, hl, rfl⟩, ?_⟩
    exact call_meets F.slot_list_reverse ⟨_, hl, rfl⟩ F.entry_list_reverse (F.args_list_reverse_1 _) (AutoSeq1.list_reverse_list_0 a ws.toArray n (sizeLine_big (by simp; omega))) ⟨hl, hq _ _ _ R' G' rfl⟩
  | bitlen =>
    replace h := asInt_at ns h
    obtain ⟨e, rfl, h⟩ := h
    replace h := l0_at ns h
    obtain ⟨rfl, h⟩ := h
    cases h
    have hv : us = [] := hv
    subst hv
    obtain ⟨t, rfl⟩ := ho
    obtain ⟨R', G'⟩ := R.tok
    refine ⟨typeIs_int s _ t, (fun b e => by cases e), call_int_bit_length (hq _ _ _ R' G' ⟨s.toks, ?_⟩)⟩
    rw [nrm_val HK]; rfl
  | split =>
    replace h := asStr_at ns h
    obtain ⟨x, rfl, h⟩ := h
    replace h := l1_at ns h
    obtain ⟨v, rfl, h⟩ := h
    replace h := asStr_at ns h
    obtain ⟨y, rfl, h⟩ := h
    obtain ⟨hb, h⟩ := oif_at h
    obtain ⟨u, r, rfl, hu, rfl⟩ := hv
    obtain ⟨t, rfl⟩ := hu
    obtain ⟨t', rfl⟩ := ho
    obtain ⟨b1, b2⟩ := Bool.and_eq_true_iff.mp hb
    have b1' : x.length ≤ 1000 := Nat.le_of_ble_eq_true b1
    have b2' : 1 ≤ y.length := Nat.le_of_ble_eq_true b2
    refine ⟨typeIs_str _ _ _, (fun b e => by cases e), split_sep (by rw [beq_eq_false_iff_ne]; omega) (sizeLine_big (by omega)) fun l k hl => ?_⟩
    obtain ⟨R', G', V', _⟩ := mkList_sound R h (hl ▸ rvs_strs (strsAre_values l)) k
    exact hq _ _ _ R' G' V'
  | join =>
    replace h := asStr_at ns h
    obtain ⟨x, rfl, h⟩ := h
    replace h := l1_at ns h
    obtain ⟨v, rfl, h⟩ := h
    replace h := asRef_at ns h
    obtain ⟨i, rfl, h⟩ := h
    obtain ⟨xs, hx, h⟩ := bnd_at h
    obtain ⟨l, hc, h⟩ := bnd_at h
    obtain ⟨hb, h⟩ := oif_at h
    cases h
    obtain ⟨u, r, rfl, hu, rfl⟩ := hv
    obtain ⟨t', rfl⟩ := ho
    obtain ⟨a, ws, c, rfl, ha', hl, hw⟩ := listAt_sound R hx hu
    obtain ⟨b1, b2⟩ := Bool.and_eq_true_iff.mp hb
    have b1' : x.length ≤ 16 := Nat.le_of_ble_eq_true b1
    have b2' : (l.map (·.length)).sum + l.length ≤ 100000 := Nat.le_of_ble_eq_true b2
    refine ⟨typeIs_str _ _ _, (fun b e => by cases e), join_listW (isList_of hl) (strsOf_sound hc hw) b1' (by omega) fun t k => ?_⟩
    obtain ⟨R', G'⟩ := R.same (h' := s.heap) (t' := k) (fun _ _ e => e)
    exact hq _ _ _ R' G' ⟨t, rfl⟩
  | index =>
    replace h := asRef_at ns h
    obtain ⟨i, rfl, h⟩ := h
    replace h := l1_at ns h
    obtain ⟨v, rfl, h⟩ := h
    replace h := asStr_at ns h
    obtain ⟨x, rfl, h⟩ := h
    obtain ⟨xs, hx, h⟩ := bnd_at h
    obtain ⟨l, hc, h⟩ := bnd_at h
    obtain ⟨n, hn, h⟩ := bnd_at h
    obtain ⟨hn1, h⟩ := oif_at h
    cases h
    have hn1 : n ≤ 1000 := Nat.le_of_ble_eq_true hn1
    obtain ⟨u, r, rfl, hu, rfl⟩ := hv
    obtain ⟨t, rfl⟩ := hu
    obtain ⟨a, ws, c, rfl, ha', hl, hw⟩ := listAt_sound R hx ho
    obtain ⟨j1, j2, j3, j4⟩ := idxS_spec x l 0 n hn
    rw [Nat.sub_zero] at j2 j3 j4
    have hs := strsOf_sound hc hw
    obtain ⟨s1, s2⟩ := strsAre_at hs
    refine ⟨⟨_, hl, rfl⟩, fun b e => by cases e; exact ⟨_, hl, rfl⟩, ?_⟩
    have hn' : n < ws.length := by omega
    have at_ : ∀ (j : Nat) (hj : j < ws.length), isStr x ws[j] = (l[j]? == some x) := by
      intro j hj
      obtain ⟨y, t', e1, e2⟩ := s2 j hj
      rw [e2, e1]
      rfl
    refine call_meets F.slot_list_index ⟨_, hl, rfl⟩ F.entry_list_index (F.args_list_index_2 _ _)
      (MeetsSeq.list_index a ws.toArray c (.str x t) (isStr x) (fun y hy => ?_) n (by simpa using hn') (by omega) ?_ ?_) ⟨hl, ?_⟩
    · obtain ⟨j, hj, e⟩ := List.getElem_of_mem (show y ∈ ws by simpa using hy)
      obtain ⟨z, t', e1, e2⟩ := s2 j hj
      rw [← e, e2]
      exact eqGives_str _ _ _ _
    · have := at_ n hn'
      simp only [List.getElem_toArray]
      rw [this, j3]
      simp
    · intro p hp hpn
      have hp' : p < ws.length := by simpa using hp
      obtain ⟨z, t', e1, e2⟩ := s2 p hp'
      simp only [List.getElem_toArray]
      rw [e2]
      exact j4 p hpn z e1
    · obtain ⟨R', G'⟩ := R.tok
      exact hq _ _ _ R' G' ⟨s.toks, rfl⟩
  | dget =>
    replace h := asGlo_at ns h
    obtain ⟨g, rfl, h⟩ := h
    replace h := l2_at ns h
    obtain ⟨v1, v2, rfl, h⟩ := h
    replace h := asZ_at ns h
    obtain ⟨k, rfl, h⟩ := h
    replace h := asStr_at ns h
    obtain ⟨y, rfl, h⟩ := h
    obtain ⟨nm', t, hg, h⟩ := bn2_at h
    obtain ⟨x, hx, h⟩ := bnd_at h
    cases h
    obtain ⟨u, r, rfl, hu, u2, r2, rfl, hu2, rfl⟩ := hv
    obtain ⟨t1, rfl⟩ := hu
    obtain ⟨t2, rfl⟩ := hu2
    obtain ⟨_, T⟩ := O.gd _ _ _ hg
    have T := T s.heap R.keep
    have ho : vo = .ref (C.ga g) := ho
    subst ho
    obtain ⟨lo, kvs, hd, hf⟩ := id T
    refine ⟨hd.typeIs, hd.mapOf.noDict, call_get2_intTab T (.str y t2) fun v hv' => ?_⟩
    have hv' : PyProof.V.Flat v ((Spec.lookup (.int k) (t.map fun p => (PyData.int p.1, PyData.str p.2))).getD (.str y)) := hv'
    rw [lkD_spec t k x hx] at hv'
    obtain ⟨R', G'⟩ := R.tok
    refine hq _ _ _ R' G' ?_
    have := hv' s.heap
    cases this
    exact ⟨_, rfl⟩
end
end Mine

namespace Mine
section
variable {C : WC} {M : Mod} {env : Env} {en : AEnv} {S S' : List Addr} {s s' : Shared} {σ σ' : St} {K : Facts} {A : Around} {E : Value → Shared → Prop} {Q : Value → Shared → Prop}

/-- the trees of a list of arguments -/
noncomputable def trees (M : Mod) (f : Nat) (env : Env) : X → List (Bool × Sem Value)
  | .cons x xs => (false, eval (toE M f x) env) :: trees M f env xs
  | _ => []
theorem star_cons (f : Nat) (x : X) (r : List Expr) : starEach (toE M f x :: r) env = (false, eval (toE M f x) env) :: starEach r env := by cases x <;> rfl
theorem back_trees (f : Nat) (p : Pos) : ∀ xs : X, backTo p (starEach (toEs M f xs) env) = trees M f env xs
  | .cons x xs => by
    show backTo p (starEach (toE M f x :: toEs M f xs) env) = _
    rw [star_cons]
    show (false, eval (toE M f x) env) :: backTo p (starEach (toEs M f xs) env) = _
    rw [back_trees f p xs]; rfl
  | .nil => rfl
  | .var .. | .cvar .. | .gint .. | .num .. | .neg .. | .nun .. | .str .. | .bin .. | .cmp .. | .ifx .. | .or .. | .not .. | .lst .. | .tup .. | .sub .. | .call .. | .bfn .. | .meth .. | .listOf .. | .listRev .. | .rng .. | .rev .. | .gdict .. | .ccall .. | .comp .. => rfl
theorem any_trees (f : Nat) : ∀ xs : X, ((trees M f env xs).any fun x => x.fst) = false
  | .cons x xs => by show (false || (trees M f env xs).any fun x => x.fst) = false; rw [any_trees f xs]; rfl
  | .nil => rfl
  | .var .. | .cvar .. | .gint .. | .num .. | .neg .. | .nun .. | .str .. | .bin .. | .cmp .. | .ifx .. | .or .. | .not .. | .lst .. | .tup .. | .sub .. | .call .. | .bfn .. | .meth .. | .listOf .. | .listRev .. | .rng .. | .rev .. | .gdict .. | .ccall .. | .comp .. => rfl
theorem args_trees {f : Nat} {v : Value} {xs : X} {Q : Args → Shared → Prop} (h : wpAny (model C.prog C.w) A (spliced (trees M f env xs)) (fun vs s' => Q ⟨vs, []⟩ s') E s) :
    wpAny (model C.prog C.w) A (evalArgs v true (trees M f env xs) []) Q E s := by
  have nil : ∀ (h : wpAny (model C.prog C.w) A (spliced []) (fun vs s' => Q ⟨vs, []⟩ s') E s), wpAny (model C.prog C.w) A (evalArgs v true [] []) Q E s := by
    intro h
    unfold evalArgs
    show wpAny _ A (spliced [] >>= _) Q E s
    refine wpAny_bind (wpAny_mono h (fun vs s' h' => ?_) fun _ _ x => x)
    refine wpAny_bind (wpAny_pure ?_)
    refine wpAny_holding ?_
    exact wpAny_bind (wpAny_pure (wpAny_bind (wpAny_pure (wpAny_pure h'))))
  cases xs with
  | cons x xs => exact Calls.evalArgs_plain h
  | _ => exact nil h
theorem subscripted_of (f : Nat) (x : X) (o i : Value) : subscripted (toE M f x) false o i = operate [o, i] (getItem o i) := by cases x <;> rfl
theorem behind_of (f : Nat) (x : X) (o : CmpOp) : behindInMarks o (toE M f x) = false := by cases x <;> rfl
theorem folded_of (f : Nat) (x : X) (v : Value) : foldedSetIterable (toE M f x) env v = pure v := by cases x <;> rfl
theorem swaps_of (f : Nat) {x : X} (h : noComp x = true) (t : Option Expr) (l : Nat) : swapsWith (toE M f x) t l env = pure false := by cases x <;> first | rfl | cases h
theorem base_of (f : Nat) {x : X} (h : plainO x = true) (nm : Str) : attributeBase (toE M f x) nm env (eval (toE M f x) env) = eval (toE M f x) env := by
  cases x with
  | call k xs q p => cases xs <;> first | rfl | cases h
  | bfn b xs q p => cases xs <;> first | rfl | cases h
  | rng xs q p => cases xs <;> first | rfl | cases h
  | ccall i xs q p => cases h
  | _ => rfl
/-- forms whose truth is their value's -/
noncomputable def plainT : X → Bool
  | .cmp .. => false | .or .. => false | .not .. => false | .ifx .. => false | _ => true
theorem isTrue_of (f : Nat) {x : X} (h : plainT x = true) (w : Sem Value) : PySem.isTrue (toE M f x) env w = (do let v ← w; standAt (toE M f x).pos; holding [v] (truthy v)) := by cases x <;> first | rfl | cases h

structure SE (C : WC) (M : Mod) (r : Ev) : Prop where
  e : ∀ {en : AEnv} {x : X} {σ : St} {av : AV} {σ' : St}, r.e en x σ = some (av, σ') → chkX M en.f x = true →
    ∀ {env : Env} {A : Around} {S : List Addr} {E : Value → Shared → Prop} {s : Shared} {Q : Value → Shared → Prop}, EnvOk C M env en S A s → AOk A en.d → Rel C σ S s →
    (∀ S' s' v, Rel C σ' S' s' → Grow C S s S' s' → RV C S' av v → Q v s') → wpAny (model C.prog C.w) A (eval (toE M en.f x) env) Q E s
  es : ∀ {en : AEnv} {x : X} {σ : St} {avs : List AV} {σ' : St}, r.es en x σ = some (avs, σ') → chkX M en.f x = true →
    ∀ {env : Env} {A : Around} {S : List Addr} {E : Value → Shared → Prop} {s : Shared} {Q : List Value → Shared → Prop}, EnvOk C M env en S A s → AOk A en.d → Rel C σ S s →
    (∀ S' s' vs, Rel C σ' S' s' → Grow C S s S' s' → RVs C S' avs vs → Q vs s') → wpAny (model C.prog C.w) A (spliced (trees M en.f env x)) Q E s
  t : ∀ {en : AEnv} {x : X} {σ : St} {b : Bool} {σ' : St}, r.t en x σ = some (b, σ') → chkX M en.f x = true →
    ∀ {env : Env} {A : Around} {S : List Addr} {E : Value → Shared → Prop} {s : Shared} {Q : Bool → Shared → Prop}, EnvOk C M env en S A s → AOk A en.d → Rel C σ S s →
    (∀ S' s', Rel C σ' S' s' → Grow C S s S' s' → Q b s') → wpAny (model C.prog C.w) A (PySem.isTrue (toE M en.f x) env (eval (toE M en.f x) env)) Q E s

theorem AOk.units' {d : Nat} (a : AOk A d) : A.units + 64 < cLine := by
  have h1 := a.units; have h2 := a.d
  have : cLine = 9900 := by decide
  omega
theorem stepEs_sound {r : Ev} (I : SE C M r) {x : X} {avs : List AV} (h : stepEs r en x σ = some (avs, σ')) (hc : chkX M en.f x = true)
    {Q : List Value → Shared → Prop} (H : EnvOk C M env en S A s) (a : AOk A en.d) (R : Rel C σ S s)
    (hq : ∀ S' s' vs, Rel C σ' S' s' → Grow C S s S' s' → RVs C S' avs vs → Q vs s') : wpAny (model C.prog C.w) A (spliced (trees M en.f env x)) Q E s := by
  unfold stepEs at h
  cases x with
  | cons x xs =>
    obtain ⟨v, σ1, h1, h⟩ := bn2_at h
    obtain ⟨vs, σ2, h2, h⟩ := bn2_at h
    cases h
    replace hc := an3 hc
    refine Calls.spliced_cons (I.e h1 hc.1.2 H a R fun S1 s1 u R1 G1 V1 => ?_)
    refine I.es h2 hc.2 (H.grow G1) a R1 fun S2 s2 us R2 G2 V2 => ?_
    exact hq _ _ _ R2 (G1.trans G2) ⟨_, _, rfl, G2.rv V1, V2⟩
  | nil =>
    cases h
    exact Calls.spliced_nil (hq _ _ _ R (Grow.refl ..) rfl)
  | _ => cases h
theorem orT_sound {r : Ev} (I : SE C M r) {x : X} : ∀ {σ : St} {S : List Addr} {s : Shared} {b : Bool} {Q : Bool → Shared → Prop}, orT r en x σ = some (b, σ') → chkX M en.f x = true → EnvOk C M env en S A s → AOk A en.d → Rel C σ S s →
    (∀ S' s', Rel C σ' S' s' → Grow C S s S' s' → Q b s') → wpAny (model C.prog C.w) A (allTrue .Or (toEs M en.f x) env) Q E s := by
  induction x with
  | cons x xs _ ih =>
    intro σ S s b Q h hc H a R hq
    replace hc := an3 hc
    unfold orT at h
    obtain ⟨c, σ1, h1, h⟩ := bn2_at h
    cases c with
    | true =>
      cases h
      exact wpAny_allTrue_Or_cons (I.t h1 hc.1.2 H a R fun S1 s1 R1 G1 => hq _ _ R1 G1)
    | false =>
      exact wpAny_allTrue_Or_cons (I.t h1 hc.1.2 H a R fun S1 s1 R1 G1 => ih h hc.2 (H.grow G1) a R1 fun S2 s2 R2 G2 => hq _ _ R2 (G1.trans G2))
  | _ =>
    intro σ S s b Q h hc H a R hq
    cases h
    exact wpAny_allTrue_Or_nil (hq _ _ R (Grow.refl ..))
theorem stepT_sound {r : Ev} (HK : K.Ok C.ι) (I : SE C M r) {x : X} {b : Bool} (h : stepT K r en x σ = some (b, σ')) (hc : chkX M en.f x = true)
    {Q : Bool → Shared → Prop} (H : EnvOk C M env en S A s) (a : AOk A en.d) (R : Rel C σ S s)
    (hq : ∀ S' s', Rel C σ' S' s' → Grow C S s S' s' → Q b s') : wpAny (model C.prog C.w) A (PySem.isTrue (toE M en.f x) env (eval (toE M en.f x) env)) Q E s := by
  have val : plainT x = true → valT K r en x σ = some (b, σ') → wpAny (model C.prog C.w) A (PySem.isTrue (toE M en.f x) env (eval (toE M en.f x) env)) Q E s := by
    intro hp h
    unfold valT at h
    obtain ⟨v, σ1, h1, h⟩ := bn2_at h
    obtain ⟨c, hb, h⟩ := bnd_at h
    cases h
    exact wpAny_isTrue_value (I.e h1 hc H a R fun S1 s1 u R1 G1 V1 => truthAt_sound HK R1 hb V1 fun s2 R2 G2 => hq _ _ R2 (G1.trans G2)) (isTrue_of _ hp _)
  unfold stepT at h
  cases x with
  | cmp o x y p =>
    replace hc := an2 hc
    obtain ⟨va, σ1, h1, h⟩ := bn2_at h
    obtain ⟨vb, σ2, h2, h⟩ := bn2_at h
    obtain ⟨c, h3, h⟩ := bnd_at h
    cases h
    refine wpAny_isTrue_Compare1 (I.e h1 hc.1 H a R fun S1 s1 u R1 G1 V1 => ?_) (behind_of _ _ _)
    refine I.e h2 hc.2 (H.grow G1) a R1 fun S2 s2 u2 R2 G2 V2 => ?_
    exact cmpAV_sound HK R2 h3 (G2.rv V1) V2 a.units' (wpAny_truthy_bool (hq _ _ R2 (G1.trans G2)))
  | or xs p => exact wpAny_isTrue_BoolOp (orT_sound I h hc H a R hq)
  | not x p =>
    replace hc : chkX M en.f x = true := hc
    obtain ⟨c, σ1, h1, h⟩ := bn2_at h
    cases h
    exact wpAny_isTrue_Not (I.t h1 hc H a R hq)
  | ifx t x y p => cases h
  | _ => exact val rfl h
end
end Mine

namespace Mine
section
variable {C : WC} {M : Mod} {env : Env} {en : AEnv} {S S' : List Addr} {s s' : Shared} {σ σ' : St} {K : Facts} {A : Around} {E : Value → Shared → Prop} {Q : Value → Shared → Prop}

/-- an object that is there already becomes ours -/
theorem Rel.adopt (R : Rel C σ S s) (hb : σ.n < 4096) {ao : AObj} {a : Addr} (hn : a ∉ S) (hh : C.hb.get? a = none) (H : RO C (S ++ [a]) s.heap a ao) : Rel C (σ.new ao) (S ++ [a]) s := by
  have hat : (S ++ [a])[σ.n]? = some a := by rw [← R.len]; simp
  refine ⟨R.keep, R.dom, nodup_new R hb hn, fun b hb => ?_, by simp [St.new, R.len], fun j x e => ?_, R.bare, R.os, fun i b e => getElem?_append_of (R.ta i b e) _⟩
  · rcases List.mem_append.mp hb with h | h
    · exact R.off b h
    · rw [List.mem_singleton.mp h]; exact ⟨hh, H.some⟩
  · have e' : (σ.put σ.n ao).h.get j = some x := e
    rw [St.get_put hb] at e'
    by_cases hj : j = σ.n
    · subst hj
      rw [if_pos rfl] at e'
      cases e'
      exact ⟨a, hat, H⟩
    · rw [if_neg hj] at e'
      obtain ⟨b, hb, Hb⟩ := R.objs j x e'
      exact ⟨b, getElem?_append_of hb _, Hb.mono [a]⟩
theorem memN_at {i : Nat} : ∀ {l : List Nat}, memN i l = true → ∃ p : Nat, l[p]? = some i
  | a :: r, h => by
    unfold memN at h
    split at h
    · rename_i e
      exact ⟨0, by rw [Nat.eq_of_beq_eq_true e]; rfl⟩
    · obtain ⟨p, hp⟩ := memN_at h
      exact ⟨p + 1, by simpa using hp⟩
  | [], h => by cases h
theorem memN_of {i : Nat} : ∀ {l : List Nat} {p : Nat}, l[p]? = some i → memN i l = true
  | a :: r, 0, h => by cases h; simp [memN]
  | a :: r, p + 1, h => by
    unfold memN
    split
    · rfl
    · exact memN_of (p := p) (by simpa using h)
  | [], p, h => by simp at h
theorem maskF_len (cells : List Nat) : ∀ (j : Nat) (vs : List AV), (maskF cells j vs).length = vs.length
  | _, [] => rfl
  | j, v :: r => by simp [maskF, maskF_len cells (j + 1) r]
theorem maskF_at (cells : List Nat) : ∀ (j : Nat) (vs : List AV) (i : Nat) (x : Option AV), (maskF cells j vs)[i]? = some x → ∃ v, vs[i]? = some v ∧ x = match memN (j + i) cells with | true => none | false => some v
  | _, [], i, x, h => by simp [maskF] at h
  | j, v :: r, 0, x, h => by
    simp only [maskF, List.getElem?_cons_zero, Option.some.injEq] at h
    exact ⟨v, rfl, h.symm⟩
  | j, v :: r, i + 1, x, h => by
    simp only [maskF, List.getElem?_cons_succ] at h
    obtain ⟨w, h1, h2⟩ := maskF_at cells (j + 1) r i x h
    exact ⟨w, by simpa using h1, by rw [h2, show j + 1 + i = j + (i + 1) by omega]⟩
theorem newCells_sound {vs : List AV} : ∀ {cells : List Nat} {σ σ1 : St} {S : List Addr} {base : Nat} {cs : List (Nat × Nat)}, newCells vs cells σ = some (cs, σ1) → Rel C σ S s →
    (∀ p i, cells[p]? = some i → RO C S s.heap (base + p) (.cell (nth vs i)) ∧ base + p ∉ S ∧ C.hb.get? (base + p) = none) →
    Rel C σ1 (S ++ List.range' base cells.length) s ∧ ∀ i c, lkN cs i = some c → ∃ p, cells[p]? = some i ∧ (S ++ List.range' base cells.length)[c]? = some (base + p)
  | [], σ, σ1, S, base, cs, h, R, H => by
    cases h
    exact ⟨by simpa using R, fun i c h => by cases h⟩
  | k :: r, σ, σ1, S, base, cs, h, R, H => by
    unfold newCells at h
    split at h
    · rename_i hb
      split at h
      · rename_i l σ2 h2
        cases h
        have hb' : σ.n < 4096 := Nat.le_of_ble_eq_true hb
        obtain ⟨z1, z2, z3⟩ := H 0 k rfl
        rw [Nat.add_zero] at z1 z2 z3
        have R1 := R.adopt hb' (ao := .cell (nth vs k)) z2 z3 (z1.mono _)
        obtain ⟨R2, L2⟩ := newCells_sound (base := base + 1) h2 R1 (fun p i hp => by
          obtain ⟨y1, y2, y3⟩ := H (p + 1) i (by simpa using hp)
          have e : base + (p + 1) = base + 1 + p := by omega
          rw [e] at y1 y2 y3
          refine ⟨y1.mono _, fun hm => ?_, y3⟩
          rcases List.mem_append.mp hm with q | q
          · exact y2 q
          · have := List.mem_singleton.mp q
            omega)
        have e : S ++ [base] ++ List.range' (base + 1) r.length = S ++ List.range' base (k :: r).length := by
          rw [List.length_cons, List.range'_succ, List.append_assoc]; rfl
        rw [e] at R2 L2
        refine ⟨R2, fun i c h => ?_⟩
        rw [lkN_cons] at h
        split at h
        · rename_i hk
          cases h
          have hk' : k = i := hk
          refine ⟨0, by simp [hk'], ?_⟩
          rw [← R.len, List.length_cons, List.range'_succ]
          simp
        · obtain ⟨p, h1, h2⟩ := L2 i c h
          refine ⟨p + 1, by simpa using h1, ?_⟩
          rw [h2]
          congr 1
          omega
      · cases h
    · cases h
theorem bindL_at (kindOf : Str → Option NameKind) : ∀ (binds : List (Str × Value)) (m : Str → Option Value), (binds.map (·.1)).Nodup →
    (∀ n v, (n, v) ∈ binds → kindOf n = some .local → bindL kindOf binds m n = some v) ∧ ∀ x, x ∉ binds.map (·.1) ∨ kindOf x ≠ some .local → bindL kindOf binds m x = m x
  | [], m, _ => ⟨(fun n v h => by cases h), fun x _ => rfl⟩
  | (n, v) :: r, m, hn => by
    obtain ⟨n1, n2⟩ := List.nodup_cons.mp hn
    obtain ⟨r1, r2⟩ := bindL_at kindOf r (if kindOf n = some .local then fun y => if y = n then some v else m y else m) n2
    unfold bindL
    refine ⟨fun n' v' h hk => ?_, fun x hx => ?_⟩
    · rcases List.mem_cons.mp h with e | h
      · cases e
        rw [r2 n (.inl n1), if_pos hk]; simp
      · exact r1 n' v' h hk
    · have hx2 : x ∉ r.map (·.1) ∨ kindOf x ≠ some .local := hx.imp (fun h q => h (List.mem_cons_of_mem _ q)) id
      rw [r2 x hx2]
      by_cases hk : kindOf n = some .local
      · rw [if_pos hk]
        have hx1 : x ≠ n := by
          rintro rfl
          rcases hx with h | h
          · exact h List.mem_cons_self
          · exact h hk
        simp [hx1]
      · rw [if_neg hk]
theorem bindC_at (kindOf : Str → Option NameKind) : ∀ (binds : List (Str × Value)) (m : Str → Option Value), (binds.map (·.1)).Nodup →
    (∀ n v, (n, v) ∈ binds → kindOf n ≠ some .local → bindC kindOf binds m n = some v) ∧ ∀ x, x ∉ binds.map (·.1) → bindC kindOf binds m x = m x
  | [], m, _ => ⟨(fun n v h => by cases h), fun x _ => rfl⟩
  | (n, v) :: r, m, hn => by
    obtain ⟨n1, n2⟩ := List.nodup_cons.mp hn
    obtain ⟨r1, r2⟩ := bindC_at kindOf r (if kindOf n = some .local then m else fun y => if y = n then some v else m y) n2
    unfold bindC
    refine ⟨fun n' v' h hk => ?_, fun x hx => ?_⟩
    · rcases List.mem_cons.mp h with e | h
      · cases e
        rw [r2 n n1, if_neg hk]; simp
      · exact r1 n' v' h hk
    · rw [r2 x fun q => hx (List.mem_cons_of_mem _ q)]
      by_cases hk : kindOf n = some .local
      · rw [if_pos hk]
      · rw [if_neg hk]
        have hx1 : x ≠ n := fun e => hx (by rw [e]; exact List.mem_cons_self)
        simp [hx1]
noncomputable def ROut (C : WC) (S : List Addr) : Out → Flow → Prop
  | .next, f => f = .next
  | .brk, f => f = .brk
  | .ret v, f => ∃ u, f = .ret u ∧ RV C S v u
structure SS (C : WC) (M : Mod) (r : Ev) : Prop extends SE C M r where
  s : ∀ {en : AEnv} {y : Y} {σ : St} {o : Out} {σ' : St}, r.s en y σ = some (o, σ') → chkY M en.f y = true →
    ∀ {env : Env} {A : Around} {S : List Addr} {E : Value → Shared → Prop} {s : Shared} {Q : Flow → Shared → Prop}, EnvOk C M env en S A s → AOk A en.d → Rel C σ S s →
    (∀ S' s' f, Rel C σ' S' s' → Grow C S s S' s' → ROut C S' o f → Q f s') → wpAny (model C.prog C.w) A (exec (toS M en.f y) env) Q E s
  ss : ∀ {en : AEnv} {y : Y} {σ : St} {o : Out} {σ' : St}, r.ss en y σ = some (o, σ') → chkY M en.f y = true →
    ∀ {env : Env} {A : Around} {S : List Addr} {E : Value → Shared → Prop} {s : Shared} {Q : Flow → Shared → Prop}, EnvOk C M env en S A s → AOk A en.d → Rel C σ S s →
    (∀ S' s' f, Rel C σ' S' s' → Grow C S s S' s' → ROut C S' o f → Q f s') → wpAny (model C.prog C.w) A (execs (toSs M en.f y) env) Q E s
/-- what a def by hand must show -/
noncomputable def PrimOk (C : WC) (M : Mod) (P : Nat → List AV → St → Option (AV × St)) : Prop :=
  ∀ {k n : Nat}, M.fn k = some (.prim n) → ∀ {vs : List AV} {σ : St} {av : AV} {σ' : St}, P n vs σ = some (av, σ') →
    ∀ {A : Around} {d : Nat} {S : List Addr} {E : Value → Shared → Prop} {s : Shared} {Q : Value → Shared → Prop} {us : List Value} {a : Addr}, C.mg (M.fnm k) = some (.ref a) → AOk A d → Stk C S A s → d = 0 → Rel C σ S s → RVs C S vs us →
    (∀ S' s' v, Rel C σ' S' s' → Grow C S s S' s' → RV C S' av v → Q v s') → wpAny (model C.prog C.w) A (call (.ref a) us) Q E s
theorem rvs_some {vs : List AV} {us : List Value} (h : RVs C S vs us) (i : Nat) {v : AV} (e : vs[i]? = some v) : ∃ u, us[i]? = some u ∧ RV C S v u := h.get e
theorem blanks_at : ∀ (n i : Nat) (x : Option AV), (blanks n)[i]? = some x → x = none
  | 0, i, x, h => by simp [blanks] at h
  | n + 1, 0, x, h => by simp [blanks] at h; exact h.symm
  | n + 1, i + 1, x, h => blanks_at n i x (by simpa [blanks] using h)
theorem blanks_len : ∀ n : Nat, (blanks n).length = n
  | 0 => rfl
  | n + 1 => by simp [blanks, blanks_len n]
theorem callFn_sound {P : Nat → List AV → St → Option (AV × St)} (O : MOk C M) (HP : PrimOk C M P) {r : Ev} (I : SS C M r) {d k : Nat} {vs : List AV} {us : List Value} {av : AV} (h : callFn M P r d k vs σ = some (av, σ'))
    (a : AOk A d) (T : Stk C S A s) (R : Rel C σ S s) (hv : RVs C S vs us) {fa : Addr} (hfa : C.mg (M.fnm k) = some (.ref fa))
    (hq : ∀ S' s' v, Rel C σ' S' s' → Grow C S s S' s' → RV C S' av v → Q v s') : wpAny (model C.prog C.w) A (call (.ref fa) us) Q E s := by
  unfold callFn at h
  obtain ⟨F, hfn, h⟩ := bnd_at h
  cases F with
  | prim n =>
    obtain ⟨hd, h⟩ := oif_at h
    exact HP hfn h hfa a T (Nat.eq_of_beq_eq_true hd) R hv hq
  | prog np nl cells body =>
    obtain ⟨hcond, h⟩ := oif_at h
    obtain ⟨⟨hc1, hc2⟩, hc3⟩ := an3 hcond
    have hnp : vs.length = np := (lenN_eq vs).symm.trans (Nat.eq_of_beq_eq_true hc1)
    have hd : d < 40 := Nat.le_of_ble_eq_true hc2
    have hσ : σ.n < 4096 := Nat.le_of_ble_eq_true hc3
    obtain ⟨cs, σ1, hcs, h⟩ := bn2_at h
    obtain ⟨a', o, fd, g1, g2, g3, g4, g5⟩ := O.fn _ _ hfn
    have : a' = fa := by rw [hfa] at g1; cases g1; rfl
    subst this
    obtain ⟨pm, cd, doc, rfl, c, oc, fs, tq, rfl, q2, q3, q4, q5⟩ := g5 _ _ _ _ rfl
    obtain ⟨p1, p2, p3, p4, p5⟩ := O.pg _ _ _ _ _ hfn
    have hul := hv.length
    have hkeys : ∀ x ∈ ((List.range np).map (M.nm k)).zip us, ∃ i, i < np ∧ x.1 = M.nm k i := by
      intro x hx
      obtain ⟨x1, x2⟩ := x
      have := (List.of_mem_zip hx).1
      obtain ⟨i, hi, e⟩ := List.mem_map.mp this
      exact ⟨i, by simpa using hi, e.symm⟩
    have hlook : ∀ n p i, cells[p]? = some i → ∃ x, (M.sc k).names[i]? = some (x, NameKind.cell) ∧ (cellsFrom n (M.sc k).names []).lookup x = some (n + p) := fun n p i hp => p5 n p i hp
    have hlocal : ∀ x ∈ ((List.range np).map (M.nm k)).zip us, (M.sc k).names.lookup x.1 = some .local ∨ ((M.sc k).names.lookup x.1 = some .cell ∧ ((cellsFrom (s.heap.objs.size + 1) (M.sc k).names []).lookup x.1).isSome = true) := by
      intro x hx
      obtain ⟨i, hi, e⟩ := hkeys x hx
      obtain ⟨y, kd, hy, hk⟩ := p3 i hi
      rw [e, nm_at hy]
      rcases hk with rfl | ⟨rfl, hk⟩
      · exact .inl (O.look _ _ _ _ hy)
      · obtain ⟨p, hp⟩ := memN_at hk
        obtain ⟨x, hx1, hx2⟩ := hlook (s.heap.objs.size + 1) p i hp
        rw [hy] at hx1
        cases hx1
        exact .inr ⟨O.look _ _ _ _ hy, by rw [hx2]; rfl⟩
    have hnames : ((((List.range np).map (M.nm k)).zip us).map (·.1)) = (List.range np).map (M.nm k) := by
      rw [List.map_fst_zip]; simp; omega
    have hinj : ∀ i j, i < np → j < (M.sc k).names.length → M.nm k i = M.nm k j → i = j := by
      intro i j hi hj e
      obtain ⟨x, kd, hx, _⟩ := p3 i hi
      have hj' : (M.sc k).names[j]? = some ((M.sc k).names[j].1, (M.sc k).names[j].2) := by rw [List.getElem?_eq_getElem hj]
      rw [nm_at hx, nm_at hj'] at e
      rw [← e] at hj'
      exact O.inj _ _ _ _ _ _ hx hj'
    have hnd : ((((List.range np).map (M.nm k)).zip us).map (·.1)).Nodup := by
      rw [hnames]
      refine List.pairwise_map.mpr (List.Pairwise.imp_of_mem (fun {x y} hx hy hne e => hne (hinj x y (by simpa using hx) ?_ e)) List.nodup_range)
      have : y < np := by simpa using hy
      omega
    have hcode : s.heap.CodeRec (.ref c) (M.fnm k) := ⟨c, oc, fs, tq, rfl, R.keep c oc q3 q2, q4, q5⟩
    have ar := a.depth
    have ad := a.d
    have hroom : A.depth < recursionLimit := by
      have : recursionLimit = 1000 := by decide
      omega
    have fresh : ∀ b, s.heap.objs.size ≤ b → s.heap.get? b = none := by
      intro b hb
      cases q : s.heap.get? b with
      | none => rfl
      | some o => exact absurd (Heap.lt_size q) (Nat.not_lt.mpr hb)
    have hbfresh : ∀ b, s.heap.objs.size ≤ b → C.hb.get? b = none := by
      intro b hb
      cases q : C.hb.get? b with
      | none => rfl
      | some o =>
        obtain ⟨o', e'⟩ := R.dom b o q
        rw [fresh b hb] at e'
        cases e'
    have nots : ∀ b, s.heap.objs.size ≤ b → b ∉ S := by
      intro b hb hm
      obtain ⟨_, o, e⟩ := R.off b hm
      rw [fresh b hb] at e
      cases e
    refine wpAny_call (codeAny_call_cells (fd := docDef (M.fnm k) (M.par k) (toSs M k body) (M.sc k) pm (.ref c) doc) hroom (R.keep a' o g2 g3) g4 (R.lim O) hcode rfl (p4 us pm (.ref c) doc (by omega)) rfl
      hlocal (fun s₁ X => ?_) (O.co k) (O.gen k) (O.kind k))
    obtain ⟨h', tk, rfl, hkeep⟩ := X.done
    obtain ⟨R0, G0⟩ := R.same (h' := h') (t' := tk) hkeep
    have hm : bindL (callEnvC (docDef (M.fnm k) (M.par k) (toSs M k body) (M.sc k) pm (.ref c) doc) s.heap.objs.size a').kindOf (((List.range np).map (M.nm k)).zip us) (fun _ => none) = bindL (fun x => (M.sc k).names.lookup x) (((List.range np).map (M.nm k)).zip us) (fun _ => none) := rfl
    obtain ⟨b1, b2⟩ := bindL_at (fun x => (M.sc k).names.lookup x) (((List.range np).map (M.nm k)).zip us) (fun _ => none) hnd
    obtain ⟨d1, d2⟩ := bindC_at (fun x => (M.sc k).names.lookup x) (((List.range np).map (M.nm k)).zip us) (fun _ => none) hnd
    have hmem : ∀ i u, us[i]? = some u → i < np → (M.nm k i, u) ∈ ((List.range np).map (M.nm k)).zip us := by
      intro i u hu hin
      have hu' : i < us.length := by omega
      refine List.mem_iff_getElem.mpr ⟨i, by simp; omega, ?_⟩
      rw [List.getElem_zip]
      simp only [List.getElem_map, List.getElem_range, Prod.mk.injEq, true_and]
      rw [List.getElem?_eq_getElem hu'] at hu
      exact Option.some.inj hu
    have hoff : ∀ i, np ≤ i → i < (M.sc k).names.length → M.nm k i ∉ ((((List.range np).map (M.nm k)).zip us).map (·.1)) := by
      intro i hin hlen hm
      rw [hnames] at hm
      obtain ⟨j, hj, e⟩ := List.mem_map.mp hm
      have hj' : j < np := by simpa using hj
      have := hinj j i hj' hlen e
      omega
    have hframe : RO C (S ++ [s.heap.objs.size]) h' s.heap.objs.size (.frame k (maskF cells 0 vs ++ blanks nl)) := by
      refine ⟨by rw [List.length_append, maskF_len, blanks_len, O.cnt]; omega, _, X.toInCall.ns, fun i x hi => ?_⟩
      rw [hm, O.nm]
      by_cases hin : i < np
      · rw [List.getElem?_append_left (by rw [maskF_len]; omega)] at hi
        obtain ⟨v, hv1, hx⟩ := maskF_at _ _ _ _ _ hi
        rw [Nat.zero_add] at hx
        obtain ⟨u, hu, ru⟩ := hv.get hv1
        obtain ⟨y, kd, hy, hk⟩ := p3 i hin
        cases hmc : memN i cells with
        | true =>
          rw [hmc] at hx
          subst hx
          obtain ⟨p, hp⟩ := memN_at hmc
          obtain ⟨x, hx1, _⟩ := hlook 0 p i hp
          refine b2 _ (.inr ?_)
          rw [nm_at hx1, O.look _ _ _ _ hx1]
          decide
        | false =>
          rw [hmc] at hx
          subst hx
          refine ⟨u, b1 _ _ (hmem i u hu hin) ?_, ru.mono _⟩
          rcases hk with rfl | ⟨_, hk⟩
          · rw [nm_at hy]; exact O.look _ _ _ _ hy
          · rw [hmc] at hk; cases hk
      · rw [List.getElem?_append_right (by rw [maskF_len]; omega)] at hi
        have hx := blanks_at _ _ _ hi
        subst hx
        have hlen := (List.getElem?_eq_some_iff.mp hi).1
        rw [blanks_len, maskF_len] at hlen
        exact b2 _ (.inl (hoff i (by omega) (by omega)))
    have R1 := R0.adopt hσ (nots _ (Nat.le_refl _)) (hbfresh _ (Nat.le_refl _)) hframe
    have hC : bindC (callEnvC (docDef (M.fnm k) (M.par k) (toSs M k body) (M.sc k) pm (.ref c) doc) s.heap.objs.size a').kindOf (((List.range np).map (M.nm k)).zip us) (fun _ => none) = bindC (fun x => (M.sc k).names.lookup x) (((List.range np).map (M.nm k)).zip us) (fun _ => none) := rfl
    obtain ⟨R2, L2⟩ := newCells_sound (base := s.heap.objs.size + 1) hcs R1 (fun p i hp => by
      obtain ⟨x, hx1, hx2⟩ := hlook (s.heap.objs.size + 1) p i hp
      have hcell := X.cell x _ hx2
      rw [hC] at hcell
      refine ⟨⟨_, hcell, ?_⟩, fun hmem => ?_, hbfresh _ (by omega)⟩
      · rw [nth_eq]
        cases hvi : vs[i]? with
        | none =>
          have hle := List.getElem?_eq_none_iff.mp hvi
          rw [d2 x (by rw [← nm_at hx1]; exact hoff i (by omega) (List.getElem?_eq_some_iff.mp hx1).1)]
          exact rfl
        | some v =>
          obtain ⟨u, hu, ru⟩ := hv.get hvi
          have hlt := (List.getElem?_eq_some_iff.mp hvi).1
          have hd1 := d1 _ _ (hmem i u hu (by omega)) (by rw [nm_at hx1, O.look _ _ _ _ hx1]; decide)
          rw [nm_at hx1] at hd1
          exact ⟨u, hd1, ru.mono _⟩
      · rcases List.mem_append.mp hmem with q | q
        · exact nots _ (by omega) q
        · have := List.mem_singleton.mp q
          omega)
    have G2 : Grow C S s (S ++ [s.heap.objs.size] ++ List.range' (s.heap.objs.size + 1) cells.length) { s with heap := h', toks := tk } := by
      refine ⟨⟨[s.heap.objs.size] ++ List.range' (s.heap.objs.size + 1) cells.length, by rw [List.append_assoc], fun b hb => ?_⟩, G0.out, G0.dom, G0.dict, G0.gens, G0.slot⟩
      rcases List.mem_append.mp hb with q | q
      · exact fresh b (by rw [List.mem_singleton.mp q]; exact Nat.le_refl _)
      · exact fresh b (by have := (List.mem_range'_1.mp q).1; omega)
    have H2 : EnvOk C M (callEnvC (docDef (M.fnm k) (M.par k) (toSs M k body) (M.sc k) pm (.ref c) doc) s.heap.objs.size a') ⟨k, σ.n, cs, d + 1⟩ (S ++ [s.heap.objs.size] ++ List.range' (s.heap.objs.size + 1) cells.length) (A.deeper (callEnvC (docDef (M.fnm k) (M.par k) (toSs M k body) (M.sc k) pm (.ref c) doc) s.heap.objs.size a')) { s with heap := h', toks := tk } := by
      refine ⟨?_, fun _ => let ⟨l, q, _⟩ := T; ⟨l, by show A.frames.map _ = _; rw [q]; rfl⟩, O.kind k, rfl, rfl, ?_, fun i x hx => O.look _ _ _ _ hx, fun i x hx => O.look _ _ _ _ hx, fun x hx => hx, fun k' n hn e => ?_, fun i c hc => ?_⟩
      · obtain ⟨o', ho', hd'⟩ := RO.dict_of hframe rfl
        refine (T.grow G2).deeper (e := callEnvC (docDef (M.fnm k) (M.par k) (toSs M k body) (M.sc k) pm (.ref c) doc) s.heap.objs.size a') (a := s.heap.objs.size) (o := o') (fun e => ?_) rfl (by simp) ho' hd'
        have e : (M.sc k).kind = .module := e
        rw [O.kind k] at e
        cases e
      · show (S ++ [s.heap.objs.size] ++ List.range' (s.heap.objs.size + 1) cells.length)[σ.n]? = some s.heap.objs.size
        rw [← R.len]; simp
      · have e : n.mkr = k := e
        obtain ⟨P, z1, z2, z3, z4⟩ := O.made k' n hn
        rw [e] at z4 ⊢
        obtain ⟨c', y1, y2⟩ := z4 a' o _ hfa g2 g4
        exact ⟨c', P, y1, z1, y2, rfl⟩
      · obtain ⟨p, hp1, hp2⟩ := L2 i c hc
        obtain ⟨x, hx1, hx2⟩ := hlook (s.heap.objs.size + 1) p i hp1
        exact ⟨x, .cell, _, hx1, hp2, hx2, .inl (O.look _ _ _ _ hx1)⟩
    have A2 : AOk (A.deeper (callEnvC (docDef (M.fnm k) (M.par k) (toSs M k body) (M.sc k) pm (.ref c) doc) s.heap.objs.size a')) (d + 1) := by
      have au := a.units
      refine ⟨a.handled, ?_, ?_, by omega⟩
      · show A.depth + 1 ≤ _
        omega
      · show A.units + 3 ≤ _
        omega
    obtain ⟨o2, σ2, hb, h⟩ := bn2_at h
    replace h := outV_at h
    obtain ⟨rfl, h⟩ := h
    rcases h with rfl | ⟨rfl, rfl⟩
    · refine I.ss hb p1 H2 A2 R2 fun S3 s3 f R3 G3 V3 => ?_
      obtain ⟨u, rfl, hu⟩ := V3
      exact hq _ _ _ R3 (G2.trans G3) hu
    · refine I.ss hb p1 H2 A2 R2 fun S3 s3 f R3 G3 V3 => ?_
      have hf : f = .next := V3
      subst hf
      exact hq _ _ _ R3 (G2.trans G3) rfl
theorem lookup_nodup : ∀ {l : List (Str × Value)} {n : Str} {v : Value}, (l.map (·.1)).Nodup → (n, v) ∈ l → l.lookup n = some v
  | p :: r, n, v, hn, hm => by
    rw [List.lookup_cons]
    obtain ⟨n1, n2⟩ := List.nodup_cons.mp hn
    rcases List.mem_cons.mp hm with e | hm
    · rw [← e]; simp
    · have : (n == p.1) = false := by
        rw [beq_eq_false_iff_ne]
        intro e
        exact n1 (List.mem_map.mpr ⟨(n, v), hm, e⟩)
      rw [this]
      exact lookup_nodup n2 hm
  | [], _, _, _, hm => by cases hm
theorem lookup_off : ∀ {l : List (Str × Value)} {n : Str}, n ∉ l.map (·.1) → l.lookup n = none
  | p :: r, n, h => by
    rw [List.lookup_cons]
    have : (n == p.1) = false := by
      rw [beq_eq_false_iff_ne]
      intro e
      exact h (by rw [e]; exact List.mem_cons_self)
    rw [this]
    exact lookup_off fun q => h (List.mem_cons_of_mem _ q)
  | [], _, _ => rfl
theorem lkN_some {l : List (Nat × Nat)} {i c : Nat} (h : lkN l i = some c) : (i, c) ∈ l := by
  induction l with
  | nil => cases h
  | cons p r ih =>
    rw [lkN_cons] at h
    split at h
    · rename_i e
      cases h
      rw [← e]; exact List.mem_cons_self
    · exact List.mem_cons_of_mem _ (ih h)
theorem keysIn_get {fm : List (Nat × Nat)} : ∀ {cs : List (Nat × Nat)}, keysIn cs fm = true → ∀ {i c : Nat}, (i, c) ∈ cs → ∃ y, lkN fm i = some y
  | p :: r, h, i, c, hm => by
    unfold keysIn at h
    split at h
    · rename_i y hy
      rcases List.mem_cons.mp hm with e | hm
      · rw [← e] at hy; exact ⟨y, hy⟩
      · exact keysIn_get h hm
    · cases h
  | [], _, _, _, hm => by cases hm
theorem okCells_get {fc f : Nat} : ∀ {fm : List (Nat × Nat)}, okCells M fc f fm = true → ∀ {i y : Nat}, (i, y) ∈ fm → ∃ x k, (M.sc fc).names[i]? = some (x, NameKind.free) ∧ (M.sc f).names[y]? = some (x, k)
  | p :: r, h, i, y, hm => by
    unfold okCells at h
    obtain ⟨h1, h2⟩ := Bool.and_eq_true_iff.mp h
    rcases List.mem_cons.mp hm with e | hm
    · rw [← e] at h1
      split at h1
      · rename_i x k y' k' e1 e2
        obtain ⟨q1, q2⟩ := Bool.and_eq_true_iff.mp h1
        rw [eqS_iff] at q2
        have : x = y' := eq_of_beq q2
        subst this
        have e1' : (M.sc fc).names[i]? = some (x, k) := e1
        have e2' : (M.sc f).names[y]? = some (x, k') := e2
        exact ⟨x, k', by rw [e1', kindEq_iff q1], e2'⟩
      · cases h1
    · exact okCells_get h2 hm
  | [], _, _, _, hm => by cases hm
/-- a call of an inner def -/
theorem callInn_sound (O : MOk C M) {r : Ev} (I : SS C M r) {d fi : Nat} {vs : List AV} {us : List Value} {av : AV} (h : callInn M r d fi vs σ = some (av, σ'))
    (a : AOk A d) (T : Stk C S A s) (R : Rel C σ S s) (hv : RVs C S vs us) {fa : Addr} (hfa : S[fi]? = some fa)
    (hq : ∀ S' s' v, Rel C σ' S' s' → Grow C S s S' s' → RV C S' av v → Q v s') : FnAt fa s.heap ∧ wpAny (model C.prog C.w) A (call (.ref fa) us) Q E s := by
  unfold callInn at h
  obtain ⟨k, cs, ci, hf, h⟩ := asFunc_at ns h
  obtain ⟨n, hn, h⟩ := bnd_at h
  obtain ⟨q, hcode, h⟩ := asCode_at ns h
  obtain ⟨hcond, h⟩ := oif_at h
  obtain ⟨⟨⟨⟨hc1, hc2⟩, hc3⟩, hqe⟩, hkeys'⟩ := an5 hcond
  have hnp : vs.length = n.np := (lenN_eq vs).symm.trans (Nat.eq_of_beq_eq_true hc1)
  have hd : d < 40 := Nat.le_of_ble_eq_true hc2
  have hσ : σ.n < 4096 := Nat.le_of_ble_eq_true hc3
  rw [eqS_iff] at hqe
  have hqe : q = n.q := eq_of_beq hqe
  obtain ⟨fa', hfa', o, cl, b, ho, hfo, _, hb, hcl⟩ := R.objs _ _ hf
  have : fa' = fa := by rw [hfa] at hfa'; exact (Option.some.inj hfa').symm
  subst this
  obtain ⟨b', hb', hrec⟩ := R.objs _ _ hcode
  have : b' = b := by rw [hb] at hb'; exact (Option.some.inj hb').symm
  subst this
  have hrec : s.heap.CodeRec (.ref b') q := hrec
  rw [hqe] at hrec
  obtain ⟨n', hn', nm, doc, pm, ctv, rfl⟩ := O.fo _ _ _ _ hfo
  have : n' = n := by rw [hn] at hn'; exact (Option.some.inj hn').symm
  subst this
  obtain ⟨j1, j2, j3, j4, j5, j6, j7, j8, j9, j10, j11, j12⟩ := O.inn _ _ hn
  refine ⟨⟨_, _, _, _, ho⟩, ?_⟩
  have hul := hv.length
  have hkeys : ∀ x ∈ ((List.range n'.np).map (M.nm k)).zip us, ∃ i, i < n'.np ∧ x.1 = M.nm k i := by
    intro x hx
    obtain ⟨x1, x2⟩ := x
    have := (List.of_mem_zip hx).1
    obtain ⟨i, hi, e⟩ := List.mem_map.mp this
    exact ⟨i, by simpa using hi, e.symm⟩
  have hlocal : ∀ x ∈ ((List.range n'.np).map (M.nm k)).zip us, (M.sc k).names.lookup x.1 = some .local := by
    intro x hx
    obtain ⟨i, hi, e⟩ := hkeys x hx
    obtain ⟨y, hy⟩ := j6 i hi
    rw [e, nm_at hy]
    exact O.look _ _ _ _ hy
  have hnames : ((((List.range n'.np).map (M.nm k)).zip us).map (·.1)) = (List.range n'.np).map (M.nm k) := by
    rw [List.map_fst_zip]; simp; omega
  have hinj : ∀ i j, i < n'.np → j < (M.sc k).names.length → M.nm k i = M.nm k j → i = j := by
    intro i j hi hj e
    obtain ⟨x, hx⟩ := j6 i hi
    have hj' : (M.sc k).names[j]? = some ((M.sc k).names[j].1, (M.sc k).names[j].2) := by rw [List.getElem?_eq_getElem hj]
    rw [nm_at hx, nm_at hj'] at e
    rw [← e] at hj'
    exact O.inj _ _ _ _ _ _ hx hj'
  have hnd : ((((List.range n'.np).map (M.nm k)).zip us).map (·.1)).Nodup := by
    rw [hnames]
    refine List.pairwise_map.mpr (List.Pairwise.imp_of_mem (fun {x y} hx hy hne e => hne (hinj x y (by simpa using hx) ?_ e)) List.nodup_range)
    have : y < n'.np := by simpa using hy
    omega
  have ar := a.depth
  have ad := a.d
  have hroom : A.depth < recursionLimit := by
    have : recursionLimit = 1000 := by decide
    omega
  have fresh : ∀ b, s.heap.objs.size ≤ b → s.heap.get? b = none := by
    intro b hb
    cases q : s.heap.get? b with
    | none => rfl
    | some o => exact absurd (Heap.lt_size q) (Nat.not_lt.mpr hb)
  have hbfresh : ∀ b, s.heap.objs.size ≤ b → C.hb.get? b = none := by
    intro b hb
    cases q : C.hb.get? b with
    | none => rfl
    | some o =>
      obtain ⟨o', e'⟩ := R.dom b o q
      rw [fresh b hb] at e'
      cases e'
  have nots : ∀ b, s.heap.objs.size ≤ b → b ∉ S := by
    intro b hb hm
    obtain ⟨_, o, e⟩ := R.off b hm
    rw [fresh b hb] at e
    cases e
  refine wpAny_call (codeAny_call_function hroom ho rfl (O.co k) (O.gen k) rfl hrec ?_)
  rw [j10 nm cl us doc pm (.ref b') ctv (by omega)]
  refine wpAny_pure (wpAny_newFunctionEnv j11 hlocal (fun h' hns hsb => ?_) (O.kind k))
  have hkeep : ∀ b o, s.heap.get? b = some o → h'.get? b = some o := fun b o e => by
    have hne : b ≠ s.heap.objs.size := fun q => by rw [q, get_size] at e; cases e
    rw [hsb.2 b hne]
    exact Heap.get?_push_of_some _ e
  obtain ⟨R0, G0⟩ := R.same (h' := h') (t' := s.toks + (((List.range n'.np).map (M.nm k)).zip us).length) hkeep
  refine ⟨R0.lim O, codeAny_func ?_⟩
  have hframe : RO C (S ++ [s.heap.objs.size]) h' s.heap.objs.size (.frame k (vs.map some ++ blanks n'.nl)) := by
    refine ⟨by rw [List.length_append, List.length_map, blanks_len, O.cnt]; omega, _, hns, fun i x hi => ?_⟩
    rw [O.nm]
    by_cases hin : i < n'.np
    · rw [List.getElem?_append_left (by simp; omega), List.getElem?_map] at hi
      obtain ⟨v, hv1, rfl⟩ := Option.map_eq_some_iff.mp hi
      obtain ⟨u, hu, ru⟩ := hv.get hv1
      refine ⟨u, lookup_nodup ?_ ?_, ru.mono _⟩
      · rw [List.map_reverse]; exact List.pairwise_reverse.mpr (hnd.imp fun h e => h e.symm)
      have hu' : i < us.length := by omega
      refine List.mem_reverse.mpr (List.mem_iff_getElem.mpr ⟨i, by simp; omega, ?_⟩)
      rw [List.getElem_zip]
      simp only [List.getElem_map, List.getElem_range, Prod.mk.injEq, true_and]
      rw [List.getElem?_eq_getElem hu'] at hu
      exact Option.some.inj hu
    · rw [List.getElem?_append_right (by simp; omega)] at hi
      have hx := blanks_at _ _ _ hi
      subst hx
      refine lookup_off fun hmem => ?_
      rw [List.map_reverse, List.mem_reverse, hnames] at hmem
      obtain ⟨j, hj, e⟩ := List.mem_map.mp hmem
      have hj' : j < n'.np := by simpa using hj
      have hlen := (List.getElem?_eq_some_iff.mp hi).1
      rw [blanks_len, List.length_map] at hlen
      have := hinj j i hj' (by omega) e
      omega
  have R1 := R0.adopt hσ (nots _ (Nat.le_refl _)) (hbfresh _ (Nat.le_refl _)) hframe
  have G1 : Grow C S s (S ++ [s.heap.objs.size]) { s with heap := h', toks := s.toks + (((List.range n'.np).map (M.nm k)).zip us).length } := by
    refine ⟨⟨[s.heap.objs.size], rfl, fun b hb => ?_⟩, G0.out, G0.dom, G0.dict, G0.gens, G0.slot⟩
    exact fresh b (by rw [List.mem_singleton.mp hb]; exact Nat.le_refl _)
  have H1 : EnvOk C M (newEnv (M.sc k) s.heap.objs.size mainGlobals cl (n'.q ++ ".<locals>.") (some fa') (.ref b') none builtinsNs) ⟨k, σ.n, cs, d + 1⟩ (S ++ [s.heap.objs.size])
      (A.deeper (newEnv (M.sc k) s.heap.objs.size mainGlobals cl (n'.q ++ ".<locals>.") (some fa') (.ref b') none builtinsNs)) { s with heap := h', toks := s.toks + (((List.range n'.np).map (M.nm k)).zip us).length } := by
    refine ⟨?_, (fun q => by have q : (M.fn k).isSome = true := q; rw [Option.isNone_iff_eq_none.mp j1] at q; cases q), O.kind k, rfl, rfl, ?_, fun i x hx => O.look _ _ _ _ hx, fun i x hx => O.look _ _ _ _ hx, fun x hx => hx, fun k' n2 hn2 e => ?_, fun i c hc => ?_⟩
    · obtain ⟨o', ho', hd'⟩ := RO.dict_of hframe rfl
      refine (T.grow G1).deeper (e := newEnv (M.sc k) s.heap.objs.size mainGlobals cl (n'.q ++ ".<locals>.") (some fa') (.ref b') none builtinsNs) (a := s.heap.objs.size) (o := o') (fun e => ?_) rfl (by simp) ho' hd'
      have e : (M.sc k).kind = .module := e
      rw [O.kind k] at e
      cases e
    · show (S ++ [s.heap.objs.size])[σ.n]? = some s.heap.objs.size
      rw [← R.len]; simp
    · have e : n2.mkr = k := e
      have := (O.inn _ _ hn2).2.1
      rw [e] at this
      rw [Option.isNone_iff_eq_none.mp j1] at this
      cases this
    · obtain ⟨dd, d1, d2⟩ := hcl i c hc
      obtain ⟨y, hy⟩ := keysIn_get hkeys' (lkN_some hc)
      obtain ⟨x, k2, x1, x2⟩ := okCells_get j12 (lkN_some hy)
      rw [O.nm, nm_at x1] at d2
      exact ⟨x, _, dd, x1, getElem?_append_of d1 _, d2, .inr (O.look _ _ _ _ x1)⟩
  have A1 : AOk (A.deeper (newEnv (M.sc k) s.heap.objs.size mainGlobals cl (n'.q ++ ".<locals>.") (some fa') (.ref b') none builtinsNs)) (d + 1) := by
    have au := a.units
    refine ⟨a.handled, ?_, ?_, by omega⟩
    · show A.depth + 1 ≤ _
      omega
    · show A.units + 3 ≤ _
      omega
  rw [j4]
  obtain ⟨o2, σ2, hb2, h⟩ := bn2_at h
  replace h := outV_at h
  obtain ⟨rfl, h⟩ := h
  rcases h with rfl | ⟨rfl, rfl⟩
  · refine I.ss hb2 j3 H1 A1 R1 fun S3 s3 f R3 G3 V3 => ?_
    obtain ⟨u, rfl, hu⟩ := V3
    exact hq _ _ _ R3 (G1.trans G3) hu
  · refine I.ss hb2 j3 H1 A1 R1 fun S3 s3 f R3 G3 V3 => ?_
    have hf : f = .next := V3
    subst hf
    exact hq _ _ _ R3 (G1.trans G3) rfl
end
end Mine

namespace Mine
section
variable {C : WC} {M : Mod} {env : Env} {en : AEnv} {S S' : List Addr} {s s' : Shared} {σ σ' : St} {K : Facts} {A : Around} {E : Value → Shared → Prop} {Q : Value → Shared → Prop}

theorem tuple_sound (R : Rel C σ S s) {xs : List AV} {vs : List Value} {av : AV} (h : mk σ (.tup xs) = some (av, σ')) (hv : RVs C S xs vs) :
    Rel C σ' (S ++ [s.heap.objs.size]) { s with heap := s.heap.push { cls := .type "tuple", data := .seq vs.toArray } } ∧
    Grow C S s (S ++ [s.heap.objs.size]) { s with heap := s.heap.push { cls := .type "tuple", data := .seq vs.toArray } } ∧ RV C (S ++ [s.heap.objs.size]) av (.ref s.heap.objs.size) :=
  mk_sound R h (o := { cls := .type "tuple", data := .seq vs.toArray }) rfl ⟨vs.toArray, Heap.get?_push_size _ rfl, hv.mono _⟩ s.toks
theorem const_int {k : Int} {p : Pos} {Q : Value → Shared → Prop} (h : Q (.int k s.toks) { s with toks := s.toks + 1 }) : wpAny (model C.prog C.w) A (eval (.Constant (.int k) 0 p) env) Q E s := wpAny_Constant_int h
theorem few_of (f : Nat) (p : Pos) {xs : X} (h : fewX xs = true) : ((backTo p (starEach (toEs M f xs) env)).all (fun x => !x.1) && (backToKw p (keywordEach [] env)).all (fun x => x.1.isSome)
      && decide ((toEs M f xs).length + ([] : List Keyword).length + (if ([] : List Keyword).isEmpty then 0 else 1) < 30)) = true := by
  rw [back_trees]
  have all : ∀ xs : X, lenX xs ≤ 2 → ((trees M f env xs).all (fun x => !x.1)) = true ∧ (toEs M f xs).length = lenX xs := by
    intro xs
    induction xs with
    | nil => intro _; exact ⟨rfl, rfl⟩
    | cons x r _ ih => intro h; obtain ⟨p, q⟩ := ih (Nat.le_of_succ_le h); exact ⟨p, congrArg (· + 1) q⟩
    | _ => intro h; exact absurd h (by show ¬ 3 ≤ 2; decide)
  have key := all xs (Nat.le_of_ble_eq_true h)
  have key : ((trees M f env xs).all (fun x => !x.1)) = true ∧ (toEs M f xs).length < 30 := ⟨key.1, key.2 ▸ Nat.lt_of_le_of_lt (Nat.le_of_ble_eq_true h) (by decide)⟩
  rw [key.1]
  have : (toEs M f xs).length + ([] : List Keyword).length + (if ([] : List Keyword).isEmpty then 0 else 1) < 30 := by simpa using key.2
  rw [decide_eq_true this]
  rfl
theorem methTy_sound (O : MOk C M) (R : Rel C σ S s) {m : Mth} {o : AV} {v : Value} (h : methTy M m o σ = true) (hv : RV C S o v) : s.TypeIs v m.T ∧ ∀ a, v = .ref a → ∃ ob, s.heap.get? a = some ob ∧ ob.dict = none := by
  have lst : ∀ {i : Nat}, (listAt σ i).isSome = true → RV C S (.ref i) v → s.TypeIs v "list" ∧ ∀ a, v = .ref a → ∃ ob, s.heap.get? a = some ob ∧ ob.dict = none := by
    intro i h hv
    obtain ⟨xs, hx⟩ := Option.isSome_iff_exists.mp h
    obtain ⟨a, vs, n, rfl, ha', hl, hw⟩ := listAt_sound R hx hv
    exact ⟨⟨_, hl, rfl⟩, fun b e => by cases e; exact ⟨_, hl, rfl⟩⟩
  cases m with
  | bitlen => obtain ⟨_, rfl, _⟩ := asInt_at Bool.false_ne_true h; obtain ⟨t, rfl⟩ := hv; exact ⟨typeIs_int _ _ _, fun a e => by cases e⟩
  | split => obtain ⟨_, rfl, _⟩ := asStr_at Bool.false_ne_true h; obtain ⟨t, rfl⟩ := hv; exact ⟨typeIs_str _ _ _, fun a e => by cases e⟩
  | join => obtain ⟨_, rfl, _⟩ := asStr_at Bool.false_ne_true h; obtain ⟨t, rfl⟩ := hv; exact ⟨typeIs_str _ _ _, fun a e => by cases e⟩
  | dget =>
    replace h := asGlo_at Bool.false_ne_true h
    obtain ⟨g, rfl, h⟩ := h
    obtain ⟨z, hz⟩ := Option.isSome_iff_exists.mp h
    obtain ⟨nm, t⟩ := z
    have hv : v = .ref (C.ga g) := hv
    subst hv
    obtain ⟨_, T⟩ := O.gd _ _ _ hz
    obtain ⟨lo, kvs, hd, hf⟩ := T s.heap R.keep
    exact ⟨hd.typeIs, hd.mapOf.noDict⟩
  | _ =>
    replace h := asRef_at Bool.false_ne_true h
    obtain ⟨i, rfl, h⟩ := h
    exact lst h hv
/-- the places for comps and for list(reversed(x)), proved apart -/
structure Rest (C : WC) (M : Mod) (K : Facts) (r : Ev) (P : Nat → List AV → St → Option (AV × St)) : Prop where
  comp : ∀ {en : AEnv} {x : X} {σ : St} {av : AV} {σ' : St}, (∃ fc fm elt ti tp it cond p, x = .comp fc fm elt ti tp it cond p) → stepE K M P r en x σ = some (av, σ') → chkX M en.f x = true →
    ∀ {env : Env} {A : Around} {S : List Addr} {E : Value → Shared → Prop} {s : Shared} {Q : Value → Shared → Prop}, EnvOk C M env en S A s → AOk A en.d → Rel C σ S s →
    (∀ S' s' v, Rel C σ' S' s' → Grow C S s S' s' → RV C S' av v → Q v s') → wpAny (model C.prog C.w) A (eval (toE M en.f x) env) Q E s
  lrev : ∀ {σ : St} {l : Nat} {xs : List AV} {av : AV} {σ' : St}, listAt σ l = some xs → mkList σ xs.reverse = some (av, σ') →
    ∀ {A : Around} {d : Nat} {S : List Addr} {E : Value → Shared → Prop} {s : Shared} {Q : Value → Shared → Prop} {v : Value} {p : Pos}, AOk A d → Rel C σ S s → RV C S (.ref l) v →
    (∀ S' s' v, Rel C σ' S' s' → Grow C S s S' s' → RV C S' av v → Q v s') →
    wpAny (model C.prog C.w) A (call (.type "reversed") [v]) (fun u s' => wpAny (model C.prog C.w) A (call (.type "list") [u]) Q E s') E s
theorem stepE_sound {P : Nat → List AV → St → Option (AV × St)} (HK : K.Ok C.ι) (O : MOk C M) (HP : PrimOk C M P) {r : Ev} (I : SS C M r) (J : Rest C M K r P) {x : X} {av : AV} (h : stepE K M P r en x σ = some (av, σ')) (hc : chkX M en.f x = true)
    (H : EnvOk C M env en S A s) (a : AOk A en.d) (R : Rel C σ S s)
    (hq : ∀ S' s' v, Rel C σ' S' s' → Grow C S s S' s' → RV C S' av v → Q v s') : wpAny (model C.prog C.w) A (eval (toE M en.f x) env) Q E s := by
  have h0 := h
  unfold stepE at h
  cases x with
  | var i p =>
    obtain ⟨v, hv, h⟩ := bnd_at h
    cases h
    exact ev_var O H R hc hv fun u hu => hq _ _ _ R (Grow.refl ..) hu
  | cvar i p =>
    obtain ⟨v, hv, h⟩ := bnd_at h
    cases h
    exact ev_cvar O H R hv fun u hu => hq _ _ _ R (Grow.refl ..) hu
  | gint i p =>
    obtain ⟨nm, k, hk, h⟩ := bn2_at h
    cases h
    obtain ⟨t, ht⟩ := O.gi _ _ _ hk
    have hc : isG M en.f (M.giNm i) = true := hc
    show wpAny _ A (eval (.Name (M.giNm i) p) env) Q E s
    have e : M.giNm i = nm := by unfold Mod.giNm; rw [hk]; rfl
    rw [e] at hc ⊢
    exact ev_glob O H R hc ht (hq _ _ _ R (Grow.refl ..) ⟨t, rfl⟩)
  | gdict i p =>
    obtain ⟨z, hz, h⟩ := bnd_at h
    cases h
    obtain ⟨nm, t⟩ := z
    have hc : isG M en.f (M.gdNm i) = true := hc
    show wpAny _ A (eval (.Name (M.gdNm i) p) env) Q E s
    have e : M.gdNm i = nm := by unfold Mod.gdNm; rw [hz]; rfl
    rw [e] at hc ⊢
    exact ev_glob O H R hc (O.gd _ _ _ hz).1 (hq _ _ _ R (Grow.refl ..) rfl)
  | num k p =>
    cases h
    obtain ⟨R', G'⟩ := R.tok
    exact const_int (hq _ _ _ R' G' ⟨_, rfl⟩)
  | neg k q p =>
    cases h
    obtain ⟨R', G'⟩ := R.tok
    obtain ⟨R2, G2⟩ := R'.tok
    exact wpAny_UnaryOp (const_int (neg_int (hq _ _ _ R2 (G'.trans G2) ⟨_, rfl⟩)))
  | nun p =>
    cases h
    exact Constant_none (hq _ _ _ R (Grow.refl ..) rfl)
  | str x p =>
    cases h
    obtain ⟨R', G'⟩ := R.tok
    exact Constant_str (hq _ _ _ R' G' ⟨_, rfl⟩)
  | bin o x y p =>
    replace hc := an2 hc
    obtain ⟨va, σ1, h1, h⟩ := bn2_at h
    obtain ⟨vb, σ2, h2, h⟩ := bn2_at h
    refine wpAny_BinOp (I.e h1 hc.1 H a R fun S1 s1 u R1 G1 V1 => I.e h2 hc.2 (H.grow G1) a R1 fun S2 s2 u2 R2 G2 V2 => ?_)
    exact binAV_sound HK R2 h (G2.rv V1) V2 fun S3 s3 v R3 G3 V3 => hq _ _ _ R3 ((G1.trans G2).trans G3) V3
  | cmp o x y p =>
    replace hc := an2 hc
    obtain ⟨va, σ1, h1, h⟩ := bn2_at h
    obtain ⟨vb, σ2, h2, h⟩ := bn2_at h
    obtain ⟨c, h3, h⟩ := bnd_at h
    cases h
    refine wpAny_Compare1 (I.e h1 hc.1 H a R fun S1 s1 u R1 G1 V1 => I.e h2 hc.2 (H.grow G1) a R1 fun S2 s2 u2 R2 G2 V2 => ?_) (behind_of _ _ _)
    exact cmpAV_sound HK R2 h3 (G2.rv V1) V2 a.units' (hq _ _ _ R2 (G1.trans G2) rfl)
  | ifx t x y p =>
    replace hc := an3 hc
    obtain ⟨c, σ1, h1, h⟩ := bn2_at h
    cases c with
    | true =>
      exact wpAny_IfExp (I.t h1 hc.1.1 H a R fun S1 s1 R1 G1 => by
        rw [if_pos rfl]
        exact I.e h hc.1.2 (H.grow G1) a R1 fun S2 s2 u R2 G2 V2 => hq _ _ _ R2 (G1.trans G2) V2)
    | false =>
      exact wpAny_IfExp (I.t h1 hc.1.1 H a R fun S1 s1 R1 G1 => by
        rw [if_neg Bool.false_ne_true]
        exact I.e h hc.2 (H.grow G1) a R1 fun S2 s2 u R2 G2 V2 => hq _ _ _ R2 (G1.trans G2) V2)
  | lst xs p =>
    replace hc : chkX M en.f xs = true := hc
    obtain ⟨vs, σ1, h1, h⟩ := bn2_at h
    refine wpAny_List ?_
    rw [back_trees]
    refine I.es h1 hc H a R fun S1 s1 us R1 G1 V1 => ?_
    obtain ⟨R2, G2, V2, hl⟩ := mkList_sound R1 h V1 s1.toks
    exact ⟨sizeLine_big (Nat.le_trans hl (by decide)), hq _ _ _ R2 (G1.trans G2) V2⟩
  | tup xs p =>
    replace hc : chkX M en.f xs = true := hc
    obtain ⟨vs, σ1, h1, h⟩ := bn2_at h
    obtain ⟨hf, h⟩ := oif_at h
    refine wpAny_Tuple ?_
    rw [back_trees]
    refine I.es h1 hc H a R fun S1 s1 us R1 G1 V1 => ?_
    obtain ⟨R2, G2, V2⟩ := tuple_sound R1 h V1
    exact ⟨sizeLine_big (Nat.le_trans (V1.length ▸ fewer_le hf) (by decide)), hq _ _ _ R2 (G1.trans G2) V2⟩
  | sub x y p =>
    replace hc := an2 hc
    obtain ⟨va, σ1, h1, h⟩ := bn2_at h
    obtain ⟨vb, σ2, h2, h⟩ := bn2_at h
    refine Subscript_ (I.e h1 hc.1 H a R fun S1 s1 u R1 G1 V1 => I.e h2 hc.2 (H.grow G1) a R1 fun S2 s2 u2 R2 G2 V2 => ?_)
    exact subAV_sound R2 h (G2.rv V1) V2 (subscripted_of _ _ _ _) fun v e V3 => hq _ _ _ (e ▸ R2) (G1.trans G2) V3
  | call k xs q p =>
    replace hc := an2 hc
    obtain ⟨vs, σ1, h1, h⟩ := bn2_at h
    have hF0 := h
    unfold callFn at hF0
    obtain ⟨F, hF, _⟩ := bnd_at hF0
    clear hF0
    obtain ⟨fa, o, fd, g1, g2, g3, g4, _⟩ := O.fn _ _ hF
    refine Call_Name (back_trees _ _ _) (ev_glob O H R hc.1 g1 ?_)
    refine callWith_function (o := o) (fd := fd) (args_trees (I.es h1 hc.2 H a R fun S1 s1 us R1 G1 V1 => ⟨⟨R1.keep fa o g2 g3, g4⟩, ?_⟩))
    exact callFn_sound O HP I h a ((H.grow G1).stk) R1 V1 g1 fun S2 s2 v R2 G2 V2 => hq _ _ _ R2 (G1.trans G2) V2
  | bfn b xs q p =>
    replace hc := an2 hc
    obtain ⟨vs, σ1, h1, h⟩ := bn2_at h
    obtain ⟨g1, g2⟩ := O.bfs b
    refine Call_Name (back_trees _ _ _) (ev_blt O H R hc.1 g1 g2 ?_)
    refine callWith_builtin (any_trees _ _) (args_trees (I.es h1 hc.2 H a R fun S1 s1 us R1 G1 V1 => ?_))
    exact bifAV_sound HK R1 h V1 a.handled fun S2 s2 v R2 G2 V2 => hq _ _ _ R2 (G1.trans G2) V2
  | meth m o xs q p =>
    replace hc := an6 hc
    obtain ⟨vo, σ1, h1, h⟩ := bn2_at h
    obtain ⟨hm, h⟩ := oif_at h
    obtain ⟨vs, σ2, h2, h⟩ := bn2_at h
    refine wpAny_Call_method_lateS (base_of _ hc.1.1.1.1.2 _) (few_of _ _ hc.1.1.1.1.1) hc.1.1.2 (I.e h1 hc.1.2 H a R fun S1 s1 u R1 G1 V1 => ?_)
    rw [back_trees]
    obtain ⟨t1, t2⟩ := methTy_sound O R1 hm V1
    refine ⟨_, _, m.pa, m.slot, m.ty, t1, t2, callWith_builtin (any_trees _ _) (args_trees (I.es h2 hc.2 (H.grow G1) a R1 fun S2 s2 us R2 G2 V2 => ?_))⟩
    exact (methAV_sound HK O R2 h (G2.rv V1) V2 a.handled fun S3 s3 v R3 G3 V3 => hq _ _ _ R3 ((G1.trans G2).trans G3) V3).2.2
  | listOf x q p =>
    replace hc := an3 hc
    obtain ⟨v0, σ1, h1, h⟩ := bn2_at h
    replace h := asRef_at ns h
    obtain ⟨l, rfl, h⟩ := h
    obtain ⟨xs, hx, h⟩ := bnd_at h
    obtain ⟨⟨g1, g2⟩, _⟩ := O.tys
    refine Call_Name1 (ev_blt O H R hc.1.1 g1 g2 ?_) (by rw [star_cons]; rfl)
    refine PyProof.Rows.callWith_type rfl (Calls.evalArgs_plain (Calls.spliced_cons (I.e h1 hc.2 H a R fun S1 s1 u R1 G1 V1 => Calls.spliced_nil ?_)))
    obtain ⟨b, vs, n, rfl, hb', hl, hv⟩ := listAt_sound R1 hx V1
    have hcl := mkList_sound R1 h hv s1.toks
    have hlen := hcl.2.2.2
    refine call_list_seq b (.inl rfl) hl rfl rfl (fun h' c' hk hD => ?_) (sizeLine_big (by simp; omega))
    obtain ⟨_, h⟩ := oif_at h
    obtain ⟨hb, rfl, rfl⟩ := mk_at h
    obtain ⟨R2, G2, V2⟩ := R1.alloc hb (t' := s1.toks) (a := s1.heap.objs.size) (h' := h') (ao := .list xs) hk (get_size _) ⟨vs.toArray, c', hD, hv.mono _⟩
    exact hq _ _ _ R2 (G1.trans G2) V2
  | listRev x q' p' q p =>
    replace hc := an4 hc
    obtain ⟨v0, σ1, h1, h⟩ := bn2_at h
    replace h := asRef_at ns h
    obtain ⟨l, rfl, h⟩ := h
    obtain ⟨xs, hx, h⟩ := bnd_at h
    obtain ⟨⟨g1, g2⟩, _, g3, g4⟩ := O.tys
    refine Call_Name1 (ev_blt O H R hc.1.1.1 g1 g2 ?_) rfl
    refine PyProof.Rows.callWith_type rfl (Calls.evalArgs_plain (Calls.spliced_cons ?_))
    refine Call_Name1 (ev_blt O H R hc.1.1.2 g3 g4 ?_) (by rw [star_cons]; rfl)
    refine PyProof.Rows.callWith_type rfl (Calls.evalArgs_plain (Calls.spliced_cons (I.e h1 hc.2 H a R fun S1 s1 u R1 G1 V1 => Calls.spliced_nil ?_)))
    refine wpAny_mono (J.lrev (p := p) hx h a R1 V1 fun S2 s2 v R2 G2 V2 => hq _ _ _ R2 (G1.trans G2) V2) (fun v s2 h2 => Calls.spliced_nil h2) fun _ _ e => e
  | ccall i xs q p =>
    replace hc := an2 hc
    obtain ⟨f0, hfi, h⟩ := bnd_at h
    replace h := asRef_at ns h
    obtain ⟨fi, rfl, h⟩ := h
    obtain ⟨vs, σ1, h1, h⟩ := bn2_at h
    refine Call_Name (back_trees _ _ _) (ev_cvar O H R hfi fun u hu => ?_)
    obtain ⟨fa, hfa, rfl⟩ := hu
    refine callWith_of (by rw [any_trees]; rfl) keeps_F (args_trees (I.es h1 hc.2 H a R fun S1 s1 us R1 G1 V1 => callInn_sound O I h a ((H.grow G1).stk) R1 V1 (G1.at hfa) fun S2 s2 v R2 G2 V2 => hq _ _ _ R2 (G1.trans G2) V2))
  | comp fc fm elt ti tp it cond p => exact J.comp ⟨_, _, _, _, _, _, _, _, rfl⟩ h0 hc H a R hq
  | _ => cases h
end
end Mine

namespace Mine
section
variable {C : WC} {M : Mod} {env : Env} {en : AEnv} {S S' : List Addr} {s s' : Shared} {σ σ' : St} {K : Facts} {A : Around} {E : Value → Shared → Prop}

noncomputable def clos (env : Env) : List (Str × NameKind) → List (Str × Addr) → List (Str × Addr)
  | [], acc => acc
  | (n, k) :: r, acc => if k == .free then clos env r ((n, (env.cells.lookup n).getD 0) :: acc) else clos env r acc
theorem closure_of {scope : Scope} (h : ∀ n, (n, NameKind.free) ∈ scope.names → ∃ a, env.cells.lookup n = some a) : closureFor scope env = pure (clos env scope.names []) := by
  have key : ∀ (l : List (Str × NameKind)) (acc : List (Str × Addr)), (∀ n, (n, NameKind.free) ∈ l → ∃ a, env.cells.lookup n = some a) →
      (forIn l acc (fun (x : Str × NameKind) (cs : List (Str × Addr)) => (match x with
        | (name, kind) => if (kind == .free) = true then do let a ← cellOf env name; pure (ForInStep.yield ((name, a) :: cs)) else pure (ForInStep.yield cs) : Sem (ForInStep (List (Str × Addr))))) : Sem (List (Str × Addr))) = pure (clos env l acc) := by
    intro l
    induction l with
    | nil => intro acc _; rfl
    | cons x r ih =>
      intro acc hl
      obtain ⟨n, k⟩ := x
      rw [List.forIn_cons]
      unfold clos
      by_cases hk : (k == .free) = true
      · rw [if_pos hk]
        have hk' : k = .free := by cases k <;> first | rfl | cases hk
        subst hk'
        obtain ⟨a, ha⟩ := hl n List.mem_cons_self
        have e : cellOf env n = pure a := by unfold cellOf; rw [ha]
        simp only [hk, if_true, e, pure_bind, ha, Option.getD_some]
        exact ih _ fun m hm => hl m (List.mem_cons_of_mem _ hm)
      · rw [if_neg hk]
        simp only [hk, if_false, pure_bind]
        exact ih _ fun m hm => hl m (List.mem_cons_of_mem _ hm)
  have := key scope.names [] h
  unfold closureFor
  first | exact this | simpa using this
theorem clos_lookup : ∀ (l : List (Str × NameKind)) (acc : List (Str × Addr)) (x : Str) (a : Addr), env.cells.lookup x = some a → (∀ y b, acc.lookup y = some b → env.cells.lookup y = some b) → (∀ n, (n, NameKind.free) ∈ l → ∃ a, env.cells.lookup n = some a) →
    ((x, NameKind.free) ∈ l ∨ acc.lookup x = some a) → (clos env l acc).lookup x = some a
  | [], acc, x, a, hx, hacc, _, h => by
    rcases h with h | h
    · cases h
    · exact h
  | (n, k) :: r, acc, x, a, hx, hacc, hl, h => by
    unfold clos
    by_cases hk : (k == .free) = true
    · rw [if_pos hk]
      have hk' : k = .free := by cases k <;> first | rfl | cases hk
      subst hk'
      obtain ⟨b, hb⟩ := hl n List.mem_cons_self
      refine clos_lookup r _ x a hx (fun y c hy => ?_) (fun m hm => hl m (List.mem_cons_of_mem _ hm)) ?_
      · rw [List.lookup_cons] at hy
        cases q : y == n with
        | true =>
          rw [q, hb] at hy
          cases hy
          rw [beq_iff_eq.mp q]; exact hb
        | false =>
          rw [q] at hy
          exact hacc y c hy
      · by_cases hxn : x = n
        · subst hxn
          right
          rw [List.lookup_cons]
          simp [hx]
        · rcases h with h | h
          · rcases List.mem_cons.mp h with e | h
            · cases e; exact absurd rfl hxn
            · exact .inl h
          · right
            rw [List.lookup_cons]
            have : (x == n) = false := by simpa using hxn
            rw [this]; exact h
    · rw [if_neg hk]
      refine clos_lookup r acc x a hx hacc (fun m hm => hl m (List.mem_cons_of_mem _ hm)) ?_
      rcases h with h | h
      · rcases List.mem_cons.mp h with e | h
        · cases e; exact absurd rfl hk
        · exact .inl h
      · exact .inr h
theorem cells_for : ∀ {fm cs0 cs : List (Nat × Nat)}, cellsFor fm cs0 = some cs → (∀ i c, lkN cs i = some c → ∃ j, lkN fm i = some j ∧ lkN cs0 j = some c) ∧ ∀ i j, lkN fm i = some j → ∃ c, lkN cs0 j = some c
  | [], cs0, cs, h => by
    cases h
    exact ⟨(fun i c h => by cases h), fun i j h => by cases h⟩
  | p :: r, cs0, cs, h => by
    unfold cellsFor at h
    split at h
    · rename_i c l h1 h2
      cases h
      obtain ⟨q1, q2⟩ := cells_for h2
      refine ⟨fun i c' hc => ?_, fun i j hj => ?_⟩
      · rw [lkN_cons] at hc ⊢
        by_cases hb : p.1 = i
        · rw [if_pos hb] at hc ⊢
          cases hc
          exact ⟨p.2, rfl, h1⟩
        · rw [if_neg hb] at hc ⊢
          exact q1 i c' hc
      · rw [lkN_cons] at hj
        by_cases hb : p.1 = i
        · rw [if_pos hb] at hj
          cases hj
          exact ⟨c, h1⟩
        · rw [if_neg hb] at hj
          exact q2 i j hj
    · cases h
theorem okCells_at {fc f : Nat} : ∀ {fm : List (Nat × Nat)} {i j : Nat}, okCells M fc f fm = true → lkN fm i = some j → ∃ x k, (M.sc fc).names[i]? = some (x, .free) ∧ (M.sc f).names[j]? = some (x, k)
  | [], i, j, h, hj => by cases hj
  | p :: r, i, j, h, hj => by
    unfold okCells at h
    obtain ⟨h1, h2⟩ := Bool.and_eq_true_iff.mp h
    rw [lkN_cons] at hj
    by_cases hi : p.1 = i
    · rw [if_pos hi] at hj
      cases hj
      subst hi
      split at h1
      · rename_i x k y z e1 e2
        obtain ⟨g1, g2⟩ := Bool.and_eq_true_iff.mp h1
        have := kindEq_iff g1
        subst this
        rw [eqS_iff] at g2
        have := beq_iff_eq.mp g2
        subst this
        exact ⟨x, z, e1, e2⟩
      · cases h1
    · rw [if_neg hi] at hj
      exact okCells_at h2 hj

/-- one of ours is changed and a new one is made, at once -/
theorem Rel.updNew (R : Rel C σ S s) {i : Nat} {a : Addr} {old : AObj} (hi : S[i]? = some a) (hold : σ.h.get i = some old) (hlive : old.live = true) (hb : i < 4096) (hn : σ.n < 4096) {ao co : AObj} {c' : Addr} {h' : Heap} {t' : Nat}
    (hs : Heap.ExtBut a s.heap h') (hc : s.heap.get? c' = none) (H : RO C (S ++ [c']) h' a ao) (Hc : RO C (S ++ [c']) h' c' co) (hkd : ao.kd = old.kd := by rfl) :
    Rel C ((σ.put i ao).new co) (S ++ [c']) { s with heap := h', toks := t' } ∧ Grow C S s (S ++ [c']) { s with heap := h', toks := t' } := by
  have ha : a ∈ S := List.mem_of_getElem? hi
  have hcS : c' ∉ S := fun q => by
    obtain ⟨_, o, e⟩ := R.off c' q
    rw [hc] at e
    cases e
  have hin : i < σ.n := by rw [← R.len]; exact (List.getElem?_eq_some_iff.mp hi).1
  have dom : ∀ b o, s.heap.get? b = some o → ∃ o', h'.get? b = some o' := by
    intro b o e
    by_cases q : b = a
    · subst q; exact H.some
    · exact ⟨o, hs b o q e⟩
  have dct : Dct s { s with heap := h', toks := t' } := by
    intro b o e d
    by_cases q : b = a
    · subst q
      obtain ⟨b', hb', ro⟩ := R.objs _ _ hold
      have : b' = b := by rw [hi] at hb'; exact (Option.some.inj hb').symm
      subst this
      exact RO.dict_of H (hkd.trans (RO.kd_of ro hlive e d))
    · exact ⟨o, hs b o q e, d⟩
  have gt : ∀ j, ((σ.put i ao).new co).h.get j = if j = σ.n then some co else if j = i then some ao else σ.h.get j := by
    intro j
    have : ((σ.put i ao).new co).h.get j = ((σ.put i ao).put σ.n co).h.get j := rfl
    rw [this, St.get_put hn, St.get_put hb]
  have at_ : ∀ {j : Nat} {b : Addr}, (S ++ [c'])[j]? = some b → j < σ.n ∧ S[j]? = some b ∨ j = σ.n ∧ b = c' := by
    intro j b h
    by_cases hj : j < S.length
    · rw [List.getElem?_append_left hj] at h
      exact .inl ⟨by rw [← R.len]; exact hj, h⟩
    · rw [List.getElem?_append_right (by omega)] at h
      have hlt := (List.getElem?_eq_some_iff.mp h).1
      simp at hlt
      have e : j - S.length = 0 := by omega
      rw [e] at h
      cases h
      exact .inr ⟨by rw [← R.len]; omega, rfl⟩
  have z : ∀ {k : Nat} {z : AObj}, k < σ.n → ((σ.put i ao).new co).h.get k = some z → z.live = true → ∃ w, σ.h.get k = some w ∧ w.live = true := by
    intro k z hk h hz
    rw [gt, if_neg (by omega)] at h
    by_cases hki : k = i
    · subst hki; exact ⟨old, hold, hlive⟩
    · rw [if_neg hki] at h; exact ⟨z, h, hz⟩
  have hat : (S ++ [c'])[σ.n]? = some c' := by rw [← R.len]; simp
  refine ⟨⟨fun b o e q => ?_, fun b o e => let ⟨o', e'⟩ := R.dom b o e; dom b o' e', fun j k b x y h1 h2 h3 h4 h5 h6 => ?_, fun b hb => ?_, by simp [St.new, St.put, R.len], fun j x e => ?_, R.bare, R.os, fun i b e => getElem?_append_of (R.ta i b e) _⟩,
    ⟨⟨[c'], rfl, fun b hb => by rw [List.mem_singleton.mp hb]; exact hc⟩, fun b o q e _ => ?_, dom, dct, fun _ _ e => e, fun b o q _ e => ⟨o.slots, hs b o (by rintro rfl; exact q ha) e⟩⟩⟩
  · have : b ≠ a := by
      rintro rfl
      rw [(R.off b ha).1] at e
      cases e
    exact hs b o this (R.keep b o e q)
  · rcases at_ h1 with ⟨p1, p2⟩ | ⟨p1, p2⟩ <;> rcases at_ h2 with ⟨q1, q2⟩ | ⟨q1, q2⟩
    · obtain ⟨x', e3, l3⟩ := z p1 h3 h5
      obtain ⟨y', e4, l4⟩ := z q1 h4 h6
      exact R.nodup j k b x' y' p2 q2 e3 e4 l3 l4
    · rw [q2] at p2; exact absurd (List.mem_of_getElem? p2) hcS
    · rw [p2] at q2; exact absurd (List.mem_of_getElem? q2) hcS
    · rw [p1, q1]
  · rcases List.mem_append.mp hb with h | h
    · obtain ⟨x, o, e⟩ := R.off b h
      exact ⟨x, dom b o e⟩
    · rw [List.mem_singleton.mp h]
      refine ⟨?_, Hc.some⟩
      cases q : C.hb.get? c' with
      | none => rfl
      | some o =>
        obtain ⟨o', e'⟩ := R.dom c' o q
        rw [hc] at e'
        cases e'
  · rw [gt] at e
    by_cases hj : j = σ.n
    · subst hj
      rw [if_pos rfl] at e
      cases e
      exact ⟨c', hat, Hc⟩
    · rw [if_neg hj] at e
      by_cases hji : j = i
      · subst hji
        rw [if_pos rfl] at e
        cases e
        exact ⟨a, getElem?_append_of hi _, H⟩
      · rw [if_neg hji] at e
        obtain ⟨b, hb, Hb⟩ := R.objs j x e
        refine ⟨b, getElem?_append_of hb _, ?_⟩
        by_cases hba : b = a
        · subst hba
          cases hx : x.live with
          | true => exact absurd (R.nodup j i b x old hb hi e hold hx hlive) hji
          | false =>
            cases x <;> first | (cases hx; done) | exact H.some
        · exact (Hb.mono [c']).heap fun y q => hs b y hba q
  · have : b ≠ a := by rintro rfl; exact q ha
    exact hs b o this e
theorem getD_lookup {env : Env} {scope : Scope} {x : Str} {b : Addr} (f3 : env.cells.lookup x = some b) (hfree : ∀ n, (n, NameKind.free) ∈ scope.names → ∃ a, env.cells.lookup n = some a) (hm : (x, NameKind.free) ∈ scope.names) :
    (clos env scope.names []).lookup x = some b := clos_lookup _ _ _ _ f3 (fun y b e => by cases e) hfree (.inl hm)
/-- a def inside a def -/
theorem defInn_sound (O : MOk C M) {k i : Nat} {v : AV} {σ1 σ2 : St} {p : Pos} (h : defInn M en k σ = some (v, σ1)) (hw : wrCell en i v σ1 = some σ2) (hc : chkY M en.f (.defn k i p) = true)
    {Q : Flow → Shared → Prop} (H : EnvOk C M env en S A s) (R : Rel C σ S s)
    (hq : ∀ S' s', Rel C σ2 S' s' → Grow C S s S' s' → Q .next s') : wpAny (model C.prog C.w) A (exec (toS M en.f (.defn k i p)) env) Q E s := by
  replace hc := an2 hc
  obtain ⟨hcell, hc⟩ := hc
  unfold defInn at h
  split at h
  · rename_i n hn
    rw [hn] at hc
    simp only [Bool.and_eq_true] at hc
    obtain ⟨⟨⟨⟨⟨c1, c2⟩, c3⟩, c4⟩, c5⟩, c6⟩ := hc
    have c1 : n.mkr = en.f := Nat.eq_of_beq_eq_true c1
    have c4 : p.line = n.l := Nat.eq_of_beq_eq_true c4
    have c5 : p.col = n.c := Nat.eq_of_beq_eq_true c5
    rw [eqS_iff] at c6
    have c6 : M.fnm en.f ++ ".<locals>." ++ M.nm en.f i = n.q := eq_of_beq c6
    obtain ⟨j1, j2, j3, j4, j5, j6, j7, j8, j9, j10, j11, j12⟩ := O.inn _ _ hn
    obtain ⟨P, z1, z2, z3, _⟩ := O.made _ _ hn
    obtain ⟨cc, P', y1, y2, y3, y4⟩ := H.cod _ _ hn c1
    have : P' = P := by rw [z1] at y2; exact (Option.some.inj y2).symm
    subst this
    have keep : ∀ b o, C.hb.get? b = some o → ¬ IsD o → s.heap.get? b = some o := fun b o e hd => R.keep b o e (fun q => by
      obtain ⟨o', e', d'⟩ := O.tal b q
      rw [e] at e'
      cases e'
      exact hd d')
    have hP : S[n.ti]? = some P' := R.ta _ _ z1
    have hB : s.heap.BuiltinsAt C.mg P' := by
      obtain ⟨bm, o, b1, b2, b3, b4, b5, b6⟩ := z3
      exact ⟨bm, o, b1, b2, b3, b4, keep _ _ b5 (fun ⟨es, n, q⟩ => by rw [b6.2.2] at q; cases q), b6⟩
    have hG : s.heap.Ns mainGlobals C.mg := R.ns O.g O.tg.1
    have hCd : CodeHd s.heap cc P' := by
      obtain ⟨o, vs, file, tf, flags, tg, inF, text, tt, e, r1, r2, r⟩ := y3
      exact ⟨o, vs, file, tf, flags, tg, inF, text, tt, keep _ _ e (fun ⟨es, n, q⟩ => by rw [r2] at q; cases q), r1, r2, r⟩
    obtain ⟨x0, hx0⟩ : ∃ x, (M.sc en.f).names[i]? = some (x, .cell) := by
      unfold isCell at hcell
      split at hcell
      · rename_i x k e; exact ⟨x, by rw [e, kindEq_iff hcell]⟩
      · cases hcell
    have hqn : qualnameIn env (M.nm en.f i) (M.nm en.f i) = n.q := by
      unfold qualnameIn
      rw [nm_at hx0, H.cll i x0 hx0, y4, c1, ← c6, nm_at hx0]
      rfl
    have scopeAt : ∀ y k', (y, k') ∈ (M.sc k).names → ∃ i : Nat, (M.sc k).names[i]? = some (y, k') := by
      intro y k' hm
      obtain ⟨i, hi, e⟩ := List.getElem_of_mem hm
      exact ⟨i, by rw [List.getElem?_eq_getElem hi, e]⟩
    split at h
    · rename_i cs hcs hsz
      obtain ⟨hs1, hs2⟩ := Bool.and_eq_true_iff.mp hsz
      have hs1 : σ.n + 1 < 4096 := Nat.le_of_ble_eq_true hs1
      have hs2 : n.ti < 4096 := Nat.le_of_ble_eq_true hs2
      obtain ⟨q1, q2⟩ := cells_for hcs
      have hfree : ∀ y, (y, NameKind.free) ∈ (M.sc k).names → ∃ a, env.cells.lookup y = some a := by
        intro y hm
        obtain ⟨i, hi⟩ := scopeAt _ _ hm
        have hlt := (List.getElem?_eq_some_iff.mp hi).1
        have hz := List.all_eq_true.mp c3 i (List.mem_range.mpr hlt)
        simp only [hi] at hz
        obtain ⟨j, hj⟩ := Option.isSome_iff_exists.mp hz
        obtain ⟨c, hc⟩ := q2 i j hj
        obtain ⟨y, k, e1, e2⟩ := okCells_at c2 hj
        obtain ⟨z, k', b, f1, f2, f3, f4⟩ := H.cel j c hc
        rw [hi] at e1
        cases e1
        rw [e2] at f1
        cases f1
        exact ⟨b, f3⟩
      have hclos := closure_of (scope := M.sc k) hfree
      have hcells : ∀ i c, lkN cs i = some c → ∃ d, S[c]? = some d ∧ (clos env (M.sc k).names []).lookup (C.nm k i) = some d := by
        intro i c hc
        obtain ⟨j, hj, hjc⟩ := q1 i c hc
        obtain ⟨y, k, e1, e2⟩ := okCells_at c2 hj
        obtain ⟨z, k', b, f1, f2, f3, f4⟩ := H.cel j c hjc
        rw [e2] at f1
        cases f1
        refine ⟨b, f2, ?_⟩
        rw [O.nm, nm_at e1]
        exact getD_lookup f3 hfree (List.mem_of_getElem? e1)
      refine nestDef_K j7 j8 (j9 _) ?_
      rw [hqn]
      split at h
      · rename_i l c htab
        split at h
        · rename_i hlc
          obtain ⟨l1, l2⟩ := Bool.and_eq_true_iff.mp hlc
          have l1 : l = n.l := Nat.eq_of_beq_eq_true l1
          have l2 : c = n.c := Nat.eq_of_beq_eq_true l2
          cases h
          obtain ⟨P2, hP2, hro⟩ := R.objs _ _ htab
          have : P2 = P' := by rw [hP] at hP2; exact (Option.some.inj hP2).symm
          subst this
          have hro : s.heap.get? P2 = some (tabObj #[]) := hro
          refine makeFunction_K (mg := C.mg) hclos H.glob hG y1 hCd hro trivial rfl (Ne.symm z2) hB fun c' ctv doc h' tk hx hge hlt hrec htb => ?_
          have hfr : s.heap.get? c' = none := by
            cases q : s.heap.get? c' with
            | none => rfl
            | some o => exact absurd (Heap.lt_size q) (Nat.not_lt.mpr hge)
          have hat : (S ++ [c'])[σ.n]? = some c' := by rw [← R.len]; simp
          obtain ⟨R1, G1⟩ := R.updNew (t' := tk) hP htab rfl hs2 (Nat.lt_of_succ_lt hs1) (ao := .tab l c (some σ.n)) (co := .code n.q) hx hfr ⟨c', hat, by rw [htb, l1, l2, c4, c5]; rfl⟩ hrec
          obtain ⟨R2, G2, V2⟩ := R1.alloc (show σ.n + 1 < 4096 from hs1) (ao := .func k cs σ.n) (a := h'.objs.size) (h' := h'.push (fnMade (M.nm en.f i) n.q (M.par k) (M.body k) (M.sc k) (clos env (M.sc k).names []) doc ((C.mg "__name__").getD .none) c' ctv)) (t' := tk)
            (fun _ _ e => Heap.get?_push_of_some _ e) (get_size _) ⟨_, _, c', Heap.get?_push_size _ rfl, O.fo' _ _ hn _ _ _ _ _ _, ⟨_, rfl⟩, getElem?_append_of hat _, fun i c hc => by
              obtain ⟨d, d1, d2⟩ := hcells i c hc
              exact ⟨d, getElem?_append_of (getElem?_append_of d1 _) _, d2⟩⟩
          exact st_cell ((H.grow G1).grow G2) R2 hcell hw V2 fun s3 R3 G3 => hq _ _ R3 ((G1.trans G2).trans G3)
        · cases h
      · rename_i l c ci htab
        split at h
        · rename_i hlc
          obtain ⟨l1, l2⟩ := Bool.and_eq_true_iff.mp hlc
          have l1 : l = n.l := Nat.eq_of_beq_eq_true l1
          have l2 : c = n.c := Nat.eq_of_beq_eq_true l2
          cases h
          obtain ⟨P2, hP2, b, hb, hro⟩ := R.objs _ _ htab
          have : P2 = P' := by rw [hP] at hP2; exact (Option.some.inj hP2).symm
          subst this
          have hfind : codeAmong p (#[rawInt (l : Int), rawInt (c : Int), .ref b] : Array Value).toList = some (.ref b) := by
            simp [codeAmong, rawInt, l1, l2, c4, c5]
          refine makeFunction_hit (mg := C.mg) hclos H.glob hG y1 hCd hro trivial hfind hB fun ctv doc h' tk hk hsz => ?_
          obtain ⟨R1, G1⟩ := R.same (h' := h') (t' := tk) hk
          obtain ⟨R2, G2, V2⟩ := R1.alloc (Nat.lt_of_succ_lt hs1) (ao := .func k cs ci) (a := h'.objs.size) (h' := h'.push (fnMade (M.nm en.f i) n.q (M.par k) (M.body k) (M.sc k) (clos env (M.sc k).names []) doc ((C.mg "__name__").getD .none) b ctv)) (t' := tk)
            (fun _ _ e => Heap.get?_push_of_some _ e) (get_size _) ⟨_, _, b, Heap.get?_push_size _ rfl, O.fo' _ _ hn _ _ _ _ _ _, ⟨_, rfl⟩, getElem?_append_of hb _, fun i c hc => by
              obtain ⟨d, d1, d2⟩ := hcells i c hc
              exact ⟨d, getElem?_append_of d1 _, d2⟩⟩
          exact st_cell ((H.grow G1).grow G2) R2 hcell hw V2 fun s3 R3 G3 => hq _ _ R3 ((G1.trans G2).trans G3)
        · cases h
      · cases h
    · cases h
  · cases h
end
end Mine

namespace Mine
section
variable {C : WC} {M : Mod} {env : Env} {en : AEnv} {S S' : List Addr} {s s' : Shared} {σ σ' : St} {K : Facts} {A : Around} {E : Value → Shared → Prop}

theorem stepSs_sound {r : Ev} (I : SS C M r) {y : Y} {o : Out} (h : stepSs r en y σ = some (o, σ')) (hc : chkY M en.f y = true)
    {Q : Flow → Shared → Prop} (H : EnvOk C M env en S A s) (a : AOk A en.d) (R : Rel C σ S s)
    (hq : ∀ S' s' f, Rel C σ' S' s' → Grow C S s S' s' → ROut C S' o f → Q f s') : wpAny (model C.prog C.w) A (execs (toSs M en.f y) env) Q E s := by
  unfold stepSs at h
  cases y with
  | cons y ys =>
    replace hc := an2 hc
    obtain ⟨o1, σ1, h1, h⟩ := bn2_at h
    refine wpAny_execs_cons (I.s h1 hc.1 H a R fun S1 s1 f R1 G1 V1 => ?_)
    cases o1 with
    | next =>
      have hf : f = .next := V1
      subst hf
      exact I.ss h hc.2 (H.grow G1) a R1 fun S2 s2 f R2 G2 V2 => hq _ _ _ R2 (G1.trans G2) V2
    | brk =>
      cases h
      have hf : f = .brk := V1
      subst hf
      exact hq _ _ _ R1 G1 rfl
    | ret v =>
      cases h
      obtain ⟨u, rfl, hu⟩ := V1
      exact hq _ _ _ R1 G1 ⟨u, rfl, hu⟩
  | nil =>
    cases h
    exact wpAny_execs_nil (hq _ _ _ R (Grow.refl ..) rfl)
  | _ => cases h
/-- the place for a for loop, proved apart -/
noncomputable def ForOk (C : WC) (M : Mod) (r : Ev) : Prop :=
  ∀ {en : AEnv} {c : Bool} {i : Nat} {q : Pos} {it : X} {b o : Y} {p : Pos} {σ : St} {t : Itr} {σ1 : St} {out : Out} {σ' : St}, itOf r en it σ = some (t, σ1) → r.lp en c i t b o σ1 = some (out, σ') → chkY M en.f (.for_ c i q it b o p) = true →
    ∀ {env : Env} {A : Around} {S : List Addr} {E : Value → Shared → Prop} {s : Shared} {Q : Flow → Shared → Prop}, EnvOk C M env en S A s → AOk A en.d → Rel C σ S s →
    (∀ S' s' f, Rel C σ' S' s' → Grow C S s S' s' → ROut C S' out f → Q f s') → wpAny (model C.prog C.w) A (exec (toS M en.f (.for_ c i q it b o p)) env) Q E s
/-- the place for the loop over the generator, proved apart -/
noncomputable def TryOk (C : WC) (M : Mod) (r : Ev) : Prop :=
  ∀ {en : AEnv} {k i : Nat} {rx : X} {er ho : Nat} {b : Y} {ps : List Pos} {σ : St} {out : Out} {σ' : St}, tryGen r en i rx er ho b σ = some (out, σ') → chkY M en.f (.tryg k i rx er ho b ps) = true →
    ∀ {env : Env} {A : Around} {S : List Addr} {E : Value → Shared → Prop} {s : Shared} {Q : Flow → Shared → Prop}, EnvOk C M env en S A s → AOk A en.d → Rel C σ S s →
    (∀ S' s' f, Rel C σ' S' s' → Grow C S s S' s' → ROut C S' out f → Q f s') → wpAny (model C.prog C.w) A (exec (toS M en.f (.tryg k i rx er ho b ps)) env) Q E s
theorem swaps_cell (f : Nat) (x : X) {nm : Str} {q : Pos} (hk : env.kindOf nm = some .cell) (l : Nat) : swapsWith (toE M f x) (some (.Name nm q)) l env = pure false := by
  cases x with
  | comp fc fm elt ti tp it cond p =>
    show (pure (env.blockKind == .function && env.kindOf nm == some .local && q.line == _ && !_) : Sem Bool) = pure false
    rw [hk]
    have : ((some NameKind.cell : Option NameKind) == some .local) = false := by decide
    rw [this]
    simp
  | _ => rfl
theorem stores_of (f : Nat) {x : X} (h : noTup x = true) (ts : List Expr) (k : Nat) (tp : Pos) : swappedStores [.Tuple ts k tp] (toE M f x) env = pure none := by
  cases x <;> first | rfl | cases h
theorem sole_of (f : Nat) {x : X} (h : noComp x = true) (t : Expr) (l : Nat) : swapsWithSole [t] (toE M f x) l env = pure false := by
  rw [swapsWithSole]
  exact swaps_of f h _ _
theorem ld_var (O : MOk C M) (H : EnvOk C M env en S A s) (R : Rel C σ S s) {i : Nat} {v : AV} {Q : Value → Shared → Prop} (hc : isL M en.f i = true) (h : rdVar en i σ = some v) (hq : ∀ u, RV C S v u → Q u s) :
    wpAny (model C.prog C.w) A (loadName env (M.nm en.f i)) Q E s := by
  obtain ⟨x, hx⟩ := isL_at hc
  rw [nm_at hx]
  obtain ⟨ls, hf, hn⟩ := rdVar_at h
  obtain ⟨a, ha, hro⟩ := R.objs _ _ hf
  have : a = env.locals := by have := H.fr; rw [ha] at this; exact Option.some.inj this
  subst this
  obtain ⟨hcnt, m, hm, hl⟩ := hro
  obtain ⟨u, hu, hr⟩ := hl i _ hn
  rw [O.nm, nm_at hx] at hu
  exact wpAny_loadName_local H.kind (H.loc i x hx) hm hu (hq u hr)
theorem inter_of (H : EnvOk C M env en S A s) : interactive env = false := by unfold interactive; rw [H.kind]; rfl
theorem stepS_sound {r : Ev} (HK : K.Ok C.ι) (O : MOk C M) (I : SS C M r) (JF : ForOk C M r) (JT : TryOk C M r) {y : Y} {o : Out} (h : stepS M r en y σ = some (o, σ')) (hc : chkY M en.f y = true)
    {Q : Flow → Shared → Prop} (H : EnvOk C M env en S A s) (a : AOk A en.d) (R : Rel C σ S s)
    (hq : ∀ S' s' f, Rel C σ' S' s' → Grow C S s S' s' → ROut C S' o f → Q f s') : wpAny (model C.prog C.w) A (exec (toS M en.f y) env) Q E s := by
  unfold stepS at h
  cases y with
  | asn i q e p =>
    replace hc := an4 hc
    obtain ⟨v, σ1, h1, h⟩ := bn2_at h
    obtain ⟨σ2, h2, h⟩ := bnd_at h
    cases h
    refine wpAny_Assign_Name (I.e h1 hc.2 H a R fun S1 s1 u R1 G1 V1 => ?_) (swaps_of _ hc.1.2 _ _)
    exact st_var O (H.grow G1) R1 hc.1.1.1 h2 V1 fun s2 R2 G2 => hq _ _ _ R2 (G1.trans G2) rfl
  | asnc i q e p =>
    replace hc := an3 hc
    obtain ⟨v, σ1, h1, h⟩ := bn2_at h
    obtain ⟨σ2, h2, h⟩ := bnd_at h
    cases h
    refine wpAny_Assign_Name (I.e h1 hc.2 H a R fun S1 s1 u R1 G1 V1 => ?_) ?_
    · exact st_cell (H.grow G1) R1 hc.1.1 h2 V1 fun s2 R2 G2 => hq _ _ _ R2 (G1.trans G2) rfl
    · obtain ⟨x, hx⟩ : ∃ x, (M.sc en.f).names[i]? = some (x, .cell) := by
        have hl := hc.1.1
        unfold isCell at hl
        split at hl
        · rename_i x k e; exact ⟨x, by rw [e, kindEq_iff hl]⟩
        · cases hl
      exact swaps_cell _ e (by rw [nm_at hx]; exact H.cll i x hx) _
  | asnt i qi j qj q e p =>
    replace hc := an6 hc
    obtain ⟨v, σ1, h1, h⟩ := bn2_at h
    replace h := asRef_at ns h
    obtain ⟨t, rfl, h⟩ := h
    obtain ⟨va, vb, ht, h⟩ := asTwo_at ns h
    obtain ⟨σ2, h2, h⟩ := bnd_at h
    obtain ⟨σ3, h3, h⟩ := bnd_at h
    cases h
    refine Assign_Tuple (I.e h1 hc.2 H a R fun S1 s1 u R1 G1 V1 => ?_) (sole_of _ hc.1.1.2 _ _) (stores_of _ hc.1.2 _ _ _)
    obtain ⟨b, vs, rfl, hb, hl, hv⟩ := tup_at R1 ht V1
    obtain ⟨ua, r1, rfl, hua, ub, r2, rfl, hub, rfl⟩ := hv
    refine assign_Tuple_tuple a.handled ⟨_, hl, rfl, _, rfl⟩ rfl rfl fun h' he => ?_
    obtain ⟨R2, G2⟩ := R1.same (h' := h') (t' := s1.toks) fun b o e => he b o (fun q => by rw [q, get_size] at e; cases e) e
    show wpAny _ A (do holding [ub] (assign (.Name (M.nm en.f i) qi) env ua); holding [] (assign (.Name (M.nm en.f j) qj) env ub); pure ()) _ E _
    have H2 := (H.grow G1).grow G2
    refine wpAny_bind (wpAny_holding (assign_Name (st_var O H2 R2 hc.1.1.1.1.1 h2 (G2.rv hua) fun s3 R3 G3 => ?_)))
    refine wpAny_bind (wpAny_holding (assign_Name (st_var O (H2.grow G3) R3 hc.1.1.1.1.2 h3 (G3.rv (G2.rv hub)) fun s4 R4 G4 => ?_)))
    exact wpAny_pure (hq _ _ _ R4 (((G1.trans G2).trans G3).trans G4) rfl)
  | asns x i q e p =>
    replace hc := an7 hc
    obtain ⟨v, σ1, h1, h⟩ := bn2_at h
    obtain ⟨vo, σ2, h2, h⟩ := bn2_at h
    obtain ⟨vi, σ3, h3, h⟩ := bn2_at h
    obtain ⟨σ4, h4, h⟩ := bnd_at h
    cases h
    refine wpAny_Assign_Subscript (I.e h1 hc.2 H a R fun S1 s1 u R1 G1 V1 => I.e h2 hc.1.1.2 (H.grow G1) a R1 fun S2 s2 uo R2 G2 V2 => I.e h3 hc.1.2 ((H.grow G1).grow G2) a R2 fun S3 s3 ui R3 G3 V3 => ?_) (swaps_of _ hc.1.1.1.2 _ _)
    exact setAV_sound R3 h4 (G3.rv V2) V3 (G3.rv (G2.rv V1)) fun s4 R4 G4 => hq _ _ _ R4 (((G1.trans G2).trans G3).trans G4) rfl
  | aug op i q e p =>
    replace h := oifD_at h
    obtain ⟨rfl, h⟩ := h
    replace hc := an3 hc
    obtain ⟨v0, hx, h⟩ := bnd_at h
    replace h := asInt_at ns h
    obtain ⟨x, rfl, h⟩ := h
    obtain ⟨w0, σ1, h1, h⟩ := bn2_at h
    replace h := asInt_at ns h
    obtain ⟨z, rfl, h⟩ := h
    obtain ⟨σ2, h2, h⟩ := bnd_at h
    cases h
    refine wpAny_AugAssign_Name (ld_var O H R hc.1.1 hx fun u hu => I.e h1 hc.2 H a R fun S1 s1 u2 R1 G1 V1 => ?_)
    obtain ⟨t1, rfl⟩ := hu
    obtain ⟨t2, rfl⟩ := V1
    obtain ⟨R2, G2⟩ := R1.tok
    refine ixor_int (st_var O ((H.grow G1).grow G2) R2 hc.1.1 h2 ⟨s1.toks, ?_⟩ fun s3 R3 G3 => hq _ _ _ R3 ((G1.trans G2).trans G3) rfl)
    rw [fold2_val (fun _ _ => rfl)]
  | ex e p =>
    replace hc := an3 hc
    obtain ⟨v0, σ1, h1, h⟩ := bn2_at h
    replace h := asNon_at ns h
    obtain ⟨rfl, h⟩ := h
    cases h
    refine wpAny_Expr (I.e h1 hc.2 H a R fun S1 s1 u R1 G1 V1 => ?_) (inter_of H) (swaps_of _ hc.1.2 _ _)
    have hu : u = .none := V1
    subst hu
    exact hq _ _ _ R1 G1 rfl
  | ret e p =>
    replace hc := an2 hc
    obtain ⟨v, σ1, h1, h⟩ := bn2_at h
    cases h
    exact wpAny_Return_some (I.e h1 hc.2 H a R fun S1 s1 u R1 G1 V1 => hq _ _ _ R1 G1 ⟨u, rfl, V1⟩)
  | ret0 p =>
    cases h
    exact wpAny_Return_none (hq _ _ _ R (Grow.refl ..) ⟨.none, rfl, rfl⟩)
  | ife t b o' p =>
    replace hc := an4 hc
    obtain ⟨c, σ1, h1, h⟩ := bn2_at h
    cases c with
    | true =>
      exact wpAny_If (I.t h1 hc.1.1.2 H a R fun S1 s1 R1 G1 => by
        rw [if_pos rfl]
        exact I.ss h hc.1.2 (H.grow G1) a R1 fun S2 s2 f R2 G2 V2 => hq _ _ _ R2 (G1.trans G2) V2)
    | false =>
      exact wpAny_If (I.t h1 hc.1.1.2 H a R fun S1 s1 R1 G1 => by
        rw [if_neg Bool.false_ne_true]
        exact I.ss h hc.2 (H.grow G1) a R1 fun S2 s2 f R2 G2 V2 => hq _ _ _ R2 (G1.trans G2) V2)
  | for_ c i q it b o' p =>
    obtain ⟨t, σ1, h1, h⟩ := bn2_at h
    exact JF h1 h hc H a R hq
  | tryg k i rx er ho b ps => exact JT h hc H a R hq
  | brk p =>
    cases h
    exact wpAny_Break (hq _ _ _ R (Grow.refl ..) rfl)
  | defn k i p =>
    obtain ⟨v, σ1, h1, h⟩ := bn2_at h
    obtain ⟨σ2, h2, h⟩ := bnd_at h
    cases h
    exact defInn_sound O h1 h2 hc H R fun S1 s1 R1 G1 => hq _ _ _ R1 G1 rfl
  | _ => cases h
end
end Mine

namespace Mine
section
variable {C : WC} {M : Mod} {env : Env} {en : AEnv} {S S' : List Addr} {s s' s₀ : Shared} {σ σ' : St} {K : Facts} {A : Around} {E : Value → Shared → Prop}

/-- an iterator's own place -/
structure Own (C : WC) (S : List Addr) (s₀ s : Shared) (a : Addr) : Prop where
  ns : a ∉ S
  nt : a ∉ C.tabs
  nh : C.hb.get? a = none
  n0 : s₀.heap.get? a = none
noncomputable def RI (C : WC) (S : List Addr) (s₀ s : Shared) (it : Value) : Itr → Prop
  | .rng x n st => ∃ a, it = .ref a ∧ Own C S s₀ s a ∧ IsRangeIter s.heap a x n st
  | .lst l i => ∃ a b, it = .ref a ∧ Own C S s₀ s a ∧ S[l]? = some b ∧ s.heap.IsListIter a b i
  | .rev l i => ∃ a b, it = .ref a ∧ Own C S s₀ s a ∧ S[l]? = some b ∧ s.heap.IsRevIter a b ((i : Int) - 1)
theorem Own.grow {a : Addr} (W : Own C S s₀ s a) (G : Grow C S s S' s') {o : Obj} (e : s.heap.get? a = some o) : Own C S' s₀ s' a ∧ s'.heap.get? a = some o := by
  refine ⟨⟨fun hm => ?_, W.nt, W.nh, W.n0⟩, G.out a o W.ns e W.nt⟩
  obtain ⟨N, rfl, hN⟩ := G.pre
  rcases List.mem_append.mp hm with h | h
  · exact W.ns h
  · rw [hN a h] at e; cases e
theorem RI.grow {it : Value} {t : Itr} (H : RI C S s₀ s it t) (G : Grow C S s S' s') : RI C S' s₀ s' it t := by
  cases t with
  | rng x n st =>
    obtain ⟨a, rfl, W, h⟩ := H
    obtain ⟨W', h'⟩ := W.grow G h
    exact ⟨a, rfl, W', h'⟩
  | lst l i =>
    obtain ⟨a, b, rfl, W, hb, o, h, r⟩ := H
    obtain ⟨W', h'⟩ := W.grow G h
    exact ⟨a, b, rfl, W', G.at hb, o, h', r⟩
  | rev l i =>
    obtain ⟨a, b, rfl, W, hb, o, h, r⟩ := H
    obtain ⟨W', h'⟩ := W.grow G h
    exact ⟨a, b, rfl, W', G.at hb, o, h', r⟩
/-- only an own object changes -/
theorem Rel.adv (R : Rel C σ S s) {S₀ : List Addr} (G : Grow C S₀ s₀ S s) {a : Addr} (W : Own C S s₀ s a) {h' : Heap} {t' : Nat} (he : Heap.ExtBut a s.heap h') {oa : Obj} (ha : s.heap.get? a = some oa) (hnd : ¬ IsD oa) :
    Rel C σ S { s with heap := h', toks := t' } ∧ Grow C S₀ s₀ S { s with heap := h', toks := t' } ∧ Own C S s₀ { s with heap := h', toks := t' } a ∧ Dct s { s with heap := h', toks := t' } := by
  have dct : Dct s { s with heap := h', toks := t' } := fun b o e d => ⟨o, he b o (fun x => by rw [x, ha] at e; cases e; exact hnd d) e, d⟩
  refine ⟨⟨fun b o e q => he b o (fun x => ?_) (R.keep b o e q), fun b o e => ?_, R.nodup, fun b hb => ?_, R.len, fun i ao e => ?_, R.bare, R.os, R.ta⟩, ⟨G.pre, fun b o hb e ht => ?_, fun b o e => ?_, G.dict.trans dct, G.gens, fun b o hb ht e => let ⟨sl, e1⟩ := G.slot b o hb ht e; ⟨sl, he b _ (fun x => by rw [x, W.n0] at e; cases e) e1⟩⟩, ⟨W.ns, W.nt, W.nh, W.n0⟩, dct⟩
  · rw [x, W.nh] at e; cases e
  · obtain ⟨o', e'⟩ := R.dom b o e
    exact ⟨o', he b o' (fun x => by rw [x, W.nh] at e; cases e) e'⟩
  · obtain ⟨x, o, e⟩ := R.off b hb
    exact ⟨x, o, he b o (fun x => W.ns (x ▸ hb)) e⟩
  · obtain ⟨b, hb, H⟩ := R.objs i ao e
    exact ⟨b, hb, H.heap fun x q => he b x (fun y => W.ns (y ▸ List.mem_of_getElem? hb)) q⟩
  · exact he b o (fun x => by rw [x, W.n0] at e; cases e) (G.out b o hb e ht)
  · obtain ⟨o', e'⟩ := G.dom b o e
    exact ⟨o', he b o' (fun x => by rw [x, W.n0] at e; cases e) e'⟩
/-- a fresh place is an own one -/
theorem Own.new (O : MOk C M) (R : Rel C σ S s) (G : Grow C S' s₀ S s) (s1 : Shared) : Own C S s₀ s1 s.heap.objs.size := by
  have nh : C.hb.get? s.heap.objs.size = none := by
    cases q : C.hb.get? s.heap.objs.size with
    | none => rfl
    | some o =>
      obtain ⟨o', e'⟩ := R.dom _ o q
      rw [get_size] at e'; cases e'
  refine ⟨fun hm => ?_, fun hm => ?_, nh, ?_⟩
  · obtain ⟨_, o, e⟩ := R.off _ hm
    rw [get_size] at e; cases e
  · obtain ⟨o, e, _⟩ := O.tal _ hm
    rw [nh] at e; cases e
  · cases q : s₀.heap.get? s.heap.objs.size with
    | none => rfl
    | some o =>
      obtain ⟨o', e'⟩ := G.dom _ o q
      rw [get_size] at e'; cases e'
theorem rangeIt {a b c : Int} {r : Addr} {t u v : Tok} {Q : Value → Shared → Prop} (O : MOk C M) (R : Rel C σ S s) (G : Grow C S' s₀ S s) (hr : IsRange s.heap r a b c t u v) {ti : Itr} (h : mkRng a b c = some ti)
    (hq : ∀ s1 it, Rel C σ S s1 → Grow C S' s₀ S s1 → RI C S s₀ s1 it ti → Q it s1) : wpAny (model C.prog C.w) A (pyIter (.ref r)) Q E s := by
  unfold mkRng at h
  split at h
  · rename_i hs
    cases h
    refine wpAny_pyIter_range hr hs ?_
    obtain ⟨R', G'⟩ := R.push { cls := .type "range_iterator", data := .fields #[rawInt a, rawInt (Builtin.Range.rangeSize a b c), rawInt c] }
    refine hq _ _ R' (G.trans G') ⟨_, rfl, Own.new O R G _, ?_⟩
    rw [← rangeSize_toNat]
    exact Heap.get?_push_size _ rfl
  · cases h
theorem itOf_sound {r : Ev} (O : MOk C M) (I : SS C M r) {x : X} {t : Itr} {σ1 : St} (h : itOf r en x σ = some (t, σ1)) (hc : chkX M en.f x = true)
    {Q : Value → Shared → Prop} (H : EnvOk C M env en S A s) (a : AOk A en.d) (R : Rel C σ S s)
    (hq : ∀ S1 s1 it, Rel C σ1 S1 s1 → Grow C S s S1 s1 → RI C S1 s s1 it t → Q it s1) :
    wpAny (model C.prog C.w) A (eval (toE M en.f x) env) (fun v s1 => wpAny (model C.prog C.w) A (pyIter v) Q E s1) E s := by
  have lst : ∀ {x : X}, chkX M en.f x = true → itL r en x σ = some (t, σ1) → wpAny (model C.prog C.w) A (eval (toE M en.f x) env) (fun v s1 => wpAny (model C.prog C.w) A (pyIter v) Q E s1) E s := by
    intro x hc h
    unfold itL at h
    obtain ⟨v0, σ2, h1, h⟩ := bn2_at h
    replace h := asRef_at ns h
    obtain ⟨l, rfl, h⟩ := h
    obtain ⟨xs, hx, h⟩ := bnd_at h
    cases h
    refine I.e h1 hc H a R fun S1 s1 u R1 G1 V1 => ?_
    obtain ⟨b, vs, n, rfl, hb, hl, hv⟩ := listAt_sound R1 hx V1
    refine wpAny_pyIter_list (isList_of hl) ?_
    obtain ⟨R', G'⟩ := R1.push { cls := .type "list_iterator", data := .fields #[.ref b, .int 0 0] }
    exact hq _ _ _ R' (G1.trans G') ⟨_, b, rfl, Own.new O R1 G1 _, hb, _, Heap.get?_push_size _ rfl, rfl, rfl⟩
  unfold itOf at h
  cases x with
  | rng xs q p =>
    replace hc := an2 hc
    obtain ⟨vs, σ2, h1, h⟩ := bn2_at h
    obtain ⟨t', ht, h⟩ := bnd_at h
    cases h
    obtain ⟨_, ⟨g1, g2⟩, _⟩ := O.tys
    refine Call_Name (back_trees _ _ _) (ev_blt O H R hc.1 g1 g2 ?_)
    refine PyProof.Rows.callWith_type (any_trees _ _) (args_trees (I.es h1 hc.2 H a R fun S1 s1 us R1 G1 V1 => ?_))
    cases vs with
    | nil => cases ht
    | cons v0 vs =>
    replace ht := asZ_at ns ht
    obtain ⟨b, rfl, ht⟩ := ht
    obtain ⟨v, r', rfl, ⟨t1, hv⟩, V1⟩ := V1
    have hv : v = .int b t1 := hv
    subst hv
    cases vs with
    | nil =>
      cases V1
      refine call_range_1 ?_
      obtain ⟨R', G'⟩ := R1.same (t' := s1.toks + 1 + 1) fun _ _ e => Heap.get?_push_of_some { cls := .type "range", data := .fields #[.int 0 s1.toks, .int b t1, .int 1 (s1.toks + 1)] } e
      exact rangeIt O R' (G1.trans G') (IsRange.new s1.heap 0 b 1 s1.toks t1 (s1.toks + 1)) ht fun s2 it R2 G2 W => hq _ _ _ R2 G2 W
    | cons v0 vs =>
    replace ht := asZ_at ns ht
    obtain ⟨c, rfl, ht⟩ := ht
    obtain ⟨v2, r2, rfl, ⟨t2, hv2⟩, V1⟩ := V1
    have hv2 : v2 = .int c t2 := hv2
    subst hv2
    cases vs with
    | nil =>
      cases V1
      refine call_range_2 ?_
      obtain ⟨R', G'⟩ := R1.same (t' := s1.toks + 1) fun _ _ e => Heap.get?_push_of_some { cls := .type "range", data := .fields #[.int b t1, .int c t2, .int 1 s1.toks] } e
      exact rangeIt O R' (G1.trans G') (IsRange.new s1.heap b c 1 t1 t2 s1.toks) ht fun s2 it R2 G2 W => hq _ _ _ R2 G2 W
    | cons v0 vs =>
    replace ht := l0_at ns ht
    obtain ⟨rfl, ht⟩ := ht
    replace ht := asZ_at ns ht
    obtain ⟨d, rfl, ht⟩ := ht
    obtain ⟨v3, r3, rfl, ⟨t3, hv3⟩, V1⟩ := V1
    have hv3 : v3 = .int d t3 := hv3
    subst hv3
    cases V1
    cases q2 : decide (d = 2) with
    | true =>
      cases of_decide_eq_true q2
      have ht : mkRng b c 2 = some _ := ht
      obtain ⟨R', G'⟩ := R1.push { cls := .type "range", data := .fields #[.int b t1, .int c t2, .int 2 t3] }
      exact call_range_3 (c := 2) (by decide) (rangeIt O R' (G1.trans G') (IsRange.new s1.heap b c 2 t1 t2 t3) ht fun s2 it R2 G2 W => hq _ _ _ R2 G2 W) (.inl (PyProof.noPylong_of_log2 (by decide +kernel)))
    | false =>
      rw [q2] at ht
      obtain ⟨e, ht⟩ := oifD_at (show oif (decide (d = -1)) (mkRng b c (-1)) = some _ from ht)
      cases e
      obtain ⟨R', G'⟩ := R1.push { cls := .type "range", data := .fields #[.int b t1, .int c t2, .int (-1) t3] }
      exact call_range_3 (c := -1) (by decide) (rangeIt O R' (G1.trans G') (IsRange.new s1.heap b c (-1) t1 t2 t3) ht fun s2 it R2 G2 W => hq _ _ _ R2 G2 W) (.inl (PyProof.noPylong_of_log2 (by decide +kernel)))
  | rev y q p =>
    replace hc := an3 hc
    obtain ⟨v0, σ2, h1, h⟩ := bn2_at h
    replace h := asRef_at ns h
    obtain ⟨l, rfl, h⟩ := h
    obtain ⟨xs, hx, h⟩ := bnd_at h
    cases h
    obtain ⟨_, _, g1, g2⟩ := O.tys
    refine Call_Name1 (ev_blt O H R hc.1.1 g1 g2 ?_) (by rw [star_cons]; rfl)
    refine PyProof.Rows.callWith_type rfl (Calls.evalArgs_plain (Calls.spliced_cons (I.e h1 hc.2 H a R fun S1 s1 u R1 G1 V1 => Calls.spliced_nil ?_)))
    obtain ⟨b, vs, n, rfl, hb, hl, hv⟩ := listAt_sound R1 hx V1
    refine call_reversed_list (isList_of hl) ?_
    obtain ⟨R', G'⟩ := R1.push (revObj b ((vs.toArray.size : Int) - 1))
    have hit : (s1.heap.push (revObj b ((vs.toArray.size : Int) - 1))).IsRevIter s1.heap.objs.size b (((lenN xs : Nat) : Int) - 1) := by
      refine ⟨_, Heap.get?_push_size _ rfl, rfl, ?_⟩
      have := hv.length
      show Data.fields #[.ref b, rawInt (((vs.toArray.size : Nat) : Int) - 1)] = _
      rw [lenN_eq, show vs.toArray.size = xs.length by simpa using this]
    refine wpAny_pyIter_revIter (s := { s1 with heap := s1.heap.push (revObj b ((vs.toArray.size : Int) - 1)) }) hit ?_
    exact hq _ _ _ R' (G1.trans G') ⟨_, b, rfl, Own.new O R1 G1 _, hb, hit⟩
  | _ => exact lst hc h
end
end Mine

namespace Mine
section
variable {C : WC} {M : Mod} {env : Env} {en : AEnv} {S S' S₀ : List Addr} {s s' s₀ : Shared} {σ σ' : St} {K : Facts} {A : Around} {E : Value → Shared → Prop} {P : Nat → List AV → St → Option (AV × St)}

theorem nofld {o : Obj} {vs : Array Value} (h : o.data = .fields vs) : ¬ IsD o := fun ⟨es, n, q⟩ => by rw [h] at q; cases q
theorem nextOf_sound {t : Itr} {it : Value} {z : Option (AV × Itr)} (h : nextOf t σ = some z) (hh : A.handled = none) (R : Rel C σ S s) (G : Grow C S₀ s₀ S s) (W : RI C S s₀ s it t) {Q : Option Value → Shared → Prop}
    (hq : ∀ s1 o, Rel C σ S s1 → Grow C S₀ s₀ S s1 → Dct s s1 → (match z with | none => o = none | some (v, t') => ∃ u, o = some u ∧ RV C S v u ∧ RI C S s₀ s1 it t') → Q o s1) : wpAny (model C.prog C.w) A (pyNext it) Q E s := by
  unfold nextOf at h
  cases t with
  | rng x left st =>
    obtain ⟨a, rfl, W, hi⟩ := W
    cases left with
    | zero =>
      cases h
      refine wpAny_pyNext_range_end hh hi (by simp) fun h' he => ?_
      obtain ⟨R', G', W', D'⟩ := R.adv G W (t' := s.toks) he hi (nofld rfl)
      exact hq _ _ R' G' D' rfl
    | succ m =>
      cases h
      refine wpAny_pyNext_range_item hi (by omega) fun h' hi' he => ?_
      obtain ⟨R', G', W', D'⟩ := R.adv G W (t' := s.toks + 1) he.extBut hi (nofld rfl)
      refine hq _ _ R' G' D' ⟨_, rfl, ⟨s.toks, rfl⟩, a, rfl, W', ?_⟩
      have e : (((m + 1 : Nat) : Int) - 1) = (m : Int) := by omega
      rw [show ((m.succ : Nat) : Int) - 1 = (m : Int) from e] at hi'
      exact hi'
  | lst l i =>
    obtain ⟨xs, hx, h⟩ := bnd_at h
    obtain ⟨a, b, rfl, W, hb, hi⟩ := W
    obtain ⟨oi, hia, _, hid⟩ := id hi
    obtain ⟨b', vs, n, e, hb', hl, hv⟩ := listAt_sound R hx ⟨b, hb, rfl⟩
    cases e
    cases hv' : nth xs i with
    | some v =>
      rw [hv'] at h
      cases h
      obtain ⟨u, hu, ru⟩ := rvs_nth hv hv'
      refine wpAny_pyNext_list_item hi (isList_of hl) (by simpa using hu) fun h' hi' he => ?_
      obtain ⟨R', G', W', D'⟩ := R.adv G W (t' := s.toks) he.extBut hia (nofld hid)
      exact hq _ _ R' G' D' ⟨u, rfl, ru, a, b, rfl, W', hb, hi'⟩
    | none =>
      rw [hv'] at h
      cases h
      rw [nth_eq] at hv'
      have hlen := hv.length
      refine wpAny_pyNext_list_end hh hi (isList_of hl) (by
        have := List.getElem?_eq_none_iff.mp hv'
        simp; omega) fun h' he => ?_
      obtain ⟨R', G', W', D'⟩ := R.adv G W (t' := s.toks) he hia (nofld hid)
      exact hq _ _ R' G' D' rfl
  | rev l i =>
    obtain ⟨a, b, rfl, W, hb, hi⟩ := W
    obtain ⟨oi, hia, _, hid⟩ := id hi
    cases i with
    | zero =>
      cases h
      refine wpAny_pyNext_rev_end hh (l := b) (by simpa using hi) fun h' he => ?_
      obtain ⟨R', G', W', D'⟩ := R.adv G W (t' := s.toks) he hia (nofld hid)
      exact hq _ _ R' G' D' rfl
    | succ i =>
      obtain ⟨xs, hx, h⟩ := bnd_at h
      obtain ⟨b', vs, n, e, hb', hl, hv⟩ := listAt_sound R hx ⟨b, hb, rfl⟩
      cases e
      obtain ⟨v, hv', h⟩ := bnd_at h
      cases h
      obtain ⟨u, hu, ru⟩ := rvs_nth hv hv'
      have e : (((i + 1 : Nat) : Int) - 1) = (i : Int) := by omega
      rw [e] at hi
      refine wpAny_pyNext_rev_item hi (isList_of hl) (by simpa using hu) fun h' hi' he => ?_
      obtain ⟨R', G', W', D'⟩ := R.adv G W (t' := s.toks) he.extBut hia (nofld hid)
      exact hq _ _ R' G' D' ⟨u, rfl, ru, a, b, rfl, W', hb, hi'⟩
theorem wrTo_sound (O : MOk C M) (H : EnvOk C M env en S A s) (R : Rel C σ S s) {c : Bool} {i : Nat} {v : AV} {u : Value} {Q : Unit → Shared → Prop} (hc : (match c with | true => isCell M en.f i | false => isL M en.f i) = true) (h : wrTo en c i v σ = some σ') (hv : RV C S v u)
    (hq : ∀ s', Rel C σ' S s' → Grow C S s S s' → Q () s') : wpAny (model C.prog C.w) A (storeName env (M.nm en.f i) u) Q E s := by
  cases c with
  | true => exact st_cell H R hc h hv hq
  | false => exact st_var O H R hc h hv hq
/-- the loop itself -/
theorem lp_sound (O : MOk C M) {n : Nat} (I : ∀ m, m < n → SS C M (ev K M P m)) {c : Bool} {i : Nat} {q : Pos} {it : Value} {b o : Y} {t : Itr} {out : Out} (hc : (match c with | true => isCell M en.f i | false => isL M en.f i) = true) (h : (ev K M P n).lp en c i t b o σ = some (out, σ'))
    (hb : chkY M en.f b = true) (ho : chkY M en.f o = true)
    {Rz : Result → Shared → Prop} (H : EnvOk C M env en S A s) (a : AOk A en.d) (R : Rel C σ S s) (G : Grow C S₀ s₀ S s) (W : RI C S s₀ s it t)
    (hq : ∀ S' s' f, Rel C σ' S' s' → Grow C S₀ s₀ S' s' → ROut C S' out f → Rz (.ok f) s') :
    codeAny (model C.prog C.w) A (Code.forLoop (.Name (M.nm en.f i) q) it (toSs M en.f b) (toSs M en.f o) env) Rz s := by
  refine codeAny_forLoop_any (fun k s => k ≤ n ∧ ∃ σ S t, (ev K M P k).lp en c i t b o σ = some (out, σ') ∧ Rel C σ S s ∧ Grow C S₀ s₀ S s ∧ EnvOk C M env en S A s ∧ RI C S s₀ s it t) ?_ n ⟨Nat.le_refl _, σ, S, t, h, R, G, H, W⟩
  rintro k s ⟨hk, σ, S, t, h, R, G, H, W⟩
  cases k with
  | zero => cases h
  | succ k =>
    have I := I k (by omega)
    have h : stepL (ev K M P k) en c i t b o σ = some (out, σ') := h
    unfold stepL at h
    obtain ⟨q0, hn, h⟩ := bnd_at h
    cases q0 with
    | none =>
      refine nextOf_sound hn a.handled R G W fun s1 z R1 G1 D1 hz => ?_
      have H := H.dct D1
      have hz : z = none := hz
      subst hz
      exact I.ss h ho H a R1 fun S2 s2 f R2 G2 V2 => hq _ _ _ R2 (G1.trans G2) V2
    | some p0 =>
      obtain ⟨v, t'⟩ := p0
      refine nextOf_sound hn a.handled R G W fun s1 z R1 G1 D1 hz => ?_
      obtain ⟨u, rfl, hu, W1⟩ := hz
      have H := H.dct D1
      refine (show wpAny _ A (pure ()) _ _ _ from wpAny_pure ?_)
      obtain ⟨σ1, h1, h⟩ := bnd_at (show bnd (wrTo en c i v σ) _ = some (out, σ') from h)
      refine assign_Name (wrTo_sound O H R1 hc h1 hu fun s2 R2 G2 => ?_)
      have G12 := G1.trans G2
      have W2 := W1.grow G2
      obtain ⟨o2, σ2, h2, h⟩ := bn2_at h
      refine I.ss h2 hb (H.grow G2) a R2 fun S3 s3 f R3 G3 V3 => ?_
      cases o2 with
      | next =>
        have hf : f = .next := V3
        subst hf
        exact ⟨k, Nat.lt_succ_self _, by omega, σ2, S3, t', h, R3, G12.trans G3, (H.grow G2).grow G3, W2.grow G3⟩
      | brk =>
        cases h
        have hf : f = .brk := V3
        subst hf
        exact hq _ _ _ R3 (G12.trans G3) rfl
      | ret w =>
        cases h
        obtain ⟨x, rfl, hx⟩ := V3
        exact hq _ _ _ R3 (G12.trans G3) ⟨x, rfl, hx⟩
theorem for_ok (O : MOk C M) {n : Nat} (I0 : SS C M (ev K M P n)) (I : ∀ m, m < n → SS C M (ev K M P m)) : ForOk C M (ev K M P n) := by
  intro en c i q it b o p σ t σ1 out σ' hit hlp hc env A S E s Q H a R hq
  replace hc := an5 hc
  refine wpAny_For (itOf_sound O I0 hit hc.1.1.2 H a R fun S1 s1 iv R1 G1 W1 => ?_) (folded_of _ _)
  exact lp_sound O I hc.1.1.1.1 hlp hc.1.2 hc.2 (H.grow G1) a R1 G1 W1 fun S2 s2 f R2 G2 V2 => hq _ _ _ R2 G2 V2
end
end Mine

namespace Mine
section
variable {C : WC} {M : Mod} {env : Env} {en : AEnv} {S S' S₀ : List Addr} {s s' s₀ : Shared} {σ σ' : St} {K : Facts} {A : Around} {E : Value → Shared → Prop} {P : Nat → List AV → St → Option (AV × St)}

/-- a comprehension's frame is still a frame at its end -/
theorem comp_keep {Mo : Model} {e : Expr} {scope : Scope} {pos : Pos} {newAcc first : Sem Value} {g : Comprehension} {gs : List Comprehension} {cl : List (Str × Addr)} {Q : Value → Shared → Prop}
    (hcl : clausesOf e = g :: gs) (hs : ∀ x, foldedSetIterable g.iter env x = pure x) (hclos : closureFor scope env = pure cl)
    (hkind : scope.kind = .function) (hnames : ∀ x ∈ scope.names, x.2 = .local → scope.names.lookup x.1 = some .local)
    (h : wpAny Mo A first (fun x s₁ => wpAny Mo A (pyIter x) (fun it s₂ => wpAny Mo A newAcc (fun acc s₃ =>
      wpAny Mo A (newFunctionEnv scope env.globals cl [] env.qual none .none (some env)) (fun cenv s₄ =>
        codeAny Mo A (.compStart e 0 it acc { cenv with scope := relabel scope env }) (fun r s' => match r with
          | .ok _ => ∃ m, s'.heap.Ns cenv.locals m ∧ ∀ h' m', h'.Ns cenv.locals m' → Heap.SameBut cenv.locals s'.heap h' → Q acc { s' with heap := h' }
          | .error _ => False) s₄) E s₃) E s₂) E s₁) E s) :
    wpAny Mo A (comprehension e scope env pos newAcc false first none) Q E s := by
  unfold comprehension
  rw [hclos, hcl]
  refine wpAny_bind (wpAny_mono h (fun x s₁ h₁ => wpAny_bind (wpAny_standAt (wpAny_bind (wpAny_of_eq (hs x) (wpAny_bind (wpAny_holding (wpAny_mono h₁ (fun it s₂ h₂ =>
    wpAny_standIf (wpAny_bind (wpAny_mono h₂ (fun acc s₃ h₃ => wpAny_bind (wpAny_pure (wpAny_bind (wpAny_mono h₃ (fun cenv s₄ h₄ => ?_) fun _ _ h' => h')))) fun _ _ h' => h')))
      fun _ _ h' => h'))))))) fun _ _ h' => h')
  dsimp only
  have hv : ∀ x ∈ (scope.names.filter fun x => (x.2 == .local || x.2 == .cell) && x.1 != (".0" : Str)).reverse, x.2 = .local →
      Env.kindOf { cenv with scope := relabel scope env } x.1 = some .local := fun x hx hl => lookup_relabel_local (hnames x (List.mem_filter.mp (List.mem_reverse.mp hx)).1 hl)
  refine wpAny_holding (wpAny_bind (wpAny_attempt (wpAny_holding (wpAny_run (codeAny_mono h₄ fun r s' hr => ?_)))))
  cases r with
  | ok f =>
    obtain ⟨m, hn, hr⟩ := hr
    exact wpAny_bind (wpAny_holding (wpAny_comp_letGo (cenv := { cenv with scope := relabel scope env }) hkind _ s' m hv hn fun h' m' hn' hs' => wpAny_pure (hr h' m' hn' hs')))
  | error x => exact hr.elim
theorem relabel_at {k : NameKind} : ∀ {names : List (Str × NameKind)} {x : Str}, names.lookup x = some k →
    ∃ k', (names.map fun (n, k) => if (k == NameKind.free && env.scope.kind == .function && env.kindOf n == some .cell) then (n, NameKind.cell) else (n, k)).lookup x = some k' ∧ (k ≠ .free → k' = k) ∧ (k = .free → k' = .cell ∨ k' = .free)
  | [], x, h => by simp at h
  | (n, k0) :: r, x, h => by
    rw [List.map_cons]
    cases q : x == n with
    | true =>
      rw [List.lookup_cons, q] at h
      cases h
      by_cases hc : (k == NameKind.free && env.scope.kind == .function && env.kindOf n == some .cell) = true
      · refine ⟨.cell, ?_, ?_, fun _ => .inl rfl⟩
        · simp only [hc, if_true, List.lookup_cons, q]
        · intro hk
          have := (Bool.and_eq_true_iff.mp (Bool.and_eq_true_iff.mp hc).1).1
          exact absurd (by cases k <;> first | rfl | cases this) hk
      · refine ⟨k, ?_, fun _ => rfl, fun e => .inr e⟩
        simp only [if_neg hc, List.lookup_cons, q]
    | false =>
      rw [List.lookup_cons, q] at h
      obtain ⟨k', h1, h2⟩ := relabel_at h
      refine ⟨k', ?_, h2⟩
      by_cases hc : (k0 == NameKind.free && env.scope.kind == .function && env.kindOf n == some .cell) = true
      · simp only [hc, if_true, List.lookup_cons, q]; exact h1
      · simp only [if_neg hc, List.lookup_cons, q]; exact h1
theorem selfIter {it : Value} {t : Itr} {Q : Value → Shared → Prop} (W : RI C S s₀ s it t) (h : Q it s) : wpAny (model C.prog C.w) A (pyIter it) Q E s := by
  cases t with
  | rng x n st =>
    obtain ⟨a, rfl, _, hi⟩ := W
    exact wpAny_pyIter_rangeiter hi h
  | lst l i =>
    obtain ⟨a, b, rfl, _, _, hi⟩ := W
    exact wpAny_pyIter_listiter hi h
  | rev l i =>
    obtain ⟨a, b, rfl, _, _, hi⟩ := W
    exact wpAny_pyIter_revIter hi h
end
end Mine

namespace Mine
section
variable {C : WC} {M : Mod} {env : Env} {en : AEnv} {S S' S₀ : List Addr} {s s' s₀ : Shared} {σ σ' : St} {K : Facts} {A : Around} {E : Value → Shared → Prop} {P : Nat → List AV → St → Option (AV × St)}

theorem cl_sound (HK : K.Ok C.ι) (O : MOk C M) {n : Nat} (I : ∀ m, m < n → SS C M (ev K M P m)) {elt cond iter : X} {f ti acc : Nat} {tp pos : Pos} {scope : Scope} {it av : Value} {t : Itr} (h : (ev K M P n).cl en elt ti t cond acc σ = some σ')
    (hti : isL M en.f ti = true) (he : chkX M en.f elt = true) (hc : chkX M en.f cond = true)
    {Rz : Result → Shared → Prop} (H : EnvOk C M env en S A s) (a : AOk A en.d) (R : Rel C σ S s) (G : Grow C S₀ s₀ S s) (W : RI C S s₀ s it t) (V : RV C S (.ref acc) av)
    (hq : ∀ S' s', Rel C σ' S' s' → Grow C S₀ s₀ S' s' → EnvOk C M env en S' A s' → RV C S' (.ref acc) av → (∃ g ls, σ'.h.get en.fr = some (.frame g ls)) → Rz (.ok .next) s') :
    codeAny (model C.prog C.w) A (.compLoop (.ListComp (toE M en.f elt) [⟨.Name (M.nm en.f ti) tp, toE M f iter, toEs M en.f cond, 0⟩] scope pos) 0 it av env) Rz s := by
  refine codeAny_compLoop_tests (fun k s => k ≤ n ∧ ∃ σ S t, (ev K M P k).cl en elt ti t cond acc σ = some σ' ∧ Rel C σ S s ∧ Grow C S₀ s₀ S s ∧ EnvOk C M env en S A s ∧ RI C S s₀ s it t ∧ RV C S (.ref acc) av) ?_ n ⟨Nat.le_refl _, σ, S, t, h, R, G, H, W, V⟩
  rintro k s ⟨hk, σ, S, t, h, R, G, H, W, V⟩
  cases k with
  | zero => cases h
  | succ k =>
    have I := I k (by omega)
    have h : stepC K M (ev K M P k) en elt ti t cond acc σ = some σ' := h
    unfold stepC at h
    obtain ⟨q0, hn, h⟩ := bnd_at h
    cases q0 with
    | none =>
      refine nextOf_sound hn a.handled R G W fun s1 z R1 G1 D1 hz => ?_
      have H := H.dct D1
      have hz : z = none := hz
      subst hz
      obtain ⟨g, ls, hf, h⟩ := asFr_at ns (show asFr none (σ.h.get en.fr) _ = some σ' from h)
      cases h
      exact hq _ _ R1 G1 H V ⟨g, ls, hf⟩
    | some p0 =>
      obtain ⟨v, t'⟩ := p0
      refine nextOf_sound hn a.handled R G W fun s1 z R1 G1 D1 hz => ?_
      obtain ⟨u, rfl, hu, W1⟩ := hz
      have H := H.dct D1
      obtain ⟨σ1, h1, h⟩ := bnd_at (show bnd (wrVar en ti v σ) _ = some σ' from h)
      refine assign_Name (st_var O H R1 hti h1 hu fun s2 R2 G2 => ?_)
      have G12 := G1.trans G2
      have W2 := W1.grow G2
      have H2 := H.grow G2
      have V2 := G2.rv V
      have put : ∀ {σ2 : St} {S2 : List Addr} {s2 : Shared} {E : Value → Shared → Prop}, Rel C σ2 S2 s2 → Grow C S₀ s₀ S2 s2 → RI C S2 s₀ s2 it t' → EnvOk C M env en S2 A s2 → RV C S2 (.ref acc) av →
          compPut K M (ev K M P k) en elt ti t' cond acc σ2 = some σ' →
          wpAny (model C.prog C.w) A (eval (toE M en.f elt) env) (fun x s₄ => wpAny (model C.prog C.w) A (call (.builtin "list.append") [av, x])
            (fun _ s₅ => ∃ m, m < k + 1 ∧ m ≤ n ∧ ∃ σ S t, (ev K M P m).cl en elt ti t cond acc σ = some σ' ∧ Rel C σ S s₅ ∧ Grow C S₀ s₀ S s₅ ∧ EnvOk C M env en S A s₅ ∧ RI C S s₀ s₅ it t ∧ RV C S (.ref acc) av) E s₄) E s2 := by
        intro σ2 S2 s2 E R2 G2 W2 H2 V2 h
        unfold compPut at h
        obtain ⟨u2, σ3, h3, h⟩ := bn2_at h
        refine I.e h3 he H2 a R2 fun S3 s3 x R3 G3 V3 => ?_
        obtain ⟨w, σ4, h4, h⟩ := bn2_at h
        refine (methAV_sound HK O R3 h4 (G3.rv V2) (RVs.one V3) a.handled fun S4 s4 w' R4 G4 V4 => ?_).2.2
        exact ⟨k, Nat.lt_succ_self _, by omega, σ4, S4, t', h, R4, (G2.trans G3).trans G4, (H2.grow G3).grow G4, (W2.grow G3).grow G4, G4.rv (G3.rv V2)⟩
      rcases asCond_at ns h with ⟨rfl, h⟩ | ⟨x, rfl, h⟩
      · show wpAny _ A (forIn ([] : List Expr) true _) _ _ _
        refine wpAny_tests_nil ?_
        rw [if_pos rfl]
        exact put R2 G12 W2 H2 V2 h
      · replace hc := an3 hc
        show wpAny _ A (forIn [toE M en.f x] true _) _ _ _
        refine wpAny_tests_one ?_
        obtain ⟨b, σ2, h2, h⟩ := bn2_at h
        refine I.t h2 hc.1.2 H2 a R2 fun S3 s3 R3 G3 => ?_
        cases b with
        | true =>
          rw [if_pos rfl]
          exact put R3 (G12.trans G3) (W2.grow G3) (H2.grow G3) (G3.rv V2) h
        | false =>
          rw [if_neg Bool.false_ne_true]
          exact ⟨k, Nat.lt_succ_self _, by omega, σ2, S3, t', h, R3, G12.trans G3, H2.grow G3, W2.grow G3, G3.rv V2⟩
theorem comp_ok (HK : K.Ok C.ι) (O : MOk C M) {n : Nat} (I0 : SS C M (ev K M P n)) (I : ∀ m, m < n → SS C M (ev K M P m)) {x : X} {av : AV} (hx : ∃ fc fm elt ti tp it cond p, x = .comp fc fm elt ti tp it cond p)
    (h : stepE K M P (ev K M P n) en x σ = some (av, σ')) (hc : chkX M en.f x = true) {Q : Value → Shared → Prop} (H : EnvOk C M env en S A s) (a : AOk A en.d) (R : Rel C σ S s)
    (hq : ∀ S' s' v, Rel C σ' S' s' → Grow C S s S' s' → RV C S' av v → Q v s') : wpAny (model C.prog C.w) A (eval (toE M en.f x) env) Q E s := by
  obtain ⟨fc, fm, elt, ti, tp, it, cond, p, rfl⟩ := hx
  replace hc := an9 hc
  obtain ⟨⟨⟨⟨⟨⟨⟨⟨c0, c1⟩, c2⟩, c3⟩, c4⟩, c5⟩, c6⟩, c7⟩, c8⟩ := hc
  unfold stepE at h
  obtain ⟨t, σ1, hit, h⟩ := bn2_at h
  obtain ⟨cs, hcs, h⟩ := bnd_at h
  obtain ⟨hn, h⟩ := oif_at h
  have hn' : σ1.n + 1 < 4096 := Nat.le_of_ble_eq_true hn
  obtain ⟨σ2, hcl, h⟩ := bnd_at h
  cases h
  have scopeAt : ∀ n k, (n, k) ∈ (M.sc fc).names → ∃ i : Nat, (M.sc fc).names[i]? = some (n, k) ∧ i < (M.sc fc).names.length := by
    intro n k hm
    obtain ⟨i, hi, e⟩ := List.getElem_of_mem hm
    exact ⟨i, by rw [List.getElem?_eq_getElem hi, e], hi⟩
  have pl : ∀ i n k, (M.sc fc).names[i]? = some (n, k) → k ≠ .cell ∧ (k = .free → (lkN fm i).isSome = true) := by
    intro i n k hi
    have hlt := (List.getElem?_eq_some_iff.mp hi).1
    have := List.all_eq_true.mp c1 i (List.mem_range.mpr hlt)
    simp only [hi] at this
    cases k with
    | free => exact ⟨by decide, fun _ => this⟩
    | cell => cases this
    | _ => exact ⟨by decide, fun e => by cases e⟩
  obtain ⟨q1, q2⟩ := cells_for hcs
  have hfree : ∀ n, (n, NameKind.free) ∈ (M.sc fc).names → ∃ a, env.cells.lookup n = some a := by
    intro n hm
    obtain ⟨i, hi, _⟩ := scopeAt _ _ hm
    obtain ⟨j, hj⟩ := Option.isSome_iff_exists.mp ((pl i n _ hi).2 rfl)
    obtain ⟨c, hc⟩ := q2 i j hj
    obtain ⟨y, k, e1, e2⟩ := okCells_at c2 hj
    obtain ⟨z, k', b, f1, f2, f3, f4⟩ := H.cel j c hc
    rw [hi] at e1
    cases e1
    rw [e2] at f1
    cases f1
    exact ⟨b, f3⟩
  have hclos := closure_of (scope := M.sc fc) hfree
  show wpAny _ A (eval (.ListComp (toE M fc elt) [⟨.Name (M.nm fc ti) tp, toE M en.f it, toEs M fc cond, 0⟩] (M.sc fc) p) env) Q E s
  rw [eval_ListComp]
  refine comp_keep rfl (folded_of _ _) hclos (O.kind fc) (fun y hy hl => ?_) (itOf_sound O I0 hit c7 H a R fun S1 s1 iv R1 G1 W1 => ?_)
  · obtain ⟨y1, y2⟩ := y
    obtain ⟨i, hi, _⟩ := scopeAt _ _ hy
    have hl : y2 = .local := hl
    subst hl
    exact O.look _ _ _ _ hi
  refine wpAny_newList ?_
  obtain ⟨R2, G2, V2⟩ := R1.alloc (Nat.lt_of_succ_lt hn') (ao := .list []) (a := s1.heap.objs.size) (h' := s1.heap.push { cls := .type "list", data := .seq #[] }) (t' := s1.toks)
    (fun _ _ e => Heap.get?_push_of_some _ e) (get_size _) ⟨#[], 0, Heap.get?_push_size _ rfl, rfl⟩
  refine wpAny_newFunctionEnv (fun y hy e => ?_) (fun y hy => by cases hy) (fun h₁ hns hsb => ?_) (O.kind fc)
  · obtain ⟨y1, y2⟩ := y
    obtain ⟨i, hi, _⟩ := scopeAt _ _ hy
    exact (pl i _ _ hi).1 e
  have hkeep : ∀ b o, (s1.heap.push { cls := .type "list", data := .seq #[] }).get? b = some o → h₁.get? b = some o := fun b o e =>
    hsb.extBut b o (fun q => by rw [q] at e; exact absurd (Heap.lt_size e) (Nat.lt_irrefl _)) (Heap.get?_push_of_some _ e)
  obtain ⟨R3, G3⟩ := R2.same (h' := h₁) (t' := s1.toks + 0) hkeep
  have hsz : (s1.heap.push ({ cls := .type "list", data := .seq #[] } : Obj)).objs.size = s1.heap.objs.size + 1 := Heap.size_push ..
  have W0 := Own.new O R2 G2 (s₀ := s1) (S' := S1) { s1 with heap := h₁ }
  have hR4 : Rel C ((σ1.new (.list [])).new (.frame fc (blanks (M.sc fc).names.length))) (S1 ++ [s1.heap.objs.size] ++ [(s1.heap.push ({ cls := .type "list", data := .seq #[] } : Obj)).objs.size]) { s1 with heap := h₁, toks := s1.toks + 0 } := by
    refine R3.adopt (show σ1.n + 1 < 4096 from hn') W0.ns W0.nh ⟨?_, _, hns, fun i y hy => ?_⟩
    · rw [blanks_len, O.cnt]; exact Nat.le_refl _
    · have := blanks_at _ _ _ hy
      subst this
      exact rfl
  have G4 : Grow C S1 s1 (S1 ++ [s1.heap.objs.size] ++ [(s1.heap.push ({ cls := .type "list", data := .seq #[] } : Obj)).objs.size]) { s1 with heap := h₁, toks := s1.toks + 0 } := by
    have G23 := G2.trans G3
    refine ⟨⟨[s1.heap.objs.size] ++ [(s1.heap.push ({ cls := .type "list", data := .seq #[] } : Obj)).objs.size], by rw [List.append_assoc], fun b hb => ?_⟩, G23.out, G23.dom, G23.dict, G23.gens, G23.slot⟩
    rcases List.mem_append.mp hb with q | q
    · rw [List.mem_singleton.mp q]; exact get_size _
    · rw [List.mem_singleton.mp q]; exact W0.n0
  have H1 := (H.grow G1).grow G4
  have hlen1 : S1.length = σ1.n := R1.len
  have H4 : EnvOk C M { (newEnv (M.sc fc) (s1.heap.push ({ cls := .type "list", data := .seq #[] } : Obj)).objs.size env.globals (clos env (M.sc fc).names []) env.qual none .none (some env) builtinsNs) with scope := relabel (M.sc fc) env }
      ⟨fc, σ1.n + 1, cs, en.d⟩ (S1 ++ [s1.heap.objs.size] ++ [(s1.heap.push ({ cls := .type "list", data := .seq #[] } : Obj)).objs.size]) A { s1 with heap := h₁, toks := s1.toks + 0 } := by
    refine ⟨H1.stk, (fun q => by have q : (M.fn fc).isSome = true := q; rw [Option.isNone_iff_eq_none.mp c0] at q; cases q), O.kind fc, H.glob, H.blt, ?_, fun i y hy => ?_, fun i y hy => ?_, fun y hy => ?_, fun k2 n2 hn2 e => ?_, fun i c hc => ?_⟩
    · show (S1 ++ [s1.heap.objs.size] ++ [_])[σ1.n + 1]? = some _
      rw [List.getElem?_append_right (by simp; omega)]
      simp [hlen1]
      rfl
    · exact lookup_relabel_local (O.look _ _ _ _ hy)
    · exact absurd rfl (pl i _ _ hy).1
    · obtain ⟨k', e1, e2, _⟩ := relabel_at (env := env) hy
      rw [e2 (by decide)] at e1
      exact e1
    · have e : n2.mkr = fc := e
      have := (O.inn _ _ hn2).2.1
      rw [e, Option.isNone_iff_eq_none.mp c0] at this
      cases this
    · obtain ⟨j, hj, hjc⟩ := q1 i c hc
      obtain ⟨y, k, e1, e2⟩ := okCells_at c2 hj
      obtain ⟨z, k', b, f1, f2, f3, f4⟩ := H1.cel j c hjc
      rw [e2] at f1
      cases f1
      refine ⟨y, .free, b, e1, f2, ?_, ?_⟩
      · exact clos_lookup _ _ _ _ f3 (fun y b e => by cases e) hfree (.inl (List.mem_of_getElem? e1))
      · obtain ⟨k2, g1, _, g3⟩ := relabel_at (env := env) (O.look _ _ _ _ e1)
        rcases g3 rfl with g | g
        · subst g; exact .inl g1
        · subst g; exact .inr g1
  have loop := cl_sound (f := en.f) (iter := it) (tp := tp) (pos := p) (scope := M.sc fc) HK O I hcl c5 c6 c8 (A := A) (Rz := fun r s' => match r with
    | .ok _ => ∃ m, s'.heap.Ns (s1.heap.push ({ cls := .type "list", data := .seq #[] } : Obj)).objs.size m ∧ ∀ h' m', h'.Ns (s1.heap.push ({ cls := .type "list", data := .seq #[] } : Obj)).objs.size m' → Heap.SameBut (s1.heap.push ({ cls := .type "list", data := .seq #[] } : Obj)).objs.size s'.heap h' → Q (.ref s1.heap.objs.size) { s' with heap := h' }
    | .error _ => False) H4 a hR4 (G1.trans G4) (W1.grow G4) (av := .ref s1.heap.objs.size) (show RV C (S1 ++ [s1.heap.objs.size] ++ [_]) (.ref σ1.n) (.ref s1.heap.objs.size) from V2.mono _) (fun S5 s5 R5 G5 H5 V5 hf => by
      obtain ⟨g, ls, hf⟩ := hf
      have hat : S5[σ1.n + 1]? = some (s1.heap.push ({ cls := .type "list", data := .seq #[] } : Obj)).objs.size := H5.fr
      obtain ⟨b, hb, hc, m, hm, hl⟩ := R5.objs _ _ hf
      have : b = (s1.heap.push ({ cls := .type "list", data := .seq #[] } : Obj)).objs.size := by rw [hat] at hb; exact (Option.some.inj hb).symm
      subst this
      refine ⟨m, hm, fun h' m' hm' hs' => ?_⟩
      obtain ⟨R6, G6⟩ := R5.upd (t' := s5.toks) hat hf rfl hn' (ao := .frame fc []) hs' ⟨Nat.zero_le _, m', hm', fun i x hi => by simp at hi⟩
      exact hq _ _ _ R6 (G5.trans G6) V5)
  exact codeAny_compStart_list loop (selfIter (W1.grow G4) loop)
end
end Mine

namespace Mine
theorem rev_no_len : typeLookup (.type "list_reverseiterator") "__len__" = pure none := by rw [typeLookup_type, builtinLookup_eq_fast]; kernel_rfl
theorem rev_hint : typeLookup (.type "list_reverseiterator") "__length_hint__" = pure (some (.builtin "list_reverseiterator.__length_hint__")) := by rw [typeLookup_type, builtinLookup_eq_fast]; kernel_rfl
section
variable {prog : Program} {w : World} {A : Around} {E : Value → Shared → Prop} {s : Shared}
theorem hint_rev {I : Addr} {Q : Bool → Shared → Prop} (hT : s.TypeIs (.ref I) "list_reverseiterator") (h : Q false s) : wpAny (model prog w) A (Builtin.List.listLengthHint (.ref I)) Q E s := by
  unfold Builtin.List.listLengthHint
  refine wpAny_bind (wpAny_specialOf hT rev_no_len ?_)
  show wpAny _ A (specialOf (Value.ref I) (Str.ofString "__length_hint__") >>= _) _ _ _
  refine wpAny_bind (wpAny_specialOf hT rev_hint ?_)
  generalize hid : ("list_reverseiterator.__length_hint__" : String) = id0
  wp_delta
  rw [show splitId id0 = some ("list_reverseiterator", "__length_hint__") from by subst hid; decide +kernel]
  subst hid
  refine wpAny_bind (wpAny_isInstance (T := "list_reverseiterator") (b := true) hT (by rw [isSubtype_type]; kernel_rfl) ?_)
  refine wpAny_ite_split (fun hab => absurd hab (by decide)) (fun _ => ?_)
  refine wpAny_ite_split (fun _ => ?_) (fun hab => absurd (by decide +kernel) hab)
  refine wpAny_ite_split (fun hab => absurd hab (by decide +kernel)) (fun _ => ?_)
  exact wpAny_pure h
theorem extend_rev {R : Result → Shared → Prop} {I l S : Addr} {items : Array Value} {c₀ : Nat} (hh : A.handled = none) (hit : s.heap.IsRevIter I l ((items.size : Int) - 1)) (hl : s.heap.IsList l items) (hz : items.size ≤ sizeLine) (hlI : l ≠ I)
    (res : Value) (hSl : S ≠ l) (hSI : S ≠ I) (hS : s.heap.get? S = some { cls := .type "list", data := .seq #[] c₀ })
    (hR : ∀ h' tk acc' c', (∀ b o, b ≠ S → b ≠ I → s.heap.get? b = some o → h'.get? b = some o) → h'.get? S = some { cls := .type "list", dict := none, data := .seq acc' c', slots := #[] } →
      ItemsOf (fun i v => items[items.size - 1 - i]? = some v) acc' items.size → R (.ok (.ret res)) { s with heap := h', toks := tk }) :
    wpAny (model prog w) A.in1 (Builtin.List.listExtendWith (.ref S) (.ref I) res)
      (fun fin s' => match fin with | .done f => R (.ok f) s' | .again c' => c'.quiet = true ∧ codeAny (model prog w) A c' R s') (fun e s' => R (.error e) s') s := by
  have W := (Walks.listRev (prog := prog) (w := w) (A := A.in1) hh I l hlI items).toS
  have hSf : S ∉ [I, l] := fun hm => by
    rcases List.mem_cons.mp hm with e | hm
    · exact hSI e
    · exact hSl (List.mem_singleton.mp hm)
  have hT := hit.typeIs (s := s)
  unfold Builtin.List.listExtendWith
  refine wpAny_bind (wpAny_typeOf hT ?_)
  have h1 : Builtin.List.listSameRef (.ref S) (.ref I) = false := by simp [Builtin.List.listSameRef, hSI]
  have h2 : (Value.type "list_reverseiterator" == Value.type "list") = false := by decide
  have h3 : (Value.type "list_reverseiterator" == Value.type "tuple") = false := by decide
  simp only [h1, h2, h3, Bool.or_false, Bool.false_eq_true, if_false]
  refine wpAny_bind (wpAny_pyIter_revIter hit ?_)
  refine wpAny_bind (wpAny_holding (hint_rev hT ?_))
  refine wpAny_ite_split (fun hab => absurd hab (by decide +kernel)) (fun _ => ?_)
  refine wpAny_pure ⟨plainId_quiet F.plain_extend_loop _, codeAny_extend_loopS W hz S hSf res items.size 0 _ #[] c₀ rfl (Nat.zero_le _) ⟨Nat.zero_le _, by simpa using hit, hl⟩ hS (ItemsOf.nil _) fun s' acc' c' hm hS' hacc => ?_⟩
  rw [Moved.eq_with hm]
  refine hR s'.heap s'.toks acc' c' (fun b o hb hbI e => hm.heap b o (fun hmem => ?_) e) hS' hacc
  rcases List.mem_cons.mp hmem with e' | hmem
  · exact hb e'
  · exact hbI (List.mem_singleton.mp hmem)
theorem call_list_rev {Q : Value → Shared → Prop} {I l : Addr} {items : Array Value} (hh : A.handled = none) (hit : s.heap.IsRevIter I l ((items.size : Int) - 1)) (hl : s.heap.IsList l items) (hz : items.size ≤ sizeLine) (hlI : l ≠ I)
    (hQ : ∀ h' tk acc' c', (∀ b o, b ≠ I → s.heap.get? b = some o → h'.get? b = some o) →
      h'.get? s.heap.objs.size = some { cls := .type "list", dict := none, data := .seq acc' c', slots := #[] } → ItemsOf (fun i v => items[items.size - 1 - i]? = some v) acc' items.size → Q (.ref s.heap.objs.size) { s with heap := h', toks := tk }) :
    wpAny (model prog w) A (call (.type "list") [.ref I]) Q E s := by
  have hIlt : I < s.heap.objs.size := by obtain ⟨o, ho, _⟩ := hit; exact Heap.lt_size ho
  have hllt : l < s.heap.objs.size := by obtain ⟨o, ho, _⟩ := hl; exact Heap.lt_size ho
  refine callType_codes (Q₁ := fun obj s₁ => obj = .ref s.heap.objs.size ∧ s₁ = { s with heap := s.heap.push { cls := .type "list", data := .seq #[] } }) F.called_list (F.typeCall_list_1 _) F.entry_list_init
    (code_list_new _ ⟨rfl, rfl⟩) fun obj s₁ h₁ => ?_
  obtain ⟨rfl, rfl⟩ := h₁
  have hS : (s.heap.push { cls := .type "list", data := .seq #[] }).get? s.heap.objs.size = some { cls := .type "list", data := .seq #[] } := Heap.get?_push_size _ rfl
  refine ⟨⟨_, hS, rfl⟩, F.args_list_init_2 _ _, ?_⟩
  show wpAny _ _ (do let old ← Builtin.List.listItems (.ref s.heap.objs.size); Builtin.List.listUpdate (.ref s.heap.objs.size) (fun _ => #[]); letGo old.toList.reverse; Builtin.List.listExtendWith (.ref s.heap.objs.size) (.ref I) .none) _ _ _
  refine wpAny_bind ?_
  unfold Builtin.List.listItems
  refine wpAny_bind (wpAny_seqItems hS rfl (wpAny_pure ?_))
  show wpAny _ _ (updateSeq s.heap.objs.size (fun _ => #[]) >>= fun _ => letGo (#[] : Array Value).toList.reverse >>= fun _ => Builtin.List.listExtendWith (.ref s.heap.objs.size) (.ref I) .none) _ _ _
  refine wpAny_bind (wpAny_updateSeq hS rfl ?_)
  have hS₂ := Heap.get?_update_self (Obj.mapSeq (fun _ => (#[] : Array Value))) hS rfl
  have oth : ∀ b o, b ≠ s.heap.objs.size → s.heap.get? b = some o → ((s.heap.push { cls := .type "list", data := .seq #[] }).update s.heap.objs.size (Obj.mapSeq (fun _ => (#[] : Array Value)))).get? b = some o :=
    fun b o hb e => (Heap.get?_update_other _ _ (Ne.symm hb)).trans (Heap.get?_push_of_some _ e)
  refine wpAny_bind (wpAny_letGo ?_)
  refine extend_rev (A := A.in1) (items := items) hh (hit.at fun o e => oth I o (Nat.ne_of_lt hIlt) e) (hl.at fun o e => oth l o (Nat.ne_of_lt hllt) e) hz hlI .none (Nat.ne_of_gt hllt) (Nat.ne_of_gt hIlt) hS₂ fun h' tk acc' c' hk hS' hacc => ?_
  exact ⟨rfl, hQ h' tk acc' c' (fun b o hb e => hk b o (Nat.ne_of_lt (Heap.lt_size e)) hb (oth b o (Nat.ne_of_lt (Heap.lt_size e)) e)) hS' hacc⟩
end
end Mine

namespace Mine
open PySem.Sem (wp)
section
variable {M : Model} {A : Around} {R : GenEnd} {Y : Protocol} {n : Nat} {s₀ : Shared} {c : Code} {fs : List Frame} {s : Shared} {env : Env}
  {K : Flow → Sem Fin} {H : Value → Sem Fin} {gd : Bool → Bool} {lv : List Value → List Value}
theorem seg_yield0 {v g l} {k : Resume → Sem Fin} (hfs : splitAtGen fs = none) (hg : g = false) (hfg : fs.any Frame.guarded = false)
    (h : Y 0 s₀ v s fun _ _ => False) : Seg M A R Y 0 s₀ c (.yield v g l k) fs s := by
  rintro Γ p rfl _
  exact ⟨_, s, Runs.yield' fs hfs, And.intro (by simp [End.quiet, hg, hfg]) h⟩
theorem seg_Yield {e : Expr} {ypos pos : Pos} (hfs : splitAtGen fs = none) (hgd : gd false = false) (hfg : fs.any Frame.guarded = false)
    (h : wpAny M (A.over c fs) (eval e env) (fun v s' => ∀ kap : Resume → Shared → Prop,
        (∀ m, n = m + 1 → ∀ x s'', (match x with | .ref _ => False | _ => Seg M A R Y m s'' c (K .next) fs s'') → kap (.send x) s'') → Y (n - 1) s₀ v s' kap)
      (fun x s' => Seg M A R Y n s₀ c (H x) fs s') s) (hco : env.scope.isCoroutine = false := by rfl) (hi : interactive env = false := by rfl) :
    Seg M A R Y n s₀ c ((exec (.Expr (.Yield (some e) ypos) pos) env).wrap K H gd lv) fs s := by
  rw [exec_Expr env _ pos hi rfl]
  show Seg M A R Y n s₀ c (.at pos fun _ => ((eval e env >>= fun v => (standAt ypos >>= fun _ => yieldOut env v)) >>= fun x =>
    dropValue (.Yield (some e) ypos) pos x).wrap K H gd lv) fs s
  have hy : ∀ v, yieldOut env v = yieldValue v := fun v => by simp only [yieldOut, hco, Bool.false_eq_true, if_false]
  simp only [hy]
  refine seg_at ?_
  rw [Sem.bind_eq_wrap', Sem.bind_eq_wrap', Sem.wrap_wrap, Sem.wrap_wrap]
  refine seg_wrap (wpAny_mono h (fun v s' h' => ?_) fun _ _ x => x)
  cases n with
  | zero => exact seg_at (seg_yield0 hfs hgd hfg (h' _ fun m hm => by cases hm))
  | succ n =>
    refine seg_at (seg_yield hfs hgd hfg ?_)
    refine h' _ fun m hm x s'' hx => ?_
    cases hm
    cases x <;> first | exact hx | exact hx.elim
theorem seg_If {test : Expr} {body orelse : List Stmt} {pos : Pos}
    (h : wpAny M (A.over c fs) (isTrue test env (eval test env)) (fun b s' => if b = true then Seg M A R Y n s₀ c ((execs body env).wrap K H gd lv) fs s' else Seg M A R Y n s₀ c ((execs orelse env).wrap K H gd lv) fs s')
      (fun x s' => Seg M A R Y n s₀ c (H x) fs s') s) : Seg M A R Y n s₀ c ((exec (.If test body orelse pos) env).wrap K H gd lv) fs s := by
  rw [exec_If]
  refine seg_bind_wrap (wpAny_standAt (seg_bind_wrap (wpAny_mono h (fun b s' h' => ?_) fun _ _ x => x)))
  cases b with
  | true => exact h'
  | false => exact h'
theorem seg_For {target iter : Expr} {body orelse : List Stmt} {pos : Pos} (hs : ∀ x, foldedSetIterable iter env x = pure x)
    (h : wpAny M (A.over c fs) (eval iter env) (fun x s₁ => wpAny M (A.over c fs) (pyIter x) (fun it s₂ => ∀ p, Seg M A R Y n s₀ (.forLoop target it body orelse env) (M.den (.forLoop target it body orelse env))
      (.ret (fun r => ((match r with | .ok f => (.pure f : Sem Flow) | .error e => .raise e).onRaise fun (x : Value) => do
        if (← field x 1) == Value.none then unsupported "frame.own-activation:exception-without-traceback"
        setFlight x env.frame).wrap K H gd lv) none (gd false) (lv []) c p [] :: fs) s₂) (fun x s' => Seg M A R Y n s₀ c (H x) fs s') s₁) (fun x s' => Seg M A R Y n s₀ c (H x) fs s') s) :
    Seg M A R Y n s₀ c ((exec (.For target iter body orelse pos) env).wrap K H gd lv) fs s := by
  rw [exec_For]
  refine seg_bind_wrap (wpAny_standAt (seg_bind_wrap (wpAny_mono h (fun x s₁ h₁ => ?_) fun _ _ x => x)))
  refine seg_bind_wrap (wpAny_of_eq (hs x) ?_)
  refine seg_bind_wrap (wpAny_standAt ?_)
  refine seg_bind_wrap (wpAny_holding (wpAny_mono h₁ (fun it s₂ h₂ => ?_) fun _ _ x => x))
  exact seg_call h₂
end
section
variable {prog : Program} {w : World} {A : Around} {R : GenEnd} {Y : Protocol} {n : Nat} {s₀ : Shared} {fs : List Frame} {s : Shared} {env : Env}
/-- what goes up when a turn raises -/
abbrev goesUp (env : Env) : Value → Sem Fin := fun e => (do noteFrame e env; theTreesLotGoes e : Sem Unit).wrap (fun _ => .raise e) .raise id id
theorem seg_forLoop {x : Str} {px : Pos} {it : Value} {body orelse : List Stmt}
    (h : wpAny (model prog w) (A.over (.forLoop (.Name x px) it body orelse env) fs) (pyNext it) (fun o s' => match o with
        | none => Seg (model prog w) A R Y n s₀ (.forLoop (.Name x px) it body orelse env) (.pure (.again (.block orelse env))) fs s'
        | some v => wpAny (model prog w) (A.over (.forLoop (.Name x px) it body orelse env) fs) (assign (.Name x px) env v) (fun _ s'' =>
            Seg (model prog w) A R Y n s₀ (.forLoop (.Name x px) it body orelse env) ((execs body env).wrap (fun f => match f with
              | .next | .cont => .pure (.again (.forLoop (.Name x px) it body orelse env))
              | .brk => .pure (.done .next)
              | .ret v => .pure (.done (.ret v))) (goesUp env) id id) fs s'') (fun _ _ => False) s') (fun _ _ => False) s) :
    Seg (model prog w) A R Y n s₀ (.forLoop (.Name x px) it body orelse env) ((model prog w).den (.forLoop (.Name x px) it body orelse env)) fs s := by
  show Seg _ A R Y n s₀ _ ((forTurn (.Name x px) it body orelse env).onRaise (fun x => do noteFrame x env; theTreesLotGoes x)) fs s
  unfold forTurn
  rw [Sem.onRaise_eq_wrap]
  refine seg_bind_wrap (wpAny_standAt (seg_bind_wrap (wpAny_onRaise (wpAny_mono h (fun o s' ho => ?_) fun _ _ x => x.elim))))
  cases o with
  | none => exact ho
  | some v =>
    refine seg_bind_wrap (wpAny_of_eq (rfl : letOwnedTupleGo (.Name x px) it v = pure ()) ?_)
    refine seg_bind_wrap (wpAny_mono ho (fun _ s'' h'' => ?_) fun _ _ x => x.elim)
    rw [Sem.bind_eq_wrap', Sem.wrap_wrap]
    rw [Sem.wrap_congr (execs body env) _ _ (K' := fun f => match f with
            | .next | .cont => .pure (.again (.forLoop (.Name x px) it body orelse env))
            | .brk => .pure (.done .next)
            | .ret v => .pure (.done (.ret v))) (H' := goesUp env)
        (fun f => by cases f <;> rfl)
        (fun e => by first | exact Sem.bind_eq_wrap _ _ | (show (do noteFrame e env; theTreesLotGoes e : Sem Unit).bind (fun _ => .raise e) = _; rw [Sem.bind_eq_wrap]))]
    exact h''
theorem seg_block_nil (h : Seg (model prog w) A R Y n s₀ (.block [] env) (leafOf (.ok .next)) fs s) :
    Seg (model prog w) A R Y n s₀ (.block [] env) ((model prog w).den (.block [] env)) fs s := h
end
end Mine

namespace Mine
theorem gst_next {ns : List Int} {r : Nat} {k : Int} {t : GT} (h : gnI ns (gst ns r) = some (k, t)) : gst ns (r + 1) = t := by
  show (match gnI ns (gst ns r) with | some (_, t) => t | none => gst ns r) = t
  rw [h]
noncomputable def NumsAt (h : Heap) (lb : Addr) (ns : List Int) : Prop := ∃ vs : Array Value, h.IsList lb vs ∧ vs.size = ns.length ∧ ∀ (j : Nat) k, ns[j]? = some k → ∃ u, vs[j]? = some (.int k u)
noncomputable def GH (L lb I : Addr) (t : GT) (s : Shared) : Prop :=
  ∃ m, s.heap.Ns L m ∧ match t with
    | .start => s.heap.objs.size = I ∧ m "grouping" = some (.ref lb)
    | .row j last => (∃ u, m "interval" = some (.int last u)) ∧ s.heap.IsListIter I lb j
    | .rep v => (∃ u, m "last_interval" = some (.int v u)) ∧ ∃ o, s.heap.get? I = some o
noncomputable def GHeap (L lb I : Addr) (ns : List Int) (t : GT) (s : Shared) : Prop := NumsAt s.heap lb ns ∧ GH L lb I t s
noncomputable def GStep (L I : Addr) (s₀ s : Shared) : Prop := ∃ h' tk, s = { s₀ with heap := h', toks := tk } ∧ ∀ b o, b ≠ L → b ≠ I → s₀.heap.get? b = some o → h'.get? b = some o
theorem GStep.refl (L I : Addr) (s : Shared) : GStep L I s s := ⟨s.heap, s.toks, rfl, fun _ _ _ _ e => e⟩
theorem GStep.step {L I : Addr} {s₀ s : Shared} (x : GStep L I s₀ s) {h' : Heap} {tk : Nat} (hk : ∀ b o, b ≠ L → b ≠ I → s.heap.get? b = some o → h'.get? b = some o) : GStep L I s₀ { s with heap := h', toks := tk } := by
  obtain ⟨h, t, rfl, k⟩ := x
  exact ⟨h', tk, rfl, fun b o h1 h2 e => hk b o h1 h2 (k b o h1 h2 e)⟩
/-- what a stop for a value keeps -/
noncomputable def gY (L lb I : Addr) (ns : List Int) (mg : Str → Option Value) (N : Nat) : Protocol := fun m s₀ v s₁ kap => m ≠ 0 →
  ∃ k, gnI ns (gst ns (N - 1 - m)) = some (k, gst ns (N - m)) ∧ (∃ u, v = .int k u) ∧ GHeap L lb I ns (gst ns (N - m)) s₁ ∧ GStep L I s₀ s₁ ∧
    ∀ s'' : Shared, GHeap L lb I ns (gst ns (N - m)) s'' → s''.heap.Ns mainGlobals mg → kap (.send .none) s''
noncomputable def gP (L I : Addr) (ns : List Int) (N : Nat) (n : Nat) (s₀ s₁ : Shared) : Prop := gnI ns (gst ns (N - n)) = none ∧ GStep L I s₀ s₁
abbrev gR (L I : Addr) (ns : List Int) (N : Nat) : GenEnd := fun n s₀ r s₁ => r = .ok (.ret .none) ∧ gP L I ns N n s₀ s₁
noncomputable def genv (nm : Str) (L a : Addr) (cd : Value) : Env := newEnv gScope L mainGlobals [] (nm ++ ".<locals>.") (some a) cd none builtinsNs
section
variable {prog : Program} {w : World} {A : Around} {E : Value → Shared → Prop} {nm : Str} {L a lb I : Addr} {cd : Value} {ns : List Int} {mg : Str → Option Value} {N : Nat} {s : Shared}
theorem NumsAt.keep {h h' : Heap} (x : NumsAt h lb ns) (k : ∀ o, h.get? lb = some o → h'.get? lb = some o) : NumsAt h' lb ns := by
  obtain ⟨vs, ⟨o, ho, r⟩, q⟩ := x
  exact ⟨vs, ⟨o, k o ho, r⟩, q⟩
theorem NumsAt.ne {h : Heap} {m : Str → Option Value} (x : NumsAt h lb ns) (hn : h.Ns L m) : lb ≠ L := by
  rintro rfl
  obtain ⟨vs, ⟨o, ho, _, n, hd⟩, _⟩ := x
  obtain ⟨o', es, ep, ho', hd', _⟩ := hn
  rw [ho] at ho'
  cases ho'
  rw [hd] at hd'
  cases hd'
theorem NumsAt.neI {h : Heap} {j : Nat} (x : NumsAt h lb ns) (hi : h.IsListIter I lb j) : lb ≠ I := by
  rintro rfl
  obtain ⟨vs, ⟨o, ho, _, n, hd⟩, _⟩ := x
  obtain ⟨o', ho', _, hd'⟩ := hi
  rw [ho] at ho'
  cases ho'
  rw [hd] at hd'
  cases hd'
theorem ns_neI {h : Heap} {b : Addr} {m : Str → Option Value} {j : Nat} (hn : h.Ns b m) (hi : h.IsListIter I lb j) : b ≠ I := by
  rintro rfl
  obtain ⟨o, es, ep, ho, hd, _⟩ := hn
  obtain ⟨o', ho', _, hd'⟩ := hi
  rw [ho] at ho'
  cases ho'
  rw [hd] at hd'
  cases hd'
theorem g_name {x : Str} {p : Pos} {m : Str → Option Value} {v : Value} {Q : Value → Shared → Prop} (hx : gScope.names.lookup x = some .local) (hd : (x == ("__debug__" : Str)) = false) (hn : s.heap.Ns L m) (hv : m x = some v) (h : Q v s) :
    wpAny (model prog w) A (eval (.Name x p) (genv nm L a cd)) Q E s :=
  wpAny_Name (wpAny_loadName_local rfl hx hn hv h) hd
theorem g_store {x : Str} {m : Str → Option Value} {v : Value} {Q : Unit → Shared → Prop} (hx : gScope.names.lookup x = some .local) (hn : s.heap.Ns L m)
    (h : ∀ h', h'.Ns L (fun y => if y = x then some v else m y) → Heap.SameBut L s.heap h' → Q () { s with heap := h', toks := s.toks + 1 }) :
    wpAny (model prog w) A (storeName (genv nm L a cd) x v) Q E s := wpAny_storeName_local hx hn h rfl
/-- the endless loop -/
theorem seg_rep (hfsN : ∀ n, n ≤ N → True) : ∀ (n : Nat), n ≤ N → ∀ {s₀ s : Shared} {m : Str → Option Value} {v : Int} {u : Tok} {fs : List Frame}, splitAtGen fs = none → fs.any Frame.guarded = false → s.heap.Ns L m → m "last_interval" = some (.int v u) → NumsAt s.heap lb ns → (∃ o, s.heap.get? I = some o) → GStep L I s₀ s →
    gnI ns (gst ns (N - n)) = some (v, .rep v) →
    Seg (model prog w) A (gR L I ns N) (gY L lb I ns mg N) n s₀ (.whileLoop gTrue [gYieldL] [] (genv nm L a cd)) ((model prog w).den (.whileLoop gTrue [gYieldL] [] (genv nm L a cd))) fs s := by
  intro n
  induction n with
  | zero =>
    intro hN s₀ s m v u fs hf1 hf2 hn hv hl hI hst hg
    refine seg_whileLoop (wpAny_isTrue_value (wpAny_Constant_bool (wpAny_truthy_bool ?_)) rfl)
    rw [if_pos rfl]
    refine seg_execs_cons ?_
    unfold gYieldL
    refine seg_Yield hf1 rfl hf2 ?_
    exact g_name rfl (by decide) hn hv fun kap _ hm => absurd rfl hm
  | succ n ih =>
    intro hN s₀ s m v u fs hf1 hf2 hn hv hl hI hst hg
    refine seg_whileLoop (wpAny_isTrue_value (wpAny_Constant_bool (wpAny_truthy_bool ?_)) rfl)
    rw [if_pos rfl]
    refine seg_execs_cons ?_
    unfold gYieldL
    refine seg_Yield hf1 rfl hf2 ?_
    refine g_name rfl (by decide) hn hv fun kap hk hm => ?_
    have e1 : N - 1 - (n + 1 - 1) = N - (n + 1) := by omega
    have e2 : N - (n + 1 - 1) = N - (n + 1) + 1 := by omega
    have e3 : gst ns (N - (n + 1 - 1)) = .rep v := by rw [e2]; exact gst_next hg
    rw [e1, e3]
    refine ⟨v, hg, ⟨u, rfl⟩, ⟨hl, m, hn, ⟨u, hv⟩, hI⟩, hst, fun s'' hgh hmg => hk n rfl .none s'' ?_⟩
    obtain ⟨hl'', m'', hn'', ⟨u'', hv''⟩, hI''⟩ := hgh
    refine seg_execs_nil (seg_again rfl ?_)
    exact ih (by omega) hf1 hf2 hn'' hv'' hl'' hI'' (GStep.refl ..) (by rw [show N - n = N - (n + 1 - 1) by omega, e3]; rfl)
end
end Mine

namespace Mine
noncomputable def LastV (last : Option Int) (v : Value) : Prop := match last with
  | none => v = .none
  | some k => ∃ u, v = .int k u
section
variable {prog : Program} {w : World} {A : Around} {E : Value → Shared → Prop} {nm : Str} {L a lb I : Addr} {cd : Value} {ns : List Int} {mg : Str → Option Value} {N : Nat}
theorem iter_keep {h h' : Heap} {j : Nat} (x : h.IsListIter I lb j) (k : ∀ o, h.get? I = some o → h'.get? I = some o) : h'.IsListIter I lb j := let ⟨o, ho, r⟩ := x; ⟨o, k o ho, r⟩
theorem seg_row {fs : List Frame} (hf1 : splitAtGen fs = none) (hf2 : fs.any Frame.guarded = false) (hh : (A.over (.forLoop gTarget (.ref I) gSuite [] (genv nm L a cd)) fs).handled = none) (hLg : mainGlobals ≠ L) (hcm : ∃ t, mg "CHAR_MAX" = some (.int 127 t))
    (hend : ∀ n, n ≤ N → ∀ s₀ s', gP L I ns N n s₀ s' → Seg (model prog w) A (gR L I ns N) (gY L lb I ns mg N) n s₀ (.block [] (genv nm L a cd)) (leafOf (.ok .next)) fs s' ∧
      Seg (model prog w) A (gR L I ns N) (gY L lb I ns mg N) n s₀ (.forLoop gTarget (.ref I) gSuite [] (genv nm L a cd)) (.pure (.done (.ret .none))) fs s') :
    ∀ (n : Nat), n ≤ N → ∀ {s₀ s : Shared} {m : Str → Option Value} {j : Nat} {last : Option Int} {lv : Value}, s.heap.Ns L m → m "last_interval" = some lv → LastV last lv → s.heap.IsListIter I lb j → NumsAt s.heap lb ns → s.heap.Ns mainGlobals mg → GStep L I s₀ s →
      gnI ns (gst ns (N - n)) = gTurn ns j last → (last = none → ns[j]? ≠ some 0) →
      Seg (model prog w) A (gR L I ns N) (gY L lb I ns mg N) n s₀ (.forLoop gTarget (.ref I) gSuite [] (genv nm L a cd)) ((model prog w).den (.forLoop gTarget (.ref I) gSuite [] (genv nm L a cd))) fs s := by
  intro n
  induction n using Nat.strongRecOn with
  | ind n ih =>
    intro hN s₀ s m j last lv hn hlv hLV hi hl hmg hst hg hno
    have hIL : L ≠ I := ns_neI hn hi
    have hIg : mainGlobals ≠ I := ns_neI hmg hi
    have hlL := hl.ne hn
    have hlI := hl.neI hi
    obtain ⟨t127, hcm⟩ := hcm
    obtain ⟨vs, hls, hsz, hvs⟩ := id hl
    unfold gTarget
    refine seg_forLoop ?_
    cases hj : ns[j]? with
    | none =>
      have hvj : vs[j]? = none := by
        have := List.getElem?_eq_none_iff.mp hj
        rw [Array.getElem?_eq_none_iff]; omega
      refine wpAny_pyNext_list_end hh hi hls hvj fun h' he => ?_
      refine seg_again rfl (seg_block_nil ?_)
      exact (hend n hN s₀ _ ⟨by rw [hg]; simp [gTurn, hj], hst.step fun b o _ h2 e => he b o h2 e⟩).1
    | some k =>
      obtain ⟨u, hu⟩ := hvs j k hj
      refine wpAny_pyNext_list_item hi hls hu fun h1 hi1 hs1 => ?_
      have hn1 : h1.Ns L m := hn.sameBut hs1 hIL
      refine wpAny_assign_Name (g_store rfl hn1 fun h2 hn2 hs2 => ?_)
      have k2 : ∀ b o, b ≠ L → b ≠ I → s.heap.get? b = some o → h2.get? b = some o := fun b o hb hb' e => (hs2.2 b hb).trans ((hs1.2 b hb').trans e)
      have hi2 : h2.IsListIter I lb (j + 1) := iter_keep hi1 fun o e => (hs2.2 I (Ne.symm hIL)).trans e
      have hl2 : NumsAt h2 lb ns := hl.keep fun o e => k2 lb o hlL hlI e
      have hmg2 : h2.Ns mainGlobals mg := (hmg.sameBut hs1 hIg).sameBut hs2 hLg
      have hst2 : GStep L I s₀ { s with heap := h2, toks := s.toks + 1 } := hst.step k2
      have hint : (fun y => if y = ("interval" : Str) then some (Value.int k u) else m y) "interval" = some (.int k u) := by simp
      have hlast : (fun y => if y = ("interval" : Str) then some (Value.int k u) else m y) "last_interval" = some lv := by
        show (if ("last_interval" : Str) = ("interval" : Str) then _ else _) = _
        rw [if_neg (by decide)]; exact hlv
      generalize (fun y => if y = ("interval" : Str) then some (Value.int k u) else m y) = m2 at hn2 hint hlast
      have hg1 : gTurn ns j last = if k = 127 then none else if k = 0 then (match last with | some v => some (v, .rep v) | none => none) else some (k, .row (j + 1) k) := by
        unfold gTurn; rw [hj]; try (cases last <;> rfl)
      unfold gSuite
      refine seg_execs_cons (seg_wrap ?_)
      unfold gIf1
      refine wpAny_If (wpAny_isTrue_Compare1 (g_name rfl (by decide) hn2 hint (Name_function_global rfl rfl (loadGlobal_global (mg := mg) hmg2 hcm (eq_int (wpAny_truthy_bool ?_)) ) (by decide))))
      by_cases h127 : k = 127
      · rw [if_pos (by simp [h127])]
        refine wpAny_execs_cons (wpAny_Return_none ?_)
        exact (hend n hN s₀ _ ⟨by rw [hg, hg1, if_pos h127], hst2⟩).2
      · rw [if_neg (by simp [h127])]
        refine wpAny_execs_nil ?_
        rw [if_neg h127] at hg1
        show Seg _ _ _ _ _ _ _ ((execs [gIf2, gYieldI, gLast] (genv nm L a cd)).wrap _ _ _ _) _ _
        refine seg_execs_cons ?_
        unfold gIf2
        refine seg_If ?_
        unfold gTest2
        refine wpAny_isTrue_Compare1 (g_name rfl (by decide) hn2 hint (wpAny_Constant_int (eq_int (wpAny_truthy_bool ?_))))
        have hst3 : GStep L I s₀ { s with heap := h2, toks := s.toks + 1 + 1 } := hst.step k2
        by_cases h0 : k = 0
        · rw [if_pos (by simp [h0])]
          rw [if_pos h0] at hg1
          cases last with
          | none => exact absurd (by rw [hj, h0]) (hno rfl)
          | some v =>
            obtain ⟨uv, rfl⟩ := hLV
            refine seg_execs_cons (seg_wrap ?_)
            unfold gRaise
            refine wpAny_If (wpAny_isTrue_Compare1 (g_name rfl (by decide) hn2 hlast (Constant_none (wpAny_is_other rfl (by intro q; cases q) (wpAny_truthy_bool ?_)))))
            rw [if_neg (by decide)]
            refine wpAny_execs_nil ?_
            show Seg _ _ _ _ _ _ _ ((execs [gWhile] (genv nm L a cd)).wrap _ _ _ _) _ _
            refine seg_execs_cons ?_
            unfold gWhile
            refine seg_While fun p => ?_
            exact seg_rep (fun _ _ => trivial) n hN (by simp [splitAtGen, hf1]) (by rw [List.any_cons, hf2]; rfl) hn2 hlast hl2 (let ⟨o, ho, _⟩ := hi2; ⟨o, ho⟩) hst3 (by rw [hg, hg1])
        · rw [if_neg (by simp [h0])]
          rw [if_neg h0] at hg1
          refine seg_execs_nil ?_
          show Seg _ _ _ _ _ _ _ ((execs [gYieldI, gLast] (genv nm L a cd)).wrap _ _ _ _) _ _
          refine seg_execs_cons ?_
          unfold gYieldI
          refine seg_Yield hf1 rfl hf2 ?_
          refine g_name rfl (by decide) hn2 hint fun kap hk hm => ?_
          cases n with
          | zero => exact absurd rfl hm
          | succ n =>
            have hgn : gnI ns (gst ns (N - (n + 1))) = some (k, .row (j + 1) k) := by rw [hg, hg1]
            have e1 : N - 1 - (n + 1 - 1) = N - (n + 1) := by omega
            have e2 : N - (n + 1 - 1) = N - (n + 1) + 1 := by omega
            have e3 : gst ns (N - (n + 1 - 1)) = .row (j + 1) k := by rw [e2]; exact gst_next hgn
            rw [e1, e3]
            refine ⟨k, hgn, ⟨u, rfl⟩, ⟨hl2, m2, hn2, ⟨u, hint⟩, hi2⟩, hst3, fun s'' hgh hmg'' => hk n rfl .none s'' ?_⟩
            obtain ⟨hl'', m'', hn'', ⟨u'', hint''⟩, hi''⟩ := hgh
            show Seg _ _ _ _ _ _ _ ((execs [gLast] (genv nm L a cd)).wrap _ _ _ _) _ _
            refine seg_execs_cons (seg_wrap ?_)
            unfold gLast
            refine wpAny_Assign_Name (g_name rfl (by decide) hn'' hint'' (g_store rfl hn'' fun h3 hn3 hs3 => ?_))
            show Seg _ _ _ _ _ _ _ ((execs [] (genv nm L a cd)).wrap _ _ _ _) _ _
            refine seg_execs_nil (seg_again rfl ?_)
            have hIL'' : L ≠ I := ns_neI hn'' hi''
            refine ih n (Nat.lt_succ_self n) (by omega) (lv := .int k u'') (last := some k) hn3 (by simp) ⟨u'', rfl⟩ (iter_keep hi'' fun o e => (hs3.2 I (Ne.symm hIL'')).trans e)
              (hl''.keep fun o e => (hs3.2 lb (hl''.ne hn'')).trans e) (hmg''.sameBut hs3 hLg) ((GStep.refl L I s'').step fun b o h1 h2 e => (hs3.2 b h1).trans e) ?_ (fun q => by cases q)
            rw [show N - n = N - (n + 1 - 1) by omega, e3]
            rfl
end
end Mine

namespace Mine
section
variable {prog : Program} {w : World} {A : Around} {E : Value → Shared → Prop} {nm : Str} {L a lb I : Addr} {cd : Value} {ns : List Int} {mg : Str → Option Value} {N : Nat} {s : Shared}
theorem seg_start (hh : A.handled = none) (hLg : mainGlobals ≠ L) (hcm : ∃ t, mg "CHAR_MAX" = some (.int 127 t)) (hgh : GHeap L lb I ns .start s) (hmg : s.heap.Ns mainGlobals mg) (h0 : ns[0]? ≠ some 0) :
    Seg (model prog w) A (gR L I ns N) (gY L lb I ns mg N) N s (.func gBody (genv nm L a cd)) ((model prog w).den (.func gBody (genv nm L a cd))) [] s := by
  obtain ⟨hl, m, hn, hI, hgr⟩ := hgh
  refine seg_func ?_
  unfold gBody
  refine seg_execs_cons (seg_wrap ?_)
  unfold gFirst
  refine wpAny_Assign_Name (Constant_none (g_store rfl hn fun h1 hn1 hs1 => ?_))
  show Seg _ _ _ _ _ _ _ ((execs [gFor] (genv nm L a cd)).wrap _ _ _ _) _ _
  refine seg_execs_cons ?_
  unfold gFor
  have hl1 : NumsAt h1 lb ns := hl.keep fun o e => (hs1.2 lb (hl.ne hn)).trans e
  obtain ⟨vs, hls, hr⟩ := id hl1
  have hgr1 : (fun y => if y = ("last_interval" : Str) then some Value.none else m y) "grouping" = some (.ref lb) := by
    show (if ("grouping" : Str) = ("last_interval" : Str) then _ else _) = _
    rw [if_neg (by decide)]; exact hgr
  refine seg_For (fun _ => rfl) (g_name rfl (by decide) hn1 hgr1 (wpAny_pyIter_list hls fun p => ?_))
  have hsz : h1.objs.size = I := by rw [hs1.1, hI]
  have hk : ∀ b o, h1.get? b = some o → (h1.push { cls := .type "list_iterator", data := .fields #[.ref lb, .int 0 0] }).get? b = some o := fun b o e => Heap.get?_push_of_some _ e
  show Seg _ _ _ _ _ _ (.forLoop gTarget (.ref h1.objs.size) gSuite [] (genv nm L a cd)) ((model prog w).den (.forLoop gTarget (.ref h1.objs.size) gSuite [] (genv nm L a cd))) _ _
  have hi : (h1.push { cls := .type "list_iterator", data := .fields #[.ref lb, .int 0 0] }).IsListIter h1.objs.size lb 0 := ⟨_, Heap.get?_push_size _ rfl, rfl, rfl⟩
  rw [hsz] at hi ⊢
  refine seg_row (A := A) rfl rfl (by exact hh) hLg hcm (fun n hnN s₀ s' hp => ⟨?_, ?_⟩) N (Nat.le_refl N) (last := none) (lv := .none) (hn1.keeps hk) (by simp) rfl hi (hl1.keep fun o e => hk lb o e) ((hmg.sameBut hs1 hLg).keeps hk)
    ((GStep.refl L I s).step fun b o h1' h2 e => hk b o ((hs1.2 b h1').trans e)) (by rw [Nat.sub_self]; rfl) (fun _ => h0)
  · refine seg_leaf (.ok .next) ?_
    exact seg_end (.ok (.ret .none)) ⟨rfl, hp⟩
  · show Seg _ _ _ _ _ _ _ (leafOf (.ok (.ret .none))) _ _
    refine seg_leaf (.ok (.ret .none)) ?_
    exact seg_end (.ok (.ret .none)) ⟨rfl, hp⟩
end
theorem notStop : isSubtype (.type "ValueError") (.type "StopIteration") = pure false := by rw [isSubtype_type]; kernel_rfl
section
variable {prog : Program} {w : World} {A : Around} {E : Value → Shared → Prop} {s : Shared}
theorem gen_next {a : Addr} {g n : Nat} {gs : GenState} {R : GenEnd} {Y : Protocol} {Q : Option Value → Shared → Prop} (hh : A.handled = none) (hl : s.heap.NoLimit) (hroom : A.depth < recursionLimit)
    (hg : s.heap.IsGen a g) (hgs : s.gens[g]? = some gs) (hgo : gs.Goes (model prog w) A.in1 R Y n (.send .none) (s.setGen g .running))
    (hY : ∀ v s₁ gs', gs'.bare = true → Y (n - 1) (s.setGen g .running) v s₁ (fun r' s'' => match n with
        | 0 => False
        | m + 1 => gs'.Goes (model prog w) A.in1 R Y m r' s'') → Q (some v) (s₁.setGen g gs'))
    (hR : ∀ r s₁, R n (s.setGen g .running) r s₁ → (r = .ok (.ret .none) ∧ ∀ h', (∀ b o, s₁.heap.get? b = some o → h'.get? b = some o) → Q none { s₁.setGen g .finished with heap := h' }) ∨
      (∃ e, r = .error (.ref e) ∧ s₁.TypeIs (.ref e) "ValueError" ∧ s₁.heap.IsGen a g ∧ E (.ref e) (s₁.setGen g .finished))) :
    wpAny (model prog w) A (pyNext (.ref a)) Q E s := by
  unfold pyNext
  refine wpAny_bind (wpAny_attempt (wpAny_callSpecial?_slot (name := Str.ofString "__next__") hg.typeIs slot_gen_next
    (wpAny_call_entry slot_gen_next hg.typeIs entry_gen_next ?_ (args_gen_next _))))
  show wpAny _ A.in1 (Builtin.Generator.genWake (.ref a) (.send .none)) _ _ s
  unfold Builtin.Generator.genWake
  refine wpAny_bind (wpAny_holding (wpAny_genNumber hg (wpAny_bind (wpAny_genState hgs ?_))))
  cases gs with
  | running => exact hgo.elim
  | finished => exact hgo.elim
  | _ =>
    refine wpAny_bind (wpAny_roomToWake hl hroom ?_)
    show wpAny _ A.in1 (.resume g (.send .none) [] _) _ _ s
    refine wpAny_resumeQ hgs hgo (fun x s₁ hx => ?_) (fun v s₁ gs' hb hv => ?_)
    · rcases hR x s₁ hx with ⟨rfl, hp⟩ | ⟨e, rfl, hT, hG, hE⟩
      · show wpAny _ A.in1 (newExc (.type "StopIteration") [] >>= _) _ _ _
        refine wpAny_bind ?_
        simp only [newExc, newTuple]
        refine wpAny_bind (wpAny_newObj_type ?_ (by size_fits))
        refine wpAny_bind (m := firstArgMember _ _) (wpAny_of_eq (a := Value.none) (by first | rfl | (simp only [firstArgMember]; rfl)) ?_)
        refine wpAny_newObj_type ?_ (by size_fits)
        simp only [raiseNew]
        refine wpAny_bind (wpAny_bind (wpAny_handled ?_))
        first | rw [show A.in1.handled = none from hh] | rw [hh]
        refine wpAny_throw ?_
        refine wpAny_bind (wpAny_isInstance (T := "StopIteration") (b := true) ⟨_, Heap.get?_push_size _ rfl, rfl⟩ isSubtype_stop ?_)
        exact wpAny_pure (hp _ fun b o hb => Heap.get?_push_of_some _ (Heap.get?_push_of_some _ hb))
      · show wpAny _ A.in1 (Builtin.Generator.genLeft (.ref a) (.ref e)) _ _ _
        unfold Builtin.Generator.genLeft
        obtain ⟨o, n1, n2, ho, hc, hd, hsl⟩ := hG
        refine wpAny_bind ?_
        unfold Builtin.Generator.madeByALambda
        refine wpAny_bind (wpAny_load ho (wpAny_pure ?_))
        rw [hd]
        refine wpAny_bind (wpAny_isInstance (T := "ValueError") (b := false) hT notStop ?_)
        rw [Bool.and_false]
        rw [if_neg Bool.false_ne_true]
        unfold Builtin.Generator.genEscaped
        refine wpAny_bind (wpAny_isInstance (T := "ValueError") (b := false) hT notStop ?_)
        simp only [Bool.not_false, if_true]
        refine wpAny_bind (wpAny_throw ?_)
        refine wpAny_bind (wpAny_isInstance (T := "ValueError") (b := false) hT notStop ?_)
        exact wpAny_throw hE
    · exact wpAny_pure ⟨v, rfl, wpAny_pure (hY v s₁ gs' hb hv)⟩
end
end Mine

namespace Mine
section
variable {C : WC} {M : Mod} {env : Env} {en : AEnv} {S S' S₀ : List Addr} {s s' s₀ : Shared} {σ σ' : St} {A : Around}
/-- only own objects change, and one generator -/
theorem Rel.adv2 (R : Rel C σ S s) (G : Grow C S₀ s₀ S s) {P : Addr → Prop} (W : ∀ b, P b → Own C S s₀ s b) {s' : Shared} (hos : s'.os = s.os) (hb : AllBare s'.gens)
    (hg : ∀ (g : Nat) x, s₀.gens[g]? = some x → s.gens[g]? = some x → s'.gens[g]? = some x) (hs : ∀ b o, ¬ P b → s.heap.get? b = some o → s'.heap.get? b = some o) :
    Rel C σ S s' ∧ Grow C S₀ s₀ S s' := by
  have hso : ∀ b o, b ∈ S → s.heap.get? b = some o → s'.heap.get? b = some o := fun b o hm e => hs b o (fun p => (W b p).ns hm) e
  refine ⟨⟨fun b o e q => hs b o (fun p => ?_) (R.keep b o e q), fun b o e => ?_, R.nodup, fun b hb => ?_, R.len, fun i ao e => ?_, hb, by rw [hos]; exact R.os, R.ta⟩, ⟨G.pre, fun b o hb e ht => ?_, fun b o e => ?_, fun b o e d => ?_, fun g x e => hg g x e (G.gens g x e), fun b o hb ht e => let ⟨sl, e1⟩ := G.slot b o hb ht e; ⟨sl, hs b _ (fun p => by rw [(W b p).n0] at e; cases e) e1⟩⟩⟩
  · rw [(W b p).nh] at e; cases e
  · obtain ⟨o', e'⟩ := R.dom b o e
    exact ⟨o', hs b o' (fun p => by rw [(W b p).nh] at e; cases e) e'⟩
  · obtain ⟨x, o, e⟩ := R.off b hb
    exact ⟨x, o, hso b o hb e⟩
  · obtain ⟨b, hb, H⟩ := R.objs i ao e
    exact ⟨b, hb, H.heap fun x q => hso b x (List.mem_of_getElem? hb) q⟩
  · exact hs b o (fun p => by rw [(W b p).n0] at e; cases e) (G.out b o hb e ht)
  · obtain ⟨o', e'⟩ := G.dom b o e
    exact ⟨o', hs b o' (fun p => by rw [(W b p).n0] at e; cases e) e'⟩
  · obtain ⟨o', e', d'⟩ := G.dict b o e d
    exact ⟨o', hs b o' (fun p => by rw [(W b p).n0] at e; cases e) e', d'⟩
/-- frames change in their slots, new objects and generators come -/
theorem Rel.move (R : Rel C σ S s) {s' : Shared} (hos : s'.os = s.os) (hb : AllBare s'.gens) (hg : ∀ (g : Nat) x, s.gens[g]? = some x → s'.gens[g]? = some x)
    (hs : ∀ b o, s.heap.get? b = some o → s'.heap.get? b = some o ∨ (IsD o ∧ (b ∈ S ∨ b ∈ C.tabs) ∧ ∃ sl, s'.heap.get? b = some { o with slots := sl })) :
    Rel C σ S s' ∧ Grow C S s S s' := by
  have dom : ∀ b o, s.heap.get? b = some o → ∃ o', s'.heap.get? b = some o' := fun b o e => by
    rcases hs b o e with h | ⟨_, _, sl, h⟩
    · exact ⟨_, h⟩
    · exact ⟨_, h⟩
  refine ⟨⟨fun b o e q => ?_, fun b o e => let ⟨o', e'⟩ := R.dom b o e; dom b o' e', R.nodup, fun b hb => let ⟨x, o, e⟩ := R.off b hb; ⟨x, dom b o e⟩, R.len, fun i ao e => ?_, hb, by rw [hos]; exact R.os, R.ta⟩,
    ⟨⟨[], by simp, fun _ h => by cases h⟩, fun b o hb e ht => ?_, dom, fun b o e d => ?_, hg, fun b o _ _ e => (hs b o e).elim (fun h => ⟨o.slots, h⟩) fun h => h.2.2⟩⟩
  · have e' := R.keep b o e q
    rcases hs b o e' with h | ⟨_, h | h, _⟩
    · exact h
    · rw [(R.off b h).1] at e; cases e
    · exact absurd h q
  · obtain ⟨b, hb, H⟩ := R.objs i ao e
    refine ⟨b, hb, ?_⟩
    obtain ⟨o, ho⟩ := H.some
    rcases hs b o ho with h | ⟨d, _, sl, h⟩
    · exact H.heap fun x q => by rw [ho] at q; cases q; exact h
    · cases hl : ao.live with
      | false => cases ao <;> first | (cases hl; done) | exact ⟨_, h⟩
      | true =>
        have hk := RO.kd_of H hl ho d
        cases ao <;> first | (cases hk; done) | skip
        obtain ⟨hc, m, ⟨o', es, ep, ho', hd, hr⟩, q⟩ := H
        rw [ho] at ho'
        cases ho'
        exact ⟨hc, m, ⟨_, es, ep, h, hd, hr⟩, q⟩
  · rcases hs b o e with h | ⟨_, h | h, _⟩
    · exact h
    · exact absurd h hb
    · exact absurd h ht
  · rcases hs b o e with h | ⟨_, _, sl, h⟩
    · exact ⟨o, h, d⟩
    · obtain ⟨es, n, q⟩ := d
      exact ⟨_, h, es, n, q⟩
theorem gens_set {s : Shared} {g : Nat} {x y : GenState} (h : s.gens[g]? = some x) : (s.setGen g y).gens[g]? = some y := setGen_self h
theorem gens_other {s : Shared} {g g' : Nat} {y : GenState} (h : g' ≠ g) : (s.setGen g y).gens[g']? = s.gens[g']? := (GenOnly.setGen s g y).2 g' h
theorem bare_set {s : Shared} {g : Nat} {y : GenState} (h : AllBare s.gens) (hy : y.bare = true) : AllBare (s.setGen g y).gens := by
  intro x hx
  obtain ⟨i, hi⟩ := Array.getElem?_of_mem hx
  by_cases e : i = g
  · subst e
    cases q : s.gens[i]? with
    | none =>
      have hsz : (s.setGen i y).gens.size = s.gens.size := (GenOnly.setGen s i y).1
      have h1 := (Array.getElem?_eq_some_iff.mp hi).1
      have h2 := Array.getElem?_eq_none_iff.mp q
      omega
    | some z =>
      rw [gens_set q] at hi
      cases hi
      exact hy
  · rw [gens_other e] at hi
    exact h x (Array.mem_of_getElem? hi)
end
end Mine

namespace Mine
section
variable {C : WC} {M : Mod} {env : Env} {en : AEnv} {S S' S₀ : List Addr} {s s' s₀ : Shared} {σ σ' : St} {A : Around} {E : Value → Shared → Prop}
theorem ints_at : ∀ {vs : List Value} {ns : List Int}, IntsAre vs ns → vs.length = ns.length ∧ ∀ (j : Nat) k, ns[j]? = some k → ∃ u, vs[j]? = some (.int k u) := by
  intro vs ns h
  induction h with
  | nil => exact ⟨rfl, fun j k e => by simp at e⟩
  | cons n0 t0 h1 ih =>
    obtain ⟨i1, i2⟩ := ih
    refine ⟨by simp [i1], fun j k e => ?_⟩
    cases j with
    | zero => cases e; exact ⟨_, rfl⟩
    | succ j => simpa using i2 j k (by simpa using e)
theorem nums_of (R : Rel C σ S s) {l : Nat} {lb : Addr} {xs : List AV} {ns : List Int} (hx : listAt σ l = some xs) (hc : consts xs = some ns) (hl : S[l]? = some lb) : NumsAt s.heap lb ns := by
  obtain ⟨a, vs, n, e, ha, hL, hv⟩ := listAt_sound R hx ⟨lb, hl, rfl⟩
  cases e
  obtain ⟨h1, h2⟩ := ints_at (consts_sound hc hv)
  exact ⟨vs.toArray, ⟨_, hL, rfl, n, rfl⟩, by simpa using h1, fun j k e => by simpa using h2 j k e⟩
theorem listIs_at {l : Nat} {ns : List Int} (h : listIs σ l ns = true) : ∃ xs, listAt σ l = some xs ∧ consts xs = some ns := by
  unfold listIs at h
  split at h
  · rename_i xs hx
    split at h
    · rename_i ms hm
      rw [eqIs_iff, decide_eq_true_iff] at h
      exact ⟨xs, hx, by rw [hm, h]⟩
    · cases h
  · cases h
theorem gnI_start {ns : List Int} {t : GT} {k : Int} {t' : GT} (h : gnI ns t = some (k, t')) : t' ≠ .start := by
  have tn : ∀ {j last}, gTurn ns j last = some (k, t') → t' ≠ .start := by
    intro j last h
    unfold gTurn at h
    split at h
    · cases h
    · split at h
      · cases h
      · split at h
        · split at h
          · cases h; exact fun q => by cases q
          · cases h
        · cases h; exact fun q => by cases q
  cases t with
  | start => exact tn (show gTurn ns 0 none = _ from h)
  | row j last => exact tn (show gTurn ns j (some last) = _ from h)
  | rep v => cases h; exact fun q => by cases q
theorem GH.grow {L lb I : Addr} {t : GT} (h : GH L lb I t s) (ht : t ≠ .start) (WL : Own C S s₀ s L) (WI : Own C S s₀ s I) (G : Grow C S s S' s') : GH L lb I t s' := by
  obtain ⟨m, ⟨o, es, ep, ho, r⟩, hr⟩ := h
  refine ⟨m, ⟨o, es, ep, (WL.grow G ho).2, r⟩, ?_⟩
  cases t with
  | start => exact absurd rfl ht
  | row j last =>
    obtain ⟨h1, o', ho', r'⟩ := hr
    exact ⟨h1, o', (WI.grow G ho').2, r'⟩
  | rep v =>
    obtain ⟨h1, o', ho'⟩ := hr
    exact ⟨h1, o', (WI.grow G ho').2⟩
theorem GH.iter {L lb I : Addr} {t : GT} (h : GH L lb I t s) (ht : t ≠ .start) : ∃ o, s.heap.get? I = some o := by
  obtain ⟨m, _, hr⟩ := h
  cases t with
  | start => exact absurd rfl ht
  | row j last => obtain ⟨_, o, ho, _⟩ := hr; exact ⟨o, ho⟩
  | rep v => exact hr.2
/-- the loop over the generator that yields -/
theorem glp_sound (O : MOk C M) {r : Ev} (Ir : SS C M r) {i l : Nat} {ns : List Int} {b : Y} {out : Out} {q : Pos} {nm : Str} {L lb Ia ag fa : Addr} {cd : Value} {g : Nat} (h : gLoop r en i l ns b 40 .start σ = some (out, σ'))
    (hi : isL M en.f i = true) (hb : chkY M en.f b = true) (hcm : ∃ t, C.mg "CHAR_MAX" = some (.int 127 t)) {Rz : Result → Shared → Prop} (H : EnvOk C M env en S₀ A s₀) (a : AOk A en.d) (hd : en.d < 41) (R : Rel C σ S s) (G : Grow C S₀ s₀ S s)
    (hl : S[l]? = some lb) (Wg : Own C S s₀ s ag) (WL : Own C S s₀ s L) (WI : Own C S s₀ s Ia) (hgen : s.heap.IsGen ag g) (hgL : ag ≠ L) (hgI : ag ≠ Ia) (hgs : s.gens[g]? = some (.fresh (.func gBody (genv nm L fa cd)))) (hg0 : s₀.gens[g]? = none)
    (hLg : mainGlobals ≠ L) (hst : GH L lb Ia .start s) (h0 : ns[0]? ≠ some 0) (hq : ∀ S' s' f, Rel C σ' S' s' → Grow C S₀ s₀ S' s' → ROut C S' out f → Rz (.ok f) s') :
    codeAny (model C.prog C.w) A (Code.forLoop (.Name (M.nm en.f i) q) (.ref ag) (toSs M en.f b) [] env) Rz s := by
  have ar := a.depth
  have hroom : A.depth < recursionLimit := by
    have : recursionLimit = 1000 := by decide
    omega
  refine codeAny_forLoop_any (fun n s => ∃ σ S k gs, n + k = 40 ∧ gLoop r en i l ns b n (gst ns k) σ = some (out, σ') ∧ Rel C σ S s ∧ Grow C S₀ s₀ S s ∧ S[l]? = some lb ∧ Own C S s₀ s ag ∧ Own C S s₀ s L ∧ Own C S s₀ s Ia ∧ s.heap.IsGen ag g ∧
      s.gens[g]? = some gs ∧ GH L lb Ia (gst ns k) s ∧ (∀ s'', GHeap L lb Ia ns (gst ns k) s'' → s''.heap.Ns mainGlobals C.mg → gs.Goes (model C.prog C.w) A.in1 (gR L Ia ns 60) (gY L lb Ia ns C.mg 60) (60 - k) (.send .none) s''))
    ?_ 40 ⟨σ, S, 0, _, rfl, h, R, G, hl, Wg, WL, WI, hgen, hgs, hst, fun s'' hgh hmg => ⟨rfl, seg_start a.handled hLg hcm hgh hmg h0⟩⟩
  rintro n s ⟨σ, S, k, gs, hnk, h, R, G, hl, Wg, WL, WI, hgen, hgs, hst, hgo⟩
  cases n with
  | zero => cases h
  | succ n =>
    unfold gLoop at h
    split at h
    · rename_i hlis
      obtain ⟨xs, hx, hc⟩ := listIs_at hlis
      have hnum := nums_of R hx hc hl
      obtain ⟨m, hm⟩ : ∃ m, 60 - k = m + 1 := ⟨59 - k, by omega⟩
      have hgo1 := hgo (s.setGen g .running) ⟨hnum, hst⟩ (R.ns O.g O.tg.1)
      rw [hm] at hgo1
      have e1 : 60 - 1 - m = k := by omega
      have e2 : 60 - m = k + 1 := by omega
      have e3 : 60 - (m + 1) = k := by omega
      have adv : ∀ {s₁ : Shared} {gs' : GenState}, gs'.bare = true → GStep L Ia (s.setGen g .running) s₁ → ∀ h', (∀ b o, s₁.heap.get? b = some o → h'.get? b = some o) →
          Rel C σ S { s₁.setGen g gs' with heap := h' } ∧ Grow C S₀ s₀ S { s₁.setGen g gs' with heap := h' } := by
        rintro s₁ gs' hb' ⟨h1, tk, rfl, hk⟩ h' hk'
        refine R.adv2 G (P := fun b => b = L ∨ b = Ia) (fun b hb => by rcases hb with rfl | rfl <;> assumption) rfl (bare_set (s := { (s.setGen g .running) with heap := h1, toks := tk }) (bare_set R.bare rfl) hb') (fun g' x e e' => ?_) (fun b o hb e => hk' b o (hk b o (fun q => hb (.inl q)) (fun q => hb (.inr q)) e))
        have hne : g' ≠ g := by rintro rfl; rw [hg0] at e; cases e
        show (({ (s.setGen g .running) with heap := h1, toks := tk } : Shared).setGen g gs').gens[g']? = some x
        rw [gens_other hne]
        show (s.setGen g .running).gens[g']? = some x
        rw [gens_other hne]
        exact e'
      refine gen_next a.handled (R.lim O) hroom hgen hgs hgo1 (fun v s₁ gs' hb' hy => ?_) (fun z s₁ hz => .inl ⟨hz.1, fun h' hk' => ?_⟩)
      · obtain ⟨kk, hk1, ⟨u, rfl⟩, hgh, hstep, hgo2⟩ := hy (by omega)
        rw [show 60 - 1 - (m + 1 - 1) = k by omega, show 60 - (m + 1 - 1) = k + 1 by omega] at hk1
        rw [show 60 - (m + 1 - 1) = k + 1 by omega] at hgh hgo2
        rw [hk1] at h
        dsimp only at h
        obtain ⟨R1, G1⟩ := adv hb' hstep s₁.heap (fun _ _ e => e)
        have hgs1 : (s₁.setGen g gs').gens[g]? = some gs' := by
          obtain ⟨h1, tk, rfl, _⟩ := hstep
          exact gens_set (s := { (s.setGen g .running) with heap := h1, toks := tk }) (x := .running) (gens_set hgs)
        have hgen1 : s₁.heap.IsGen ag g := by
          obtain ⟨h1, tk, rfl, hk⟩ := hstep
          obtain ⟨o, n1, n2, ho, r⟩ := hgen
          exact ⟨o, n1, n2, hk ag o hgL hgI ho, r⟩
        have hGH1 : GH L lb Ia (gst ns (k + 1)) (s₁.setGen g gs') := hgh.2
        refine (show wpAny _ A (pure ()) _ _ _ from wpAny_pure ?_)
        split at h
        · rename_i σ1 h1
          refine assign_Name (st_var O (H.grow G1) R1 hi h1 ⟨u, rfl⟩ fun s2 R2 G2 => ?_)
          have G12 := G1.trans G2
          have fin : ∀ {S3 : List Addr} {s3 : Shared}, Grow C S s2 S3 s3 → Own C S3 s₀ s3 ag ∧ Own C S3 s₀ s3 L ∧ Own C S3 s₀ s3 Ia ∧ s3.heap.IsGen ag g ∧ s3.gens[g]? = some gs' ∧ GH L lb Ia (gst ns (k + 1)) s3 := by
            intro S3 s3 G3
            have G23 := G2.trans G3
            obtain ⟨o, n1, n2, ho, rg⟩ := id hgen1
            have Wg1 : Own C S s₀ (s₁.setGen g gs') ag := ⟨Wg.ns, Wg.nt, Wg.nh, Wg.n0⟩
            have WL1 : Own C S s₀ (s₁.setGen g gs') L := ⟨WL.ns, WL.nt, WL.nh, WL.n0⟩
            have WI1 : Own C S s₀ (s₁.setGen g gs') Ia := ⟨WI.ns, WI.nt, WI.nh, WI.n0⟩
            obtain ⟨m', hn', hr'⟩ := id hGH1
            obtain ⟨oL, es, ep, hoL, _⟩ := id hn'
            refine ⟨(Wg1.grow G23 ho).1, (WL1.grow G23 hoL).1, ?_, ⟨o, n1, n2, (Wg1.grow G23 ho).2, rg⟩, G23.gens _ _ hgs1, hGH1.grow (gnI_start hk1) WL1 WI1 G23⟩
            obtain ⟨oI, hoI⟩ := hGH1.iter (gnI_start hk1)
            exact (WI1.grow G23 hoI).1
          split at h
          · rename_i σ2 h2
            refine Ir.ss h2 hb ((H.grow G12)) a R2 fun S3 s3 f R3 G3 V3 => ?_
            have hf : f = .next := V3
            subst hf
            obtain ⟨f1, f2, f3, f4, f5, f6⟩ := fin G3
            exact ⟨n, Nat.lt_succ_self _, σ2, S3, k + 1, gs', by omega, by rw [gst_next hk1]; exact h, R3, G12.trans G3, (G2.trans G3).at hl, f1, f2, f3, f4, f5, f6, fun s'' hgh'' hmg'' => by
              have := hgo2 s'' hgh'' hmg''
              rw [show 60 - (k + 1) = m by omega]
              exact this⟩
          · rename_i σ2 h2
            cases h
            refine Ir.ss h2 hb ((H.grow G12)) a R2 fun S3 s3 f R3 G3 V3 => ?_
            have hf : f = .brk := V3
            subst hf
            exact hq _ _ _ R3 (G12.trans G3) rfl
          · rename_i w σ2 h2
            cases h
            refine Ir.ss h2 hb ((H.grow G12)) a R2 fun S3 s3 f R3 G3 V3 => ?_
            obtain ⟨x, rfl, hx⟩ := V3
            exact hq _ _ _ R3 (G12.trans G3) ⟨x, rfl, hx⟩
          · cases h
        · cases h
      · obtain ⟨hz1, hz2, hstep⟩ := hz
        rw [e3] at hz2
        rw [hz2] at h
        dsimp only at h
        cases h
        obtain ⟨R1, G1⟩ := adv (gs' := .finished) rfl hstep h' hk'
        exact wpAny_execs_nil (hq _ _ _ R1 G1 rfl)
    · cases h
end
end Mine

namespace Mine
section
variable {Mo : Model} {A : Around} {E : Value → Shared → Prop} {s : Shared}
theorem made_of {h h' : Heap} {e : Addr} {cls : String} {args : List Value} (x : Heap.MadeExc h h' e cls args) : Heap.MadeExcOf h h' e (.type cls) args := by
  obtain ⟨k, n, t, h1, h2, h3⟩ := x
  exact ⟨k, n, t, h1, h2, h3⟩
/-- a frame notes an error that was just made -/
theorem note_first {base h : Heap} {env : Env} {outer : List Env} {L e : Addr} {cls : Value} {args : List Value} {Q : Unit → Shared → Prop}
    (hfr : A.frames = some (env :: outer)) (hf : env.frame = some L) (hkb : base.StaysIn h) (hl : h.FunFrames base (env :: outer)) (hx : Heap.MadeExcOf h s.heap e cls args)
    (hQ : ∀ h' t, Heap.HeldW base (env :: outer) e cls (.ref t) L h' → h'.TupAt t args → s.heap.UpToSlots h' → Q () { s with heap := h' }) : wpAny Mo A (noteFrame (.ref e) env) Q E s := by
  obtain ⟨t, he, htn, ht⟩ := hx.there
  have en : base.get? e = none := by
    cases hq : base.get? e with
    | none => rfl
    | some o' => have := hkb e o' hq; rw [hx.new] at this; cases this
  unfold noteFrame
  simp only [hf]
  refine wpAny_bind (wpAny_field he rfl (x := Value.none) rfl ?_)
  rw [if_neg (by decide)]
  refine wpAny_entryW (base := base) (a0 := .ref t) hfr (hl.of_keeps fun b o hb _ => ⟨o, hx.keeps b o hb, rfl⟩) hf he (fun b o hb => hx.keeps b o (hkb b o hb)) en rfl (by show 1 < 6; decide) rfl fun h' hN => ?_
  obtain ⟨k1, k2, k3, k4⟩ := hN
  exact hQ h' t ⟨k1, en, k2, k3⟩ (Heap.TupAt.of_slots ⟨_, _, ht, rfl, rfl⟩ k4) k4
/-- a loop's own error comes back to its frame -/
theorem came_held {base : Heap} {l : List Env} {env : Env} {L e : Addr} {cls a0 : Value} (hf : env.frame = some L) (hh : Heap.HeldW base l e cls a0 L s.heap)
    (hQ : ∀ h', Heap.HeldW base l e cls a0 L h' → s.heap.UpToSlots h' → E (.ref e) { s with heap := h' }) : cameBackBy Mo A env E (.ref e) s := by
  obtain ⟨f1, f2, f3, oe, vs, T, oT, ts, he, hcls, hd, h1, hnT, hTe, hT, hdT, h3⟩ := hh
  have hsz3 : 3 < ts.size := (Array.getElem?_eq_some_iff.mp h3).1
  have other : ∀ b, b ≠ T → (s.heap.update T (Obj.mapFields (·.setIfInBounds 3 ((some L).elim Value.none fun f => rawInt f)))).get? b = s.heap.get? b :=
    fun b hb => Heap.get?_update_other _ _ (Ne.symm hb)
  have noRecord : ∀ b o, s.heap.get? b = some o → (∀ vs, o.data ≠ .fields vs) → b ≠ T := fun b o hb hnf q => by
    rw [q, hT] at hb; injection hb with hb; subst hb; exact hnf ts hdT
  unfold cameBackBy
  refine wpAny_bind (wpAny_field he hd h1 ?_)
  rw [if_neg (show ¬ ((Value.ref T == Value.none) = true) from by simp), hf]
  unfold setFlight
  refine wpAny_bind (wpAny_field he hd h1 ?_)
  rw [if_pos (show (Value.ref T != Value.none) = true from by simp)]
  refine wpAny_setField hT hdT hsz3 (hQ _ ⟨fun b o hbo => (other b fun q => by rw [q, hnT] at hbo; cases hbo).trans (f1 b o hbo), f2,
    f3.of_keeps fun b o hb hnf => ⟨o, (other b (noRecord b o hb hnf)).trans hb, rfl⟩, ?_⟩ fun b o hb hnf => ⟨o.slots, (other b (noRecord b o hb hnf)).trans hb⟩)
  exact ⟨oe, vs, T, _, _, (other e (Ne.symm hTe)).trans he, hcls, hd, h1, hnT, hTe, Heap.get?_update_self _ hT (Obj.isFreed_of_fields (Obj.data_mapFields hdT _)), Obj.data_mapFields hdT _, by simp [hsz3]⟩
/-- the frame is left with the error -/
theorem left_held {base : Heap} {outer : List Env} {env : Env} {L e : Addr} {cls a0 : Value} {Q : Unit → Shared → Prop} (hf : env.frame = some L) (hh : Heap.HeldW base (env :: outer) e cls a0 L s.heap)
    (hQ : ∀ h', Heap.FlyingW base outer e cls a0 h' → s.heap.UpToSlots h' → Q () { s with heap := h' }) : wpAny Mo A (leaving env (.ref e)) Q E s := by
  unfold leaving
  refine wpAny_bind (wpAny_noteFrame_againW hf hh.2.2.2 ?_)
  refine wpAny_landsW hh fun h' hfl hs => ?_
  obtain ⟨k1, k2, ⟨_, _, k3⟩, k4⟩ := hfl
  exact hQ h' ⟨k1, k2, k3, k4⟩ hs
theorem funFrames_of {h h' base : Heap} : ∀ {l : List Env}, (∀ env ∈ l, ∀ L, env.frame = some L → ∀ o, h.get? L = some o → h'.get? L = some o) → h.FunFrames base l → h'.FunFrames base l
  | [], _, _ => trivial
  | env :: r, k, ⟨h1, ⟨L, o, h2, h3, h4, h5⟩, h6⟩ => ⟨h1, ⟨L, o, h2, h3, k env List.mem_cons_self L h2 o h4, h5⟩, funFrames_of (fun e he => k e (List.mem_cons_of_mem _ he)) h6⟩
end
/-- the generator's end with an error -/
noncomputable def gRe (B : Heap) (l : List Env) (L : Addr) : GenEnd := fun _ s₀ r s₁ => ∃ e t tk h' tks, r = .error (.ref e) ∧ s₁ = { s₀ with heap := h', toks := tks } ∧ Heap.FlyingW B l e (.type "ValueError") (.ref t) h' ∧ h'.TupAt t [.str "invalid grouping" tk] ∧
  ∀ b o, b ≠ L → s₀.heap.get? b = some o → (∀ vs, o.data ≠ .fields vs) → ∃ sl, h'.get? b = some { o with slots := sl }
section
variable {prog : Program} {w : World} {A : Around} {nm : Str} {L a lb : Addr} {cd : Value} {ns : List Int} {mg mb : Str → Option Value} {s : Shared}
theorem seg_err {B : Heap} {l : List Env} {Y : Protocol} (hh : A.handled = none) (hfr : A.frames = some l) (hLg : mainGlobals ≠ L) (hLb : builtinsNs ≠ L) (hcm : ∃ t, mg "CHAR_MAX" = some (.int 127 t)) (hve : mg "ValueError" = none ∧ mb "ValueError" = some (.type "ValueError"))
    (hn : ∃ m, s.heap.Ns L m ∧ m "grouping" = some (.ref lb)) (hl : NumsAt s.heap lb ns) (h0 : ns[0]? = some 0) (hmg : s.heap.Ns mainGlobals mg) (hmb : s.heap.Ns builtinsNs mb)
    (hB : B.StaysIn s.heap) (hBL : B.get? L = none) (hfl : s.heap.FunFrames B l) (hlL : ∀ env ∈ l, env.frame ≠ some L) :
    Seg (model prog w) A (gRe B l L) Y 0 s (.func gBody (genv nm L a cd)) ((model prog w).den (.func gBody (genv nm L a cd))) [] s := by
  obtain ⟨m, hn, hgr⟩ := hn
  obtain ⟨t127, hcm⟩ := hcm
  have hA : (A.over (.func gBody (genv nm L a cd)) []).frames = some (genv nm L a cd :: l) := by
    show pushEnvs [genv nm L a cd] (pushEnvs [] A.frames) = _
    rw [hfr]; rfl
  have hhA : (A.over (.func gBody (genv nm L a cd)) []).handled = none := hh
  refine seg_func (seg_wrap ?_)
  unfold gBody
  refine wpAny_execs_cons ?_
  unfold gFirst
  refine wpAny_Assign_Name (Constant_none (g_store rfl hn fun h1 hn1 hs1 => ?_))
  refine wpAny_execs_cons ?_
  unfold gFor
  have hl1 : NumsAt h1 lb ns := hl.keep fun o e => (hs1.2 lb (hl.ne hn)).trans e
  obtain ⟨vs, hls, hsz, hvs⟩ := id hl1
  have hgr1 : (fun y => if y = ("last_interval" : Str) then some Value.none else m y) "grouping" = some (.ref lb) := by
    show (if ("grouping" : Str) = ("last_interval" : Str) then _ else _) = _
    rw [if_neg (by decide)]; exact hgr
  refine wpAny_For (g_name rfl (by decide) hn1 hgr1 (wpAny_pyIter_list hls ?_)) (fun _ => rfl)
  refine codeAny_forLoop_any (fun n s' => n = 0 ∧ s' = { s with heap := h1.push { cls := .type "list_iterator", data := .fields #[.ref lb, .int 0 0] }, toks := s.toks + 1 }) ?_ 0 ⟨rfl, rfl⟩
  rintro n s' ⟨rfl, rfl⟩
  have hk : ∀ b o, h1.get? b = some o → (h1.push { cls := .type "list_iterator", data := .fields #[.ref lb, .int 0 0] }).get? b = some o := fun b o e => Heap.get?_push_of_some _ e
  have hi : (h1.push { cls := .type "list_iterator", data := .fields #[.ref lb, .int 0 0] }).IsListIter h1.objs.size lb 0 := ⟨_, Heap.get?_push_size _ rfl, rfl, rfl⟩
  have hl2 : NumsAt (h1.push { cls := .type "list_iterator", data := .fields #[.ref lb, .int 0 0] }) lb ns := hl1.keep fun o e => hk lb o e
  have hlast1 : (fun y => if y = ("last_interval" : Str) then some Value.none else m y) "last_interval" = some .none := by simp
  generalize (fun y => if y = ("last_interval" : Str) then some Value.none else m y) = m1 at hn1 hgr1 hlast1
  have hn2 : (h1.push { cls := .type "list_iterator", data := .fields #[.ref lb, .int 0 0] }).Ns L m1 := hn1.keeps hk
  have hmg2 : (h1.push { cls := .type "list_iterator", data := .fields #[.ref lb, .int 0 0] }).Ns mainGlobals mg := (hmg.sameBut hs1 hLg).keeps hk
  have hmb2 : (h1.push { cls := .type "list_iterator", data := .fields #[.ref lb, .int 0 0] }).Ns builtinsNs mb := (hmb.sameBut hs1 hLb).keeps hk
  have hold : ∀ b o, b ≠ L → s.heap.get? b = some o → (h1.push { cls := .type "list_iterator", data := .fields #[.ref lb, .int 0 0] }).get? b = some o := fun b o hb e => hk b o ((hs1.2 b hb).trans e)
  have hIn : s.heap.get? h1.objs.size = none := by rw [hs1.1]; exact get_size _
  generalize h1.push { cls := .type "list_iterator", data := .fields #[.ref lb, .int 0 0] } = h2 at hi hl2 hn2 hmg2 hmb2 hold
  generalize h1.objs.size = I at hi hIn
  obtain ⟨vs, hls, hsz, hvs⟩ := id hl2
  obtain ⟨u, hu⟩ := hvs 0 0 h0
  have hIL : L ≠ I := ns_neI hn2 hi
  have hIg : mainGlobals ≠ I := ns_neI hmg2 hi
  have hIb : builtinsNs ≠ I := ns_neI hmb2 hi
  refine wpAny_pyNext_list_item (s := { s with heap := h2, toks := s.toks + 1 }) hi hls hu fun h3 hi3 hs3 => ?_
  refine (show wpAny _ _ (pure ()) _ _ _ from wpAny_pure ?_)
  have hn3 : h3.Ns L m1 := hn2.sameBut hs3 hIL
  unfold gTarget
  refine wpAny_assign_Name (g_store rfl hn3 fun h4 hn4 hs4 => ?_)
  have hint : (fun y => if y = ("interval" : Str) then some (Value.int 0 u) else m1 y) "interval" = some (.int 0 u) := by simp
  have hlast : (fun y => if y = ("interval" : Str) then some (Value.int 0 u) else m1 y) "last_interval" = some .none := by
    show (if ("last_interval" : Str) = ("interval" : Str) then _ else _) = _
    rw [if_neg (by decide)]; exact hlast1
  generalize (fun y => if y = ("interval" : Str) then some (Value.int 0 u) else m1 y) = m4 at hn4 hint hlast
  have hold4 : ∀ b o, b ≠ L → s.heap.get? b = some o → h4.get? b = some o := fun b o hb e =>
    (hs4.2 b hb).trans ((hs3.2 b (fun q => by rw [q, hIn] at e; cases e)).trans (hold b o hb e))
  have hmg4 : h4.Ns mainGlobals mg := (hmg2.sameBut hs3 hIg).sameBut hs4 hLg
  have hmb4 : h4.Ns builtinsNs mb := (hmb2.sameBut hs3 hIb).sameBut hs4 hLb
  have hB4 : B.StaysIn h4 := fun b o e => hold4 b o (fun q => by rw [q, hBL] at e; cases e) (hB b o e)
  have hfl4 : h4.FunFrames B (genv nm L a cd :: l) := by
    obtain ⟨o, es, ep, ho, hd, _⟩ := id hn4
    refine ⟨(fun q => by cases q), ⟨L, o, rfl, hBL, ho, fun vs q => by rw [hd] at q; cases q⟩, funFrames_of (fun env he L' hL' o ho => hold4 L' o (fun q => hlL env he (by rw [hL', q])) ho) hfl⟩
  unfold gSuite
  refine wpAny_execs_cons ?_
  unfold gIf1
  refine wpAny_If (wpAny_isTrue_Compare1 (g_name rfl (by decide) hn4 hint (Name_function_global rfl rfl (loadGlobal_global (mg := mg) hmg4 hcm (eq_int (wpAny_truthy_bool ?_))) (by decide))))
  rw [if_neg (by decide)]
  refine wpAny_execs_nil (wpAny_execs_cons ?_)
  unfold gIf2 gTest2
  refine wpAny_If (wpAny_isTrue_Compare1 (g_name rfl (by decide) hn4 hint (wpAny_Constant_int (eq_int (wpAny_truthy_bool ?_)))))
  rw [if_pos (by decide)]
  refine wpAny_execs_cons ?_
  unfold gRaise
  refine wpAny_If (wpAny_isTrue_Compare1 (g_name rfl (by decide) hn4 hlast (Constant_none (wpAny_is_self rfl (wpAny_truthy_bool ?_)))))
  rw [if_pos rfl]
  refine wpAny_execs_cons (wpAny_Raise_call PySem.F.excCall_ValueError PySem.F.excRaise_ValueError hhA rfl ?_)
  refine Name_function_global rfl rfl (loadGlobal_builtin (mg := mg) (mb := mb) hmg4 hve.1 hmb4 hve.2 ⟨rfl, ?_⟩) (by decide)
  show wpAny _ _ (evalArgs (.type "ValueError") true [(false, eval (.Constant (.str "invalid grouping") 0 ⟨10, 33, 10, 51⟩) (genv nm L a cd))] []) _ _ _
  refine Calls.evalArgs_plain (Calls.spliced_cons (Constant_str (Calls.spliced_nil ⟨rfl, by size_fits, fun h5 e hx => ?_⟩)))
  show wpAny _ _ (noteFrame (.ref e) (genv nm L a cd)) _ _ _
  refine note_first hA rfl hB4 hfl4 (made_of hx) fun h6 t hheld htup hs6 => ?_
  show cameBackBy _ _ _ _ _ _
  refine came_held rfl hheld fun h7 hheld7 hs7 => ?_
  refine seg_wrap (left_held rfl hheld7 fun h8 hfly hs8 => ?_)
  refine seg_end (.error (.ref e)) ⟨e, t, _, h8, _, rfl, rfl, hfly, (htup.of_slots hs7).of_slots hs8, fun b o hb he hnf => ?_⟩
  have h5 := hx.keeps b o (hold4 b o hb he)
  exact ((hs6.trans hs7).trans hs8) b o h5 hnf
end
end Mine

namespace Mine
theorem ve_exc : isSubtype (.type "ValueError") (.type "ValueError") = pure true := by rw [isSubtype_type]; kernel_rfl
theorem ve_tup : isSubtype (.type ((Manifest.find? "ValueError").elim "type" fun x => x.metatype)) (.type "tuple") = pure false := by
  have e : ((Manifest.find? "ValueError").elim "type" fun x => x.metatype) = "type" := by kernel_rfl
  rw [e, isSubtype_type]; kernel_rfl
section
variable {C : WC} {M : Mod} {env : Env} {en : AEnv} {S S' S₀ : List Addr} {s s' s₀ : Shared} {σ σ' : St} {A : Around} {E : Value → Shared → Prop}
theorem EnvOk.mark (H : EnvOk C M env en S A s) (x : Option Value) : EnvOk C M env en S (A.mark x) s := { H with stk := H.stk, top := H.top }
/-- the objects of a state still stand, the frames up to their slots -/
noncomputable def Mid (C : WC) (S : List Addr) (s : Shared) (h : Heap) : Prop :=
  ∀ b o, s.heap.get? b = some o → h.get? b = some o ∨ (IsD o ∧ (b ∈ S ∨ b ∈ C.tabs) ∧ ∃ sl, h.get? b = some { o with slots := sl })
theorem Mid.step {B h h' : Heap} (m : Mid C S s h) (u : h.UpToSlots h') (k : B.StaysIn h') (hB : ∀ b o, s.heap.get? b = some o → B.get? b = some o ∨ (IsD o ∧ (b ∈ S ∨ b ∈ C.tabs))) : Mid C S s h' := by
  intro b o e
  rcases hB b o e with q | ⟨d, q⟩
  · exact .inl (k b o q)
  · right
    refine ⟨d, q, ?_⟩
    obtain ⟨es, n, hd⟩ := d
    rcases m b o e with h1 | ⟨_, _, sl, h1⟩
    · exact u b o h1 fun vs x => by rw [hd] at x; cases x
    · obtain ⟨sl', h2⟩ := u b _ h1 fun vs x => by
        have x : o.data = .fields vs := x
        rw [hd] at x; cases x
      exact ⟨sl', h2⟩
theorem cutVar_at {i : Nat} (h : cutVar en i σ = some σ') : en.fr < 4096 ∧ ∃ ls, σ.h.get en.fr = some (.frame en.f ls) ∧ σ' = σ.put en.fr (.frame en.f (ls.take i)) := by
  unfold cutVar at h
  split at h
  · rename_i hb
    split at h
    · rename_i f ls hf
      split at h
      · rename_i hfe
        cases h
        have hfe' := Nat.eq_of_beq_eq_true hfe
        subst hfe'
        exact ⟨Nat.le_of_ble_eq_true hb, ls, hf, rfl⟩
      · cases h
    · cases h
  · cases h
/-- a local name is bound to something that isn't ours: what we know of the frame ends before it -/
theorem cut_sound (O : MOk C M) (H : EnvOk C M env en S A s) (R : Rel C σ S s) {i : Nat} (hc : isL M en.f i = true) (h : cutVar en i σ = some σ') {h' : Heap} {t' : Nat} {m : Str → Option Value}
    (hm0 : s.heap.Ns env.locals m) {v : Option Value} (hm : h'.Ns env.locals (fun y => if y = M.nm en.f i then v else m y)) (hs : Heap.SameBut env.locals s.heap h') :
    Rel C σ' S { s with heap := h', toks := t' } ∧ Grow C S s S { s with heap := h', toks := t' } := by
  obtain ⟨hb, ls, hf, rfl⟩ := cutVar_at h
  obtain ⟨x, hx⟩ := isL_at hc
  obtain ⟨a, ha, hro⟩ := R.objs _ _ hf
  have : a = env.locals := by have := H.fr; rw [ha] at this; exact Option.some.inj this
  subst this
  obtain ⟨hcnt, m', hm', hl⟩ := hro
  have hmm : m' = m := by
    obtain ⟨o, es, ep, ho, hd, _, hq⟩ := hm0
    obtain ⟨o', es', ep', ho', hd', _, hq'⟩ := hm'
    rw [ho] at ho'; cases ho'
    rw [hd] at hd'; cases hd'
    funext y; rw [← hq' y, hq y]
  subst hmm
  refine R.upd (t' := t') H.fr hf rfl hb (ao := .frame en.f (ls.take i)) hs ⟨Nat.le_trans (by rw [List.length_take]; omega) hcnt, _, hm, fun j y hj => ?_⟩
  rw [List.getElem?_take] at hj
  split at hj
  · rename_i hji
    have hjl : j < ls.length := (List.getElem?_eq_some_iff.mp hj).1
    have hjc : j < (M.sc en.f).names.length := by rw [O.cnt] at hcnt; omega
    have hjn : (M.sc en.f).names[j]? = some ((M.sc en.f).names[j].1, (M.sc en.f).names[j].2) := by rw [List.getElem?_eq_getElem hjc]
    have hne : C.nm en.f j ≠ M.nm en.f i := by
      rw [O.nm, nm_at hjn, nm_at hx]
      intro e
      rw [e] at hjn
      exact absurd (O.inj _ _ _ _ _ _ hjn hx) (Nat.ne_of_lt hji)
    rw [if_neg hne]
    exact hl j y hj
  · cases hj
theorem frame_ns (H : EnvOk C M env en S A s) (R : Rel C σ S s) {f : Nat} {ls : List (Option AV)} (hf : σ.h.get en.fr = some (.frame f ls)) : ∃ m, s.heap.Ns env.locals m := by
  obtain ⟨a, ha, _, m, hm, _⟩ := R.objs _ _ hf
  have : a = env.locals := by have := H.fr; rw [ha] at this; exact Option.some.inj this
  subst this
  exact ⟨m, hm⟩
/-- the handler: except ValueError as error: how = str(error) -/
theorem handler_sound (O : MOk C M) {er ho : Nat} {σ2 σ3 σ4 : St} {B : Heap} {outer : List Env} {e t : Addr} {tk : Tok} {ps : List Pos} (c1 : cutVar en er σ = some σ2) (c2 : wrVar en ho (.str "invalid grouping") σ2 = some σ3) (c3 : cutVar en er σ3 = some σ4)
    (her : isL M en.f er = true) (hho : isL M en.f ho = true) (hve : isG M en.f "ValueError" = true) (hst : isG M en.f "str" = true) (gve : C.mg "ValueError" = none ∧ C.mb "ValueError" = some (.type "ValueError")) (gst : C.mg "str" = none ∧ C.mb "str" = some (.type "str"))
    (hu : A.units + 2 < cLine) {Q : Flow → Shared → Prop} (H : EnvOk C M env en S A s) (R : Rel C σ S s)
    {sx : Shared} (hos : sx.os = s.os) (hbg : AllBare sx.gens) (hgg : ∀ (g : Nat) x, s.gens[g]? = some x → sx.gens[g]? = some x) (hmid : Mid C S s sx.heap) (hB : ∀ b o, s.heap.get? b = some o → B.get? b = some o ∨ (IsD o ∧ (b ∈ S ∨ b ∈ C.tabs)))
    (hfly : Heap.FlyingW B (env :: outer) e (.type "ValueError") (.ref t) sx.heap) (htup : sx.heap.TupAt t [.str "invalid grouping" tk])
    (hq : ∀ s', Rel C σ4 S s' → Grow C S s S s' → Q .next s') :
    wpAny (model C.prog C.w) A (handleBy (.ref e) env [.ExceptHandler (some (.Name "ValueError" (pa ps 4))) (some (M.nm en.f er)) [.Assign [.Name (M.nm en.f ho) (pa ps 5)] (.Call (.Name "str" (pa ps 6)) [.Name (M.nm en.f er) (pa ps 7)] [] (pa ps 8)) (pa ps 9)] (pa ps 10)]) Q E sx := by
  obtain ⟨x, hx⟩ := isL_at her
  have hnm : M.nm en.f er = x := nm_at hx
  obtain ⟨Rx, Gx⟩ := R.move (s' := sx) hos hbg hgg hmid
  have Hx := H.grow Gx
  refine wpAny_handleBy_builtin_as (X := "ValueError") (T := "ValueError") (b := true) PySem.F.excRaise_ValueError.isExc ve_tup ve_exc ?_
  refine ev_blt O (Hx.mark _) Rx hve gve.1 gve.2 ⟨rfl, ?_, ?_⟩
  · obtain ⟨ob, h1, h2⟩ := hfly.there
    exact ⟨ob, h1, h2⟩
  rw [if_pos rfl]
  obtain ⟨f1, f2, f3, f4⟩ := id hfly
  refine wpAny_setFlight_noneW f1 f3 f4.at fun h9 k1 k2 k3 k4 => ?_
  have hup : sx.heap.UpToSlots h9 := fun b o hb hn => ⟨o.slots, k4 b o hb hn⟩
  obtain ⟨R9, G9⟩ := R.move (s' := { sx with heap := h9 }) hos hbg hgg (hmid.step hup k1 hB)
  have H9 := H.grow G9
  have htup9 := htup.of_slots hup
  obtain ⟨hb, ls, hf, hσ2⟩ := cutVar_at c1
  obtain ⟨m, hm⟩ := frame_ns H9 R9 hf
  have hlx : env.kindOf (M.nm en.f er) = some .local := by rw [hnm]; exact H.loc er x hx
  refine wpAny_storeName_local hlx hm (fun h10 hn10 hs10 => ?_) (by rw [H.kind]; rfl)
  obtain ⟨R10, G10⟩ := cut_sound O H9 R9 her c1 (t' := sx.toks + 1) hm hn10 hs10
  have H10 := H9.grow G10
  have hne_e : e ≠ env.locals := by
    rintro rfl
    obtain ⟨oe, vs, _, _, _, he, _, hd, _⟩ := k3
    obtain ⟨o', es, ep, ho', hd', _⟩ := hm
    have he' : h9.get? env.locals = some oe := he
    rw [show ({ sx with heap := h9 } : Shared).heap.get? env.locals = h9.get? env.locals from rfl, he'] at ho'
    cases ho'
    rw [hd] at hd'; cases hd'
  have hne_t : t ≠ env.locals := by
    rintro rfl
    obtain ⟨ot, n, he, _, hd⟩ := htup9
    obtain ⟨o', es, ep, ho', hd', _⟩ := hm
    rw [show ({ sx with heap := h9 } : Shared).heap.get? env.locals = h9.get? env.locals from rfl, he] at ho'
    cases ho'
    rw [hd] at hd'; cases hd'
  have hexc : h10.ExcAt e "ValueError" (.ref t) := by
    obtain ⟨oe, vs, _, _, _, he, ⟨hc, h0⟩, hd, _⟩ := k3
    exact ⟨oe, vs, (hs10.2 e hne_e).trans he, hc, hd, h0⟩
  have htup10 : h10.TupAt t [.str "invalid grouping" tk] := by
    obtain ⟨ot, n, he, r⟩ := htup9
    exact ⟨ot, n, (hs10.2 t hne_t).trans he, r⟩
  refine wpAny_execs_cons (wpAny_Assign_Name ?_ rfl)
  refine Call_Name1 (ev_blt O (H10.mark _) R10 hst gst.1 gst.2 ?_) rfl
  refine PyProof.Rows.callWith_type rfl (Calls.evalArgs_plain (Calls.spliced_cons ?_))
  have hxe : (M.nm en.f er == ("__debug__" : Str)) = false := by rw [hnm]; exact O.dbg _ _ _ _ hx
  refine wpAny_Name (wpAny_loadName_local H.kind hlx hn10 (v := .ref e) (by simp) (Calls.spliced_nil ?_)) hxe
  refine P.str_of_exc_one (s := { sx with heap := h10, toks := sx.toks + 1 }) (e := e) (t0 := t) (A := A.mark (some (.ref e))) PySem.F.excStr_ValueError hu hexc htup10 ?_
  refine st_var O (H10.mark _) R10 hho c2 ⟨tk, rfl⟩ fun s11 R11 G11 => ?_
  refine wpAny_execs_nil ?_
  have H11 := H10.grow G11
  obtain ⟨_, ls', hf', _⟩ := cutVar_at c3
  obtain ⟨m11, hm11⟩ := frame_ns H11 R11 hf'
  refine wpAny_nameGoes_keeps hlx hm11 (by rw [H.kind]; rfl) fun h12 v hn12 hs12 => ?_
  obtain ⟨R12, G12⟩ := cut_sound O H11 R11 her c3 (t' := s11.toks + 1) hm11 hn12 hs12
  exact hq _ R12 (((G9.trans G10).trans G11).trans G12)
end
end Mine

namespace Mine
section
variable {C : WC} {M : Mod} {env : Env} {en : AEnv} {S S' S₀ S1 : List Addr} {s s' s₀ s1 : Shared} {σ σ' σ1 : St} {A : Around} {E : Value → Shared → Prop}
theorem own_of (O : MOk C M) (R1 : Rel C σ1 S1 s1) (G1 : Grow C S s S1 s1) {a : Addr} (h : s1.heap.get? a = none) (s3 : Shared) : Own C S1 s s3 a := by
  have nh : C.hb.get? a = none := by
    cases q : C.hb.get? a with
    | none => rfl
    | some o => obtain ⟨o', e'⟩ := R1.dom a o q; rw [h] at e'; cases e'
  refine ⟨fun hm => ?_, fun hm => ?_, nh, ?_⟩
  · obtain ⟨_, o, e⟩ := R1.off a hm
    rw [h] at e; cases e
  · obtain ⟨o, e, _⟩ := O.tal a hm
    rw [nh] at e; cases e
  · cases q : s.heap.get? a with
    | none => rfl
    | some o => obtain ⟨o', e'⟩ := G1.dom a o q; rw [h] at e'; cases e'
theorem push_old {gens : Array GenState} {x y : GenState} {g : Nat} (h : gens[g]? = some x) : (gens.push y)[g]? = some x := by
  rw [Array.getElem?_push]
  split
  · rename_i e
    have := (Array.getElem?_eq_some_iff.mp h).1
    omega
  · exact h
theorem try_ok (O : MOk C M) {r : Ev} (I : SS C M r) : TryOk C M r := by
  intro en k i rx er ho b ps σ out σ' h hc env A S E s Q H a R hq
  replace hc := an12 hc
  obtain ⟨⟨⟨⟨⟨⟨⟨⟨⟨⟨⟨cf, cg⟩, ci⟩, cx⟩, cer⟩, cho⟩, cne⟩, cfn⟩, cve⟩, cst⟩, crx⟩, cb⟩ := hc
  have ar := a.depth
  have au := a.units
  have ad := a.d
  have hroom : A.depth < recursionLimit := by
    have : recursionLimit = 1000 := by decide
    omega
  unfold tryGen at h
  split at h
  · rename_i l σ1 hd h1
    have hd : en.d < 40 := Nat.le_of_ble_eq_true hd
    split at h
    · rename_i xs hx
      split at h
      · rename_i ns hns
        have GF := O.gn k cg
        obtain ⟨fa, o, fd, g1, g2, g3, g4, pm, cd, doc, rfl, c, oc, fs, tq, rfl, q2, q3, q4, q5⟩ := GF.fn
        refine wpAny_Try_except (wpAny_execs_cons (wpAny_For ?_ fun _ => rfl))
        refine Call_Name1 (ev_glob O H R cfn g1 ?_) (by rw [star_cons]; rfl)
        refine callWith_function (o := o) (fd := docDef (M.fnm k) gArgs gBody gScope pm (.ref c) doc) (Calls.evalArgs_plain (Calls.spliced_cons (I.e h1 crx H a R fun S1 s1 u R1 G1 V1 => Calls.spliced_nil ⟨⟨R1.keep fa o g2 g3, g4⟩, ?_⟩)))
        obtain ⟨lb, hlb, rfl⟩ := V1
        have hcode : s1.heap.CodeRec (.ref c) (M.fnm k) := ⟨c, oc, fs, tq, rfl, R1.keep c oc q3 q2, q4, q5⟩
        refine wpAny_call (codeAny_call_generator (fd := docDef (M.fnm k) gArgs gBody gScope pm (.ref c) doc) hroom (R1.keep fa o g2 g3) g4 rfl rfl rfl hcode ?_)
        show wpAny _ A.in1 (bindArgs (docDef (M.fnm k) gArgs gBody gScope pm (.ref c) doc) ⟨[.ref lb], []⟩) _ _ _
        rw [GF.bind]
        refine wpAny_pure (wpAny_newFunctionEnv (scope := gScope) (fun x hx => ?_) (fun x hx => ?_) (fun h' hns' hsb => ?_) rfl)
        · have := List.all_eq_true.mp (show gScope.names.all (fun y => !(kindEq y.2 .cell)) = true by decide) x hx
          intro e
          rw [e] at this
          cases this
        · rw [List.mem_singleton.mp hx]; rfl
        have hkeep : ∀ b o, s1.heap.get? b = some o → h'.get? b = some o := fun b o e => by
          have hne : b ≠ s1.heap.objs.size := fun q => by rw [q, get_size] at e; cases e
          rw [hsb.2 b hne]
          exact Heap.get?_push_of_some _ e
        obtain ⟨R0, G0⟩ := R1.same (h' := h') (t' := s1.toks + 1) hkeep
        refine ⟨R0.lim O, ?_⟩
        have hLnone : s1.heap.get? s1.heap.objs.size = none := get_size _
        have hLlt : s1.heap.objs.size < h'.objs.size := hns'.lt
        have hgr : (fun x => ([(("grouping" : Str), Value.ref lb)] : List (Str × Value)).reverse.lookup x) "grouping" = some (.ref lb) := by rfl
        generalize (fun x => ([(("grouping" : Str), Value.ref lb)] : List (Str × Value)).reverse.lookup x) = mL at hns' hgr
        -- the generator's state
        generalize hgo : ({ cls := .type "generator", data := .fields #[.int (s1.gens.size : Int) 0, .str (M.fnm k) (s1.toks + 1), .str (M.fnm k) (s1.toks + 1 + 1)] } : Obj) = gobj
        have key : ∀ s3 : Shared, s3 = { s1 with heap := h'.push gobj, toks := s1.toks + 1 + 1 + 1, gens := s1.gens.push (.fresh (.func gBody (genv (M.fnm k) s1.heap.objs.size fa (.ref c)))) } →
            codeAny (model C.prog C.w) A (Code.forLoop (.Name (M.nm en.f i) (pa ps 0)) (.ref h'.objs.size) (toSs M en.f b) [] env) (fun r s' => match r with
              | .ok f => (match f with
                | .next => wpAny (model C.prog C.w) A (execs [] env) (fun f s₁ => match f with
                    | .next => wpAny (model C.prog C.w) A (execs [] env) Q E s₁
                    | f => Q f s₁) (fun e s₁ => wpAny (model C.prog C.w) A (noteFrame e env) (fun _ s₂ => wpAny (model C.prog C.w) A (setFlight e none) (fun _ s₃ => wpAny (model C.prog C.w) A (handleBy e env [.ExceptHandler (some (.Name "ValueError" (pa ps 4))) (some (M.nm en.f er)) [.Assign [.Name (M.nm en.f ho) (pa ps 5)] (.Call (.Name "str" (pa ps 6)) [.Name (M.nm en.f er) (pa ps 7)] [] (pa ps 8)) (pa ps 9)] (pa ps 10)]) Q E s₃) E s₂) E s₁) s'
                | f => Q f s')
              | .error e => cameBackBy (model C.prog C.w) A env (fun e s₁ => wpAny (model C.prog C.w) A (noteFrame e env) (fun _ s₂ => wpAny (model C.prog C.w) A (setFlight e none) (fun _ s₃ => wpAny (model C.prog C.w) A (handleBy e env [.ExceptHandler (some (.Name "ValueError" (pa ps 4))) (some (M.nm en.f er)) [.Assign [.Name (M.nm en.f ho) (pa ps 5)] (.Call (.Name "str" (pa ps 6)) [.Name (M.nm en.f er) (pa ps 7)] [] (pa ps 8)) (pa ps 9)] (pa ps 10)]) Q E s₃) E s₂) E s₁) e s') s3 := by
          intro s3 hs3
          have hh3 : s3.heap = h'.push gobj := by rw [hs3]
          have hg3 : s3.gens = s1.gens.push (.fresh (.func gBody (genv (M.fnm k) s1.heap.objs.size fa (.ref c)))) := by rw [hs3]
          have hos3 : s3.os = s1.os := by rw [hs3]
          have hkeep3 : ∀ b o, s1.heap.get? b = some o → s3.heap.get? b = some o := fun b o e => by rw [hh3]; exact Heap.get?_push_of_some _ (hkeep b o e)
          obtain ⟨R3, G3⟩ := R1.move (s' := s3) hos3 (by rw [hg3]; exact R1.bare.push rfl) (fun g x e => by rw [hg3]; exact push_old e) (fun b o e => .inl (hkeep3 b o e))
          have hnew : ∀ a, h'.objs.size ≤ a → s1.heap.get? a = none := fun a ha => by
            cases q : s1.heap.get? a with
            | none => rfl
            | some o => exact absurd (Heap.lt_size (hkeep a o q)) (Nat.not_lt.mpr ha)
          have Wg := own_of O R1 G1 (hnew h'.objs.size (Nat.le_refl _)) s3
          have WL := own_of O R1 G1 hLnone s3
          have WI := own_of O R1 G1 (a := s3.heap.objs.size) (hnew _ (by rw [hh3, Heap.size_push]; omega)) s3
          have hgen : s3.heap.IsGen h'.objs.size s1.gens.size := ⟨gobj, _, _, by rw [hh3]; exact Heap.get?_push_size _ (by rw [← hgo]; rfl), by rw [← hgo], by rw [← hgo], by rw [← hgo]⟩
          have hgs : s3.gens[s1.gens.size]? = some (.fresh (.func gBody (genv (M.fnm k) s1.heap.objs.size fa (.ref c)))) := by rw [hg3]; simp
          have hg0 : s.gens[s1.gens.size]? = none := by
            cases q : s.gens[s1.gens.size]? with
            | none => rfl
            | some x =>
              have := (Array.getElem?_eq_some_iff.mp (G1.gens _ _ q)).1
              omega
          have hmg1 : s1.heap.Ns mainGlobals C.mg := R1.ns O.g O.tg.1
          have hmb1 : s1.heap.Ns builtinsNs C.mb := R1.ns O.b O.tg.2.1
          have ns_ne : ∀ {a : Addr} {m : Str → Option Value}, s1.heap.Ns a m → a ≠ s1.heap.objs.size := fun hn => Nat.ne_of_lt hn.lt
          have hLg := ns_ne hmg1
          have hLns : s3.heap.Ns s1.heap.objs.size mL := by rw [hh3]; exact hns'.push _
          split at h
          · -- the row's nought stands in front
            rename_i hh0
            have hns0 : ns[0]? = some 0 := by
              unfold head0 at hh0
              split at hh0
              · have := beq_iff_eq.mp hh0
                rw [this]; rfl
              · cases hh0
            split at h
            · rename_i σ2 c1
              split at h
              · rename_i σ3 c2
                split at h
                · rename_i σ4 c3
                  cases h
                  have H1 := H.grow G1
                  obtain ⟨lst, hfr, hstk⟩ := H1.stk
                  obtain ⟨outer, hout⟩ := H1.top cf
                  have : lst = env :: outer := by rw [hfr] at hout; exact Option.some.inj hout
                  subst this
                  obtain ⟨_, L', _, hf, _, _, _⟩ := hstk env List.mem_cons_self
                  have hfrm : ∀ x, x ∈ (env :: outer).filterMap (·.frame) → ∃ o, s1.heap.get? x = some o ∧ IsD o ∧ (x ∈ S1 ∨ x ∈ C.tabs) := by
                    intro x hx
                    obtain ⟨e', he', hfe⟩ := List.mem_filterMap.mp hx
                    obtain ⟨_, L2, o2, h1, h2, h3, h4⟩ := hstk e' he'
                    rw [h1] at hfe
                    cases hfe
                    exact ⟨o2, h3, h4, h2⟩
                  have hB : ∀ b o, s1.heap.get? b = some o → (hideAll s3.heap (s1.heap.objs.size :: (env :: outer).filterMap (·.frame))).get? b = some o ∨ (IsD o ∧ (b ∈ S1 ∨ b ∈ C.tabs)) := by
                    intro b o e
                    by_cases hb : b ∈ s1.heap.objs.size :: (env :: outer).filterMap (·.frame)
                    · rcases List.mem_cons.mp hb with rfl | hb
                      · rw [hLnone] at e; cases e
                      · obtain ⟨o2, e2, d2, m2⟩ := hfrm b hb
                        rw [e] at e2
                        cases e2
                        exact .inr ⟨d2, m2⟩
                    · exact .inl (hideAll_get _ (hkeep3 b o e) hb)
                  have hstay : (hideAll s3.heap (s1.heap.objs.size :: (env :: outer).filterMap (·.frame))).StaysIn s3.heap := fun b o e => of_hideAll _ e
                  have hBL : (hideAll s3.heap (s1.heap.objs.size :: (env :: outer).filterMap (·.frame))).get? s1.heap.objs.size = none := hideAll_none _ List.mem_cons_self
                  have hff : s3.heap.FunFrames (hideAll s3.heap (s1.heap.objs.size :: (env :: outer).filterMap (·.frame))) (env :: outer) := by
                    have gen : ∀ l' : List Env, (∀ e ∈ l', e ∈ env :: outer) → s3.heap.FunFrames (hideAll s3.heap (s1.heap.objs.size :: (env :: outer).filterMap (·.frame))) l' := by
                      intro l'
                      induction l' with
                      | nil => intro _; trivial
                      | cons e r ih =>
                        intro hm
                        obtain ⟨k1, L2, o2, h1, h2, h3, es, n, h4⟩ := hstk e (hm e List.mem_cons_self)
                        exact ⟨k1, ⟨L2, o2, h1, hideAll_none _ (List.mem_cons_of_mem _ (List.mem_filterMap.mpr ⟨e, hm e List.mem_cons_self, h1⟩)), hkeep3 _ _ h3, fun vs q => by rw [h4] at q; cases q⟩, ih fun e' he' => hm e' (List.mem_cons_of_mem _ he')⟩
                    exact gen _ fun _ h => h
                  have hlL : ∀ e ∈ env :: outer, e.frame ≠ some s1.heap.objs.size := by
                    intro e he q
                    obtain ⟨o2, e2, _⟩ := hfrm _ (List.mem_filterMap.mpr ⟨e, he, q⟩)
                    rw [hLnone] at e2; cases e2
                  have hBx : ∀ b o, s3.heap.get? b = some o → b ∉ s1.heap.objs.size :: (env :: outer).filterMap (·.frame) → (hideAll s3.heap (s1.heap.objs.size :: (env :: outer).filterMap (·.frame))).get? b = some o := fun b o e hb => hideAll_get _ e hb
                  generalize hideAll s3.heap (s1.heap.objs.size :: (env :: outer).filterMap (·.frame)) = B at hB hstay hBL hff hBx
                  refine codeAny_forLoop_any (fun n s' => n = 0 ∧ s' = s3) ?_ 0 ⟨rfl, rfl⟩
                  rintro n s' ⟨rfl, hss⟩
                  have hss' := hss.symm
                  subst hss'
                  have hnum : NumsAt s3.heap lb ns := nums_of R3 hx hns hlb
                  refine gen_next (n := 0) (R := gRe B (env :: outer) s1.heap.objs.size) (Y := fun _ _ _ _ _ => False) a.handled (R3.lim O) hroom hgen hgs
                    ⟨rfl, seg_err (s := s3.setGen s1.gens.size .running) (mb := C.mb) a.handled hfr hLg (ns_ne hmb1) GF.cm GF.ve ⟨mL, hLns, hgr⟩ hnum hns0 (R3.ns O.g O.tg.1) (R3.ns O.b O.tg.2.1) hstay hBL hff hlL⟩
                    (fun v s₁ gs' _ hy => hy.elim) (fun z s₁ hz => .inr ?_)
                  obtain ⟨e, t, tk, h4, tks, rfl, rfl, hfly, htup, hslots⟩ := hz
                  have hgobj : s3.heap.get? h'.objs.size = some gobj := by rw [hh3]; exact Heap.get?_push_size _ (by rw [← hgo]; rfl)
                  have hag : B.get? h'.objs.size = some gobj := hBx _ _ hgobj fun hm => by
                    rcases List.mem_cons.mp hm with q | hm
                    · exact Nat.ne_of_gt hLlt q
                    · obtain ⟨o2, e2, _⟩ := hfrm _ hm
                      rw [hnew _ (Nat.le_refl _)] at e2
                      cases e2
                  have hmid4 : Mid C S1 s1 h4 := by
                    intro b o eb
                    rcases hB b o eb with q | ⟨d, q⟩
                    · exact .inl (hfly.1 b o q)
                    · right
                      refine ⟨d, q, ?_⟩
                      refine hslots b o (fun z => ?_) (hkeep3 b o eb) (fun vs x => ?_)
                      · rw [z, hLnone] at eb; cases eb
                      · obtain ⟨es, n, d⟩ := d
                        rw [d] at x; cases x
                  have hbg : AllBare (({ (s3.setGen s1.gens.size .running) with heap := h4, toks := tks } : Shared).setGen s1.gens.size .finished).gens :=
                    bare_set (s := { (s3.setGen s1.gens.size .running) with heap := h4, toks := tks }) (bare_set R3.bare rfl) rfl
                  have hgg : ∀ (g : Nat) x, s1.gens[g]? = some x → (({ (s3.setGen s1.gens.size .running) with heap := h4, toks := tks } : Shared).setGen s1.gens.size .finished).gens[g]? = some x := by
                    intro g x hgx
                    have hne : g ≠ s1.gens.size := fun q => by
                      have := (Array.getElem?_eq_some_iff.mp hgx).1
                      omega
                    rw [gens_other hne]
                    show (s3.setGen s1.gens.size .running).gens[g]? = some x
                    rw [gens_other hne, hg3]
                    exact push_old hgx
                  refine ⟨e, rfl, ?_, ⟨gobj, _, _, hfly.1 _ _ hag, by rw [← hgo], by rw [← hgo], by rw [← hgo]⟩, ?_⟩
                  · obtain ⟨ob, h1, h2⟩ := hfly.there
                    exact ⟨ob, h1, h2⟩
                  show wpAny _ A (noteFrame (.ref e) env) _ _ _
                  refine wpAny_looks_onW hout hf hfly fun h5 hheld u5 => ?_
                  show cameBackBy _ _ _ _ _ _
                  refine came_held hf hheld fun h6 hheld6 u6 => ?_
                  refine wpAny_noteFrame_againW hf hheld6.2.2.2 (wpAny_landsW hheld6 fun h7 hfly7 u7 => ?_)
                  refine handler_sound O c1 c2 c3 cer cho cve cst GF.ve GF.st ?_ H1 R1 hos3 hbg hgg (((hmid4.step u5 hheld.1 hB).step u6 hheld6.1 hB).step u7 hfly7.1 hB) hB hfly7 (((htup.of_slots u5).of_slots u6).of_slots u7) fun s' R' G' => hq _ _ _ R' (G1.trans G') rfl
                  have : cLine = 9900 := by decide
                  omega
                · cases h
              · cases h
            · cases h
          · -- it yields
            rename_i hh0
            have hns0 : ns[0]? ≠ some 0 := by
              intro q
              cases ns with
              | nil => simp at q
              | cons k0 r0 =>
                have q : k0 = 0 := by simpa using q
                subst q
                cases hh0
            refine glp_sound O I h ci cb GF.cm H a (by omega) R3 (G1.trans G3) hlb Wg WL WI hgen (Nat.ne_of_gt hLlt) (by rw [hh3, Heap.size_push]; exact Nat.ne_of_lt (Nat.lt_succ_self _)) hgs hg0 hLg ⟨mL, hLns, rfl, hgr⟩ hns0 (fun S' s' f R' G' V' => ?_)
            cases out with
            | next =>
              have hf : f = .next := V'
              subst hf
              exact wpAny_execs_nil (wpAny_execs_nil (hq _ _ _ R' G' rfl))
            | brk =>
              have hf : f = .brk := V'
              subst hf
              exact hq _ _ _ R' G' rfl
            | ret v =>
              obtain ⟨u, rfl, hu⟩ := V'
              exact hq _ _ _ R' G' ⟨u, rfl, hu⟩
        subst hgo
        refine wpAny_pyIter_gen (g := s1.gens.size) ⟨_, _, _, Heap.get?_push_size _ rfl, rfl, rfl, rfl⟩ ?_
        refine codeAny_mono (key _ rfl) fun r s' h => ?_
        cases r with
        | ok f => cases f <;> exact h
        | error e => exact h
      · cases h
    · cases h
  · cases h
end
end Mine

namespace Mine
section
variable {C : WC} {M : Mod} {env : Env} {en : AEnv} {S S' S₀ : List Addr} {s s' s₀ : Shared} {σ σ' : St} {K : Facts} {A : Around} {E : Value → Shared → Prop} {P : Nat → List AV → St → Option (AV × St)}

theorem lrev_ok {l : Nat} {xs : List AV} {av : AV} {d : Nat} {v : Value} {Q : Value → Shared → Prop} (hx : listAt σ l = some xs) (h : mkList σ xs.reverse = some (av, σ')) (a : AOk A d) (R : Rel C σ S s) (V : RV C S (.ref l) v)
    (hq : ∀ S' s' v, Rel C σ' S' s' → Grow C S s S' s' → RV C S' av v → Q v s') :
    wpAny (model C.prog C.w) A (call (.type "reversed") [v]) (fun u s' => wpAny (model C.prog C.w) A (call (.type "list") [u]) Q E s') E s := by
  obtain ⟨b, vs, n, rfl, hb, hl, hv⟩ := listAt_sound R hx V
  have hlt : b < s.heap.objs.size := Heap.lt_size hl
  have hvl := hv.length
  obtain ⟨hf, h⟩ := oif_at h
  have hf' := fewer_le hf
  rw [List.length_reverse] at hf'
  obtain ⟨hn, rfl, rfl⟩ := mk_at h
  refine call_reversed_list (isList_of hl) ?_
  have hrev : (s.heap.push (revObj b ((vs.toArray.size : Int) - 1))).IsRevIter s.heap.objs.size b ((vs.toArray.size : Int) - 1) := ⟨_, Heap.get?_push_size _ rfl, rfl, rfl⟩
  refine call_list_rev (s := { s with heap := s.heap.push (revObj b ((vs.toArray.size : Int) - 1)) }) (items := vs.toArray) a.handled hrev ((isList_of hl).at fun o e => Heap.get?_push_of_some _ e) (sizeLine_big (by simp; omega)) (Nat.ne_of_lt hlt) fun h' tk acc c hk hD hacc => ?_
  have hrevs : acc.toList = vs.reverse := by
    obtain ⟨h1, h2⟩ := hacc
    have h1' : acc.size = vs.length := by simpa using h1
    apply List.ext_getElem
    · simp [h1']
    · intro j p q
      have hj : j < acc.size := by simpa using p
      have := h2 j acc[j] (Array.getElem?_eq_getElem hj)
      have e : vs[vs.length - 1 - j]? = some acc[j] := by simpa using this
      have hq2 : vs.length - 1 - j < vs.length := by omega
      rw [List.getElem?_eq_getElem hq2] at e
      rw [Array.getElem_toList, List.getElem_reverse]
      exact (Option.some.inj e).symm
  obtain ⟨R', G', V'⟩ := R.alloc hn (ao := .list xs.reverse) (a := (s.heap.push (revObj b ((vs.toArray.size : Int) - 1))).objs.size) (h' := h') (t' := tk)
    (fun x o e => hk x o (fun q => by rw [q, get_size] at e; cases e) (Heap.get?_push_of_some _ e)) (by
      cases q : s.heap.get? (s.heap.push (revObj b ((vs.toArray.size : Int) - 1))).objs.size with
      | none => rfl
      | some o =>
        have := Heap.lt_size q
        rw [Heap.size_push] at this
        exact absurd this (Nat.not_lt.mpr (Nat.le_succ _))) ⟨acc, c, hD, by rw [hrevs]; exact hv.reverse.mono _⟩
  exact hq _ _ _ R' G' V'
theorem noEv_sound : SS C M noEv where
  e := by intro _ _ _ _ _ h; cases h
  es := by intro _ _ _ _ _ h; cases h
  t := by intro _ _ _ _ _ h; cases h
  s := by intro _ _ _ _ _ h; cases h
  ss := by intro _ _ _ _ _ h; cases h
/-- the evaluator tells the truth -/
theorem ev_sound (HK : K.Ok C.ι) (O : MOk C M) (HP : PrimOk C M P) : ∀ n, SS C M (ev K M P n) := by
  intro n
  induction n using Nat.strongRecOn with
  | ind n ih =>
    cases n with
    | zero => exact noEv_sound
    | succ n =>
      have I0 := ih n (Nat.lt_succ_self n)
      have I : ∀ m, m < n → SS C M (ev K M P m) := fun m hm => ih m (by omega)
      have J : Rest C M K (ev K M P n) P := {
        comp := by
          intro en x σ av σ' hx h hc env A S E s Q H a R hq
          exact comp_ok HK O I0 I hx h hc H a R hq
        lrev := by
          intro σ l xs av σ' hx h A d S E s Q v p a R V hq
          exact lrev_ok hx h a R V hq }
      have JF : ForOk C M (ev K M P n) := for_ok O I0 I
      exact {
        e := by
          intro en x σ av σ' h hc env A S E s Q H a R hq
          exact stepE_sound HK O HP I0 J h hc H a R hq
        es := by
          intro en x σ avs σ' h hc env A S E s Q H a R hq
          exact stepEs_sound I0.toSE h hc H a R hq
        t := by
          intro en x σ b σ' h hc env A S E s Q H a R hq
          exact stepT_sound HK I0.toSE h hc H a R hq
        s := by
          intro en y σ o σ' h hc env A S E s Q H a R hq
          exact stepS_sound HK O I0 JF (try_ok O I0) h hc H a R hq
        ss := by
          intro en y σ o σ' h hc env A S E s Q H a R hq
          exact stepSs_sound I0 h hc H a R hq }
end
end Mine

namespace Mine
noncomputable def stPick : List Stmt → List Nat → Stmt
  | l, [i] => l.getD i (.Pass ⟨0, 0, 0, 0⟩)
  | l, i :: b :: r => match l.getD i (.Pass ⟨0, 0, 0, 0⟩) with
    | .If _ x y _ => stPick (match b with | 0 => x | _ => y) r
    | .For _ _ x y _ => stPick (match b with | 0 => x | _ => y) r
    | s => s
  | _, [] => .Pass ⟨0, 0, 0, 0⟩
noncomputable def defAt (k : Nat) : Stmt := PySem.Challenge.pw_uq0004_01.main.body.getD k (.Pass ⟨0, 0, 0, 0⟩)
noncomputable def stBody : Stmt → List Stmt
  | .FunctionDef _ _ b _ _ _ _ _ _ _ => b
  | _ => []
noncomputable def stArgs : Stmt → Arguments
  | .FunctionDef _ a _ _ _ _ _ _ _ _ => a
  | _ => default
noncomputable def fnPos : Nat → Nat
  | 0 => 2
  | 1 => 5
  | 2 => 6
  | 3 => 7
  | 4 => 8
  | 5 => 9
  | 6 => 10
  | 7 => 13
  | 8 => 15
  | 9 => 16
  | 10 => 17
  | 11 => 18
  | 12 => 19
  | _ => 1000
noncomputable def innAt : Nat → Stmt
  | 17 => stPick (stBody (defAt (fnPos 3))) [1]
  | 18 => stPick (stBody (defAt (fnPos 4))) [0]
  | _ => .Pass ⟨0, 0, 0, 0⟩
noncomputable def stAt (k : Nat) (p : List Nat) : Stmt := stPick (stBody (defAt (fnPos k))) p
noncomputable def scp (l : List (Str × NameKind)) : Scope := ⟨.function, l, false, false, []⟩
noncomputable def scpM (l : List (Str × NameKind)) (m : List (Str × Const)) : Scope := ⟨.function, l, false, false, m⟩
noncomputable def lawSc : Nat → Scope
  | 0 => scp [(("grouping" : Str), .local), (("last_interval" : Str), .local), (("interval" : Str), .local), (("CHAR_MAX" : Str), .globalImplicit), (("ValueError" : Str), .globalImplicit)]
  | 1 => scp [(("a" : Str), .local), (("b" : Str), .local), (("n" : Str), .local), (("pad" : Str), .local), (("half_n" : Str), .local), (("mask" : Str), .local), (("b1" : Str), .local), (("b2" : Str), .local), (("q1" : Str), .local), (("r" : Str), .local), (("q2" : Str), .local), (("_DIV_LIMIT" : Str), .globalImplicit), (("divmod" : Str), .globalImplicit), (("_div3n2n" : Str), .globalImplicit)]
  | 2 => scp [(("a12" : Str), .local), (("a3" : Str), .local), (("b" : Str), .local), (("b1" : Str), .local), (("b2" : Str), .local), (("n" : Str), .local), (("q" : Str), .local), (("r" : Str), .local), (("_div2n1n" : Str), .globalImplicit)]
  | 3 => scp [(("a" : Str), .local), (("n" : Str), .cell), (("a_digits" : Str), .cell), (("inner" : Str), .cell), (("len" : Str), .globalImplicit)]
  | 4 => scp [(("digits" : Str), .cell), (("n" : Str), .cell), (("inner" : Str), .cell), (("len" : Str), .globalImplicit)]
  | 5 => scp [(("a" : Str), .local), (("b" : Str), .local), (("n" : Str), .local), (("a_digits" : Str), .local), (("r" : Str), .local), (("q_digits" : Str), .local), (("a_digit" : Str), .local), (("q_digit" : Str), .local), (("q" : Str), .local), (("_int2digits" : Str), .globalImplicit), (("reversed" : Str), .globalImplicit), (("_div2n1n" : Str), .globalImplicit), (("_digits2int" : Str), .globalImplicit)]
  | 6 => scp [(("a" : Str), .local), (("b" : Str), .local), (("q" : Str), .local), (("r" : Str), .local), (("ZeroDivisionError" : Str), .globalImplicit), (("int_divmod" : Str), .globalImplicit), (("_divmod_pos" : Str), .globalImplicit)]
  | 7 => scp [(("flags" : Str), .local), (("names" : Str), .local), (("i" : Str), .local), (("flag" : Str), .local), (("range" : Str), .globalImplicit), (("COMPILER_FLAG_NAMES" : Str), .globalImplicit), (("hex" : Str), .globalImplicit)]
  | 8 => scp [(("row" : Str), .local), (("most" : Str), .local), (("marks" : Str), .local), (("place" : Str), .local), (("how" : Str), .local), (("size" : Str), .local), (("error" : Str), .local), (("_grouping_intervals" : Str), .globalImplicit), (("ValueError" : Str), .globalImplicit), (("str" : Str), .globalImplicit)]
  | 9 => scp [(("most" : Str), .local), (("heavy" : Str), .local), (("long" : Str), .local), (("spin" : Str), .local), (("told" : Str), .local), (("ways" : Str), .local), (("odd" : Str), .local), (("part" : Str), .local), (("kind" : Str), .local), (("written" : Str), .local), (("due" : Str), .local), (("marks" : Str), .local), (("how" : Str), .local), (("grown" : Str), .local), (("copies" : Str), .local), (("place" : Str), .local), (("total" : Str), .local), (("worth" : Str), .local), (("_law_marks" : Str), .globalImplicit), (("range" : Str), .globalImplicit), (("list" : Str), .globalImplicit)]
  | 10 => scp [(("most" : Str), .local), (("heavy" : Str), .local), (("long" : Str), .local), (("width" : Str), .local), (("above" : Str), .local), (("ways" : Str), .local), (("below" : Str), .local), (("part" : Str), .local), (("power" : Str), .local), (("half" : Str), .local), (("quotient" : Str), .local), (("rest" : Str), .local), (("further" : Str), .local), (("range" : Str), .globalImplicit), (("int_divmod" : Str), .globalImplicit), (("list" : Str), .globalImplicit), (("reversed" : Str), .globalImplicit), (("_int2digits" : Str), .globalImplicit)]
  | 11 => scpM [(("most" : Str), .local), (("heavy" : Str), .local), (("long" : Str), .local), (("names" : Str), .cell), (("total" : Str), .local), (("sets" : Str), .local), (("part" : Str), .cell), (("flags" : Str), .local), (("told" : Str), .local), (("worth" : Str), .local), (("words" : Str), .local), (("parts" : Str), .cell), (("runs" : Str), .local), (("range" : Str), .globalImplicit), (("pretty_flags" : Str), .globalImplicit), (("len" : Str), .globalImplicit), (("sum" : Str), .globalImplicit), (("sorted" : Str), .globalImplicit), (("max" : Str), .globalImplicit)] [(("fast" : Str), .str "most"), (("fast" : Str), .str "heavy"), (("fast" : Str), .str "long"), (("fast" : Str), .str "names"), (("fast" : Str), .str "total"), (("fast" : Str), .str "sets"), (("fast" : Str), .str "part"), (("fast" : Str), .str "flags"), (("fast" : Str), .str "told"), (("fast" : Str), .str "worth"), (("fast" : Str), .str "words"), (("fast" : Str), .str "word"), (("fast" : Str), .str "parts"), (("fast" : Str), .str "runs")]
  | 12 => scp [(("script" : Str), .local), (("numbers" : Str), .local), (("most" : Str), .local), (("heavy" : Str), .local), (("long" : Str), .local), (("told" : Str), .local), (("len" : Str), .globalImplicit), (("_law_by_rulers" : Str), .globalImplicit), (("_law_by_flags" : Str), .globalImplicit), (("_law_by_division" : Str), .globalImplicit)]
  | 13 => scp [((".0" : Str), .local), (("total" : Str), .local)]
  | 14 => scp [((".0" : Str), .local), (("flags" : Str), .local), (("part" : Str), .free)]
  | 15 => scp [((".0" : Str), .local), (("word" : Str), .local), (("names" : Str), .free)]
  | 16 => scp [((".0" : Str), .local), (("part" : Str), .local), (("parts" : Str), .free)]
  | 17 => scp [(("x" : Str), .local), (("L" : Str), .local), (("R" : Str), .local), (("mid" : Str), .local), (("shift" : Str), .local), (("upper" : Str), .local), (("lower" : Str), .local), (("a_digits" : Str), .free), (("inner" : Str), .free), (("n" : Str), .free)]
  | 18 => scp [(("L" : Str), .local), (("R" : Str), .local), (("mid" : Str), .local), (("shift" : Str), .local), (("digits" : Str), .free), (("inner" : Str), .free), (("n" : Str), .free)]
  | _ => scp []
noncomputable def body1 : Y := (.cons (.ife (.cmp .LtE (.bin .Sub (.meth .bitlen (.var 0 ⟨18, 7, 18, 8⟩) .nil ⟨18, 7, 18, 19⟩ ⟨18, 7, 18, 21⟩) (.var 2 ⟨18, 24, 18, 25⟩) ⟨18, 7, 18, 25⟩) (.gint 1 ⟨18, 29, 18, 39⟩) ⟨18, 7, 18, 39⟩) (.cons (.ret (.bfn .divmod (.cons (.var 0 ⟨19, 22, 19, 23⟩) (.cons (.var 1 ⟨19, 25, 19, 26⟩) .nil)) ⟨19, 15, 19, 21⟩ ⟨19, 15, 19, 27⟩) ⟨19, 8, 19, 27⟩) .nil) .nil ⟨18, 4, 19, 27⟩) (.cons (.asn 3 ⟨20, 4, 20, 7⟩ (.bin .BitAnd (.var 2 ⟨20, 10, 20, 11⟩) (.num 1 ⟨20, 14, 20, 15⟩) ⟨20, 10, 20, 15⟩) ⟨20, 4, 20, 15⟩) (.cons (.ife (.var 3 ⟨21, 7, 21, 10⟩) (.cons (.raw (stAt 1 [2, 0, 0])) (.cons (.raw (stAt 1 [2, 0, 1])) (.cons (.raw (stAt 1 [2, 0, 2])) .nil))) .nil ⟨21, 4, 24, 14⟩) (.cons (.asn 4 ⟨25, 4, 25, 10⟩ (.bin .RShift (.var 2 ⟨25, 13, 25, 14⟩) (.num 1 ⟨25, 18, 25, 19⟩) ⟨25, 13, 25, 19⟩) ⟨25, 4, 25, 19⟩) (.cons (.asn 5 ⟨26, 4, 26, 8⟩ (.bin .Sub (.bin .LShift (.num 1 ⟨26, 12, 26, 13⟩) (.var 4 ⟨26, 17, 26, 23⟩) ⟨26, 12, 26, 23⟩) (.num 1 ⟨26, 27, 26, 28⟩) ⟨26, 11, 26, 28⟩) ⟨26, 4, 26, 28⟩) (.cons (.raw (stAt 1 [5])) (.cons (.asnt 8 ⟨28, 4, 28, 6⟩ 9 ⟨28, 8, 28, 9⟩ ⟨28, 4, 28, 9⟩ (.call 2 (.cons (.bin .RShift (.var 0 ⟨28, 21, 28, 22⟩) (.var 2 ⟨28, 26, 28, 27⟩) ⟨28, 21, 28, 27⟩) (.cons (.bin .BitAnd (.bin .RShift (.var 0 ⟨28, 29, 28, 30⟩) (.var 4 ⟨28, 34, 28, 40⟩) ⟨28, 29, 28, 40⟩) (.var 5 ⟨28, 43, 28, 47⟩) ⟨28, 29, 28, 47⟩) (.cons (.var 1 ⟨28, 49, 28, 50⟩) (.cons (.var 6 ⟨28, 52, 28, 54⟩) (.cons (.var 7 ⟨28, 56, 28, 58⟩) (.cons (.var 4 ⟨28, 60, 28, 66⟩) .nil)))))) ⟨28, 12, 28, 20⟩ ⟨28, 12, 28, 67⟩) ⟨28, 4, 28, 67⟩) (.cons (.asnt 10 ⟨29, 4, 29, 6⟩ 9 ⟨29, 8, 29, 9⟩ ⟨29, 4, 29, 9⟩ (.call 2 (.cons (.var 9 ⟨29, 21, 29, 22⟩) (.cons (.bin .BitAnd (.var 0 ⟨29, 24, 29, 25⟩) (.var 5 ⟨29, 28, 29, 32⟩) ⟨29, 24, 29, 32⟩) (.cons (.var 1 ⟨29, 34, 29, 35⟩) (.cons (.var 6 ⟨29, 37, 29, 39⟩) (.cons (.var 7 ⟨29, 41, 29, 43⟩) (.cons (.var 4 ⟨29, 45, 29, 51⟩) .nil)))))) ⟨29, 12, 29, 20⟩ ⟨29, 12, 29, 52⟩) ⟨29, 4, 29, 52⟩) (.cons (.ife (.var 3 ⟨30, 7, 30, 10⟩) (.cons (.raw (stAt 1 [8, 0, 0])) .nil) .nil ⟨30, 4, 31, 15⟩) (.cons (.ret (.tup (.cons (.bin .BitOr (.bin .LShift (.var 8 ⟨32, 12, 32, 14⟩) (.var 4 ⟨32, 18, 32, 24⟩) ⟨32, 12, 32, 24⟩) (.var 10 ⟨32, 27, 32, 29⟩) ⟨32, 12, 32, 29⟩) (.cons (.var 9 ⟨32, 31, 32, 32⟩) .nil)) ⟨32, 11, 32, 33⟩) ⟨32, 4, 32, 33⟩) .nil))))))))))
noncomputable def body3 : Y := (.cons (.asnc 2 ⟨44, 4, 44, 12⟩ (.bin .Mult (.lst (.cons (.num 0 ⟨44, 16, 44, 17⟩) .nil) ⟨44, 15, 44, 18⟩) (.bin .FloorDiv (.bin .Sub (.bin .Add (.meth .bitlen (.var 0 ⟨44, 23, 44, 24⟩) .nil ⟨44, 23, 44, 35⟩ ⟨44, 23, 44, 37⟩) (.cvar 1 ⟨44, 40, 44, 41⟩) ⟨44, 23, 44, 41⟩) (.num 1 ⟨44, 44, 44, 45⟩) ⟨44, 23, 44, 45⟩) (.cvar 1 ⟨44, 50, 44, 51⟩) ⟨44, 22, 44, 51⟩) ⟨44, 15, 44, 52⟩) ⟨44, 4, 44, 52⟩) (.cons (.defn 17 3 ⟨46, 4, 55, 28⟩) (.cons (.ife (.var 0 ⟨56, 7, 56, 8⟩) (.cons (.ex (.ccall 3 (.cons (.var 0 ⟨57, 14, 57, 15⟩) (.cons (.num 0 ⟨57, 17, 57, 18⟩) (.cons (.bfn .len (.cons (.cvar 2 ⟨57, 24, 57, 32⟩) .nil) ⟨57, 20, 57, 23⟩ ⟨57, 20, 57, 33⟩) .nil))) ⟨57, 8, 57, 13⟩ ⟨57, 8, 57, 34⟩) ⟨57, 8, 57, 34⟩) .nil) .nil ⟨56, 4, 57, 34⟩) (.cons (.ret (.cvar 2 ⟨58, 11, 58, 19⟩) ⟨58, 4, 58, 19⟩) .nil))))
noncomputable def body4 : Y := (.cons (.defn 18 2 ⟨61, 4, 66, 55⟩) (.cons (.ret (.ifx (.cvar 0 ⟨67, 36, 67, 42⟩) (.ccall 2 (.cons (.num 0 ⟨67, 17, 67, 18⟩) (.cons (.bfn .len (.cons (.cvar 0 ⟨67, 24, 67, 30⟩) .nil) ⟨67, 20, 67, 23⟩ ⟨67, 20, 67, 31⟩) .nil)) ⟨67, 11, 67, 16⟩ ⟨67, 11, 67, 32⟩) (.num 0 ⟨67, 48, 67, 49⟩) ⟨67, 11, 67, 49⟩) ⟨67, 4, 67, 49⟩) .nil))
noncomputable def body5 : Y := (.cons (.asn 2 ⟨69, 4, 69, 5⟩ (.meth .bitlen (.var 1 ⟨69, 8, 69, 9⟩) .nil ⟨69, 8, 69, 20⟩ ⟨69, 8, 69, 22⟩) ⟨69, 4, 69, 22⟩) (.cons (.asn 3 ⟨70, 4, 70, 12⟩ (.call 3 (.cons (.var 0 ⟨70, 27, 70, 28⟩) (.cons (.var 2 ⟨70, 30, 70, 31⟩) .nil)) ⟨70, 15, 70, 26⟩ ⟨70, 15, 70, 32⟩) ⟨70, 4, 70, 32⟩) (.cons (.asn 4 ⟨71, 4, 71, 5⟩ (.num 0 ⟨71, 8, 71, 9⟩) ⟨71, 4, 71, 9⟩) (.cons (.asn 5 ⟨72, 4, 72, 12⟩ (.lst .nil ⟨72, 15, 72, 17⟩) ⟨72, 4, 72, 17⟩) (.cons (.for_ false 6 ⟨73, 8, 73, 15⟩ (.rev (.var 3 ⟨73, 28, 73, 36⟩) ⟨73, 19, 73, 27⟩ ⟨73, 19, 73, 37⟩) (.cons (.asnt 7 ⟨74, 8, 74, 15⟩ 4 ⟨74, 17, 74, 18⟩ ⟨74, 8, 74, 18⟩ (.call 1 (.cons (.bin .Add (.bin .LShift (.var 4 ⟨74, 31, 74, 32⟩) (.var 2 ⟨74, 36, 74, 37⟩) ⟨74, 31, 74, 37⟩) (.var 6 ⟨74, 41, 74, 48⟩) ⟨74, 30, 74, 48⟩) (.cons (.var 1 ⟨74, 50, 74, 51⟩) (.cons (.var 2 ⟨74, 53, 74, 54⟩) .nil))) ⟨74, 21, 74, 29⟩ ⟨74, 21, 74, 55⟩) ⟨74, 8, 74, 55⟩) (.cons (.ex (.meth .append (.var 5 ⟨75, 8, 75, 16⟩) (.cons (.var 7 ⟨75, 24, 75, 31⟩) .nil) ⟨75, 8, 75, 23⟩ ⟨75, 8, 75, 32⟩) ⟨75, 8, 75, 32⟩) .nil)) .nil ⟨73, 4, 75, 32⟩) (.cons (.ex (.meth .reverse (.var 5 ⟨76, 4, 76, 12⟩) .nil ⟨76, 4, 76, 20⟩ ⟨76, 4, 76, 22⟩) ⟨76, 4, 76, 22⟩) (.cons (.asn 8 ⟨77, 4, 77, 5⟩ (.call 4 (.cons (.var 5 ⟨77, 20, 77, 28⟩) (.cons (.var 2 ⟨77, 30, 77, 31⟩) .nil)) ⟨77, 8, 77, 19⟩ ⟨77, 8, 77, 32⟩) ⟨77, 4, 77, 32⟩) (.cons (.ret (.tup (.cons (.var 8 ⟨78, 12, 78, 13⟩) (.cons (.var 4 ⟨78, 15, 78, 16⟩) .nil)) ⟨78, 11, 78, 17⟩) ⟨78, 4, 78, 17⟩) .nil))))))))
noncomputable def body6 : Y := (.cons (.ife (.cmp .Eq (.var 1 ⟨80, 7, 80, 8⟩) (.num 0 ⟨80, 12, 80, 13⟩) ⟨80, 7, 80, 13⟩) (.cons (.raw (stAt 6 [0, 0, 0])) .nil) (.cons (.ife (.cmp .Lt (.var 1 ⟨82, 9, 82, 10⟩) (.num 0 ⟨82, 13, 82, 14⟩) ⟨82, 9, 82, 14⟩) (.cons (.raw (stAt 6 [0, 1, 0, 0, 0])) (.cons (.raw (stAt 6 [0, 1, 0, 0, 1])) .nil)) (.cons (.ife (.cmp .Lt (.var 0 ⟨85, 9, 85, 10⟩) (.num 0 ⟨85, 13, 85, 14⟩) ⟨85, 9, 85, 14⟩) (.cons (.raw (stAt 6 [0, 1, 0, 1, 0, 0, 0])) (.cons (.raw (stAt 6 [0, 1, 0, 1, 0, 0, 1])) .nil)) (.cons (.ret (.call 5 (.cons (.var 0 ⟨89, 27, 89, 28⟩) (.cons (.var 1 ⟨89, 30, 89, 31⟩) .nil)) ⟨89, 15, 89, 26⟩ ⟨89, 15, 89, 32⟩) ⟨89, 8, 89, 32⟩) .nil) ⟨85, 4, 89, 32⟩) .nil) ⟨82, 4, 89, 32⟩) .nil) ⟨80, 4, 89, 32⟩) .nil)
noncomputable def body7 : Y := (.cons (.asn 1 ⟨93, 4, 93, 9⟩ (.lst .nil ⟨93, 12, 93, 14⟩) ⟨93, 4, 93, 14⟩) (.cons (.for_ false 2 ⟨94, 8, 94, 9⟩ (.rng (.cons (.num 32 ⟨94, 19, 94, 21⟩) .nil) ⟨94, 13, 94, 18⟩ ⟨94, 13, 94, 22⟩) (.cons (.asn 3 ⟨95, 8, 95, 12⟩ (.bin .LShift (.num 1 ⟨95, 15, 95, 16⟩) (.var 2 ⟨95, 20, 95, 21⟩) ⟨95, 15, 95, 21⟩) ⟨95, 8, 95, 21⟩) (.cons (.ife (.bin .BitAnd (.var 0 ⟨96, 11, 96, 16⟩) (.var 3 ⟨96, 19, 96, 23⟩) ⟨96, 11, 96, 23⟩) (.cons (.ex (.meth .append (.var 1 ⟨97, 12, 97, 17⟩) (.cons (.meth .dget (.gdict 0 ⟨97, 25, 97, 44⟩) (.cons (.var 3 ⟨97, 49, 97, 53⟩) (.cons (.bfn .hex (.cons (.var 3 ⟨97, 59, 97, 63⟩) .nil) ⟨97, 55, 97, 58⟩ ⟨97, 55, 97, 64⟩) .nil)) ⟨97, 25, 97, 48⟩ ⟨97, 25, 97, 65⟩) .nil) ⟨97, 12, 97, 24⟩ ⟨97, 12, 97, 66⟩) ⟨97, 12, 97, 66⟩) (.cons (.aug .BitXor 0 ⟨98, 12, 98, 17⟩ (.var 3 ⟨98, 21, 98, 25⟩) ⟨98, 12, 98, 25⟩) (.cons (.ife (.not (.var 0 ⟨99, 19, 99, 24⟩) ⟨99, 15, 99, 24⟩) (.cons (.brk ⟨100, 16, 100, 21⟩) .nil) .nil ⟨99, 12, 100, 21⟩) .nil))) .nil ⟨96, 8, 100, 21⟩) .nil)) (.cons (.ex (.meth .append (.var 1 ⟨102, 8, 102, 13⟩) (.cons (.bfn .hex (.cons (.var 0 ⟨102, 25, 102, 30⟩) .nil) ⟨102, 21, 102, 24⟩ ⟨102, 21, 102, 31⟩) .nil) ⟨102, 8, 102, 20⟩ ⟨102, 8, 102, 32⟩) ⟨102, 8, 102, 32⟩) .nil) ⟨94, 4, 102, 32⟩) (.cons (.ret (.meth .join (.str ", " ⟨103, 11, 103, 15⟩) (.cons (.var 1 ⟨103, 21, 103, 26⟩) .nil) ⟨103, 11, 103, 20⟩ ⟨103, 11, 103, 27⟩) ⟨103, 4, 103, 27⟩) .nil)))
noncomputable def body8 : Y := (.cons (.asn 2 ⟨106, 4, 106, 9⟩ (.lst .nil ⟨106, 12, 106, 14⟩) ⟨106, 4, 106, 14⟩) (.cons (.asn 3 ⟨107, 4, 107, 9⟩ (.num 0 ⟨107, 12, 107, 13⟩) ⟨107, 4, 107, 13⟩) (.cons (.asn 4 ⟨108, 4, 108, 7⟩ (.str "ends" ⟨108, 10, 108, 16⟩) ⟨108, 4, 108, 16⟩) (.cons (.tryg 0 5 (.var 0 ⟨110, 40, 110, 43⟩) 6 4 (.cons (.asn 3 ⟨111, 12, 111, 17⟩ (.bin .Add (.var 3 ⟨111, 20, 111, 25⟩) (.var 5 ⟨111, 28, 111, 32⟩) ⟨111, 20, 111, 32⟩) ⟨111, 12, 111, 32⟩) (.cons (.ife (.cmp .Gt (.var 3 ⟨112, 15, 112, 20⟩) (.var 1 ⟨112, 23, 112, 27⟩) ⟨112, 15, 112, 27⟩) (.cons (.asn 4 ⟨113, 16, 113, 19⟩ (.str "goes on" ⟨113, 22, 113, 31⟩) ⟨113, 16, 113, 31⟩) (.cons (.brk ⟨114, 16, 114, 21⟩) .nil)) .nil ⟨112, 12, 114, 21⟩) (.cons (.ex (.meth .append (.var 2 ⟨115, 12, 115, 17⟩) (.cons (.var 3 ⟨115, 25, 115, 30⟩) .nil) ⟨115, 12, 115, 24⟩ ⟨115, 12, 115, 31⟩) ⟨115, 12, 115, 31⟩) .nil))) [⟨110, 12, 110, 16⟩, ⟨110, 20, 110, 39⟩, ⟨110, 20, 110, 44⟩, ⟨110, 8, 115, 31⟩, ⟨116, 11, 116, 21⟩, ⟨117, 8, 117, 11⟩, ⟨117, 14, 117, 17⟩, ⟨117, 18, 117, 23⟩, ⟨117, 14, 117, 24⟩, ⟨117, 8, 117, 24⟩, ⟨116, 4, 117, 24⟩, ⟨109, 4, 117, 24⟩]) (.cons (.ret (.tup (.cons (.var 2 ⟨118, 12, 118, 17⟩) (.cons (.var 4 ⟨118, 19, 118, 22⟩) .nil)) ⟨118, 11, 118, 23⟩) ⟨118, 4, 118, 23⟩) .nil)))))
noncomputable def body9 : Y := (.cons (.asn 4 ⟨120, 4, 120, 8⟩ (.bin .Add (.lst (.cons (.num 1 ⟨120, 12, 120, 13⟩) .nil) ⟨120, 11, 120, 14⟩) (.bin .Mult (.lst (.cons (.num 0 ⟨120, 18, 120, 19⟩) .nil) ⟨120, 17, 120, 20⟩) (.var 0 ⟨120, 23, 120, 27⟩) ⟨120, 17, 120, 27⟩) ⟨120, 11, 120, 27⟩) ⟨120, 4, 120, 27⟩) (.cons (.asn 5 ⟨121, 4, 121, 8⟩ (.bin .Add (.lst (.cons (.num 1 ⟨121, 12, 121, 13⟩) .nil) ⟨121, 11, 121, 14⟩) (.bin .Mult (.lst (.cons (.num 0 ⟨121, 18, 121, 19⟩) .nil) ⟨121, 17, 121, 20⟩) (.var 0 ⟨121, 23, 121, 27⟩) ⟨121, 17, 121, 27⟩) ⟨121, 11, 121, 27⟩) ⟨121, 4, 121, 27⟩) (.cons (.asn 6 ⟨122, 4, 122, 7⟩ (.sub (.call 8 (.cons (.lst (.cons (.num 1 ⟨122, 22, 122, 23⟩) (.cons (.num 2 ⟨122, 25, 122, 26⟩) (.cons (.num 0 ⟨122, 28, 122, 29⟩) (.cons (.num 127 ⟨122, 31, 122, 34⟩) .nil)))) ⟨122, 21, 122, 35⟩) (.cons (.var 0 ⟨122, 37, 122, 41⟩) .nil)) ⟨122, 10, 122, 20⟩ ⟨122, 10, 122, 42⟩) (.num 0 ⟨122, 43, 122, 44⟩) ⟨122, 10, 122, 45⟩) ⟨122, 4, 122, 45⟩) (.cons (.for_ false 7 ⟨123, 8, 123, 12⟩ (.rng (.cons (.num 1 ⟨123, 22, 123, 23⟩) (.cons (.bin .Add (.var 0 ⟨123, 25, 123, 29⟩) (.num 1 ⟨123, 32, 123, 33⟩) ⟨123, 25, 123, 33⟩) .nil)) ⟨123, 16, 123, 21⟩ ⟨123, 16, 123, 34⟩) (.cons (.asn 8 ⟨124, 8, 124, 12⟩ (.bin .Mod (.bin .Add (.var 3 ⟨124, 16, 124, 20⟩) (.bin .FloorDiv (.var 7 ⟨124, 23, 124, 27⟩) (.num 2 ⟨124, 31, 124, 32⟩) ⟨124, 23, 124, 32⟩) ⟨124, 16, 124, 32⟩) (.num 3 ⟨124, 36, 124, 37⟩) ⟨124, 15, 124, 37⟩) ⟨124, 8, 124, 37⟩) (.cons (.ife (.cmp .In (.var 7 ⟨125, 11, 125, 15⟩) (.var 6 ⟨125, 19, 125, 22⟩) ⟨125, 11, 125, 22⟩) (.cons (.asn 9 ⟨126, 12, 126, 19⟩ (.ifx (.cmp .Eq (.var 8 ⟨126, 43, 126, 47⟩) (.num 1 ⟨126, 51, 126, 52⟩) ⟨126, 43, 126, 52⟩) (.bin .Add (.num 1 ⟨126, 22, 126, 23⟩) (.bin .Mod (.bin .FloorDiv (.var 3 ⟨126, 26, 126, 30⟩) (.num 3 ⟨126, 34, 126, 35⟩) ⟨126, 26, 126, 35⟩) (.num 3 ⟨126, 38, 126, 39⟩) ⟨126, 26, 126, 39⟩) ⟨126, 22, 126, 39⟩) (.bin .FloorDiv (.var 0 ⟨126, 58, 126, 62⟩) (.var 7 ⟨126, 66, 126, 70⟩) ⟨126, 58, 126, 70⟩) ⟨126, 22, 126, 70⟩) ⟨126, 12, 126, 70⟩) (.cons (.asn 10 ⟨127, 12, 127, 15⟩ (.sub (.lst (.cons (.str "ends" ⟨127, 19, 127, 25⟩) (.cons (.str "goes on" ⟨127, 27, 127, 36⟩) (.cons (.str "ends" ⟨127, 38, 127, 44⟩) .nil))) ⟨127, 18, 127, 45⟩) (.var 8 ⟨127, 46, 127, 50⟩) ⟨127, 18, 127, 51⟩) ⟨127, 12, 127, 51⟩) .nil)) (.cons (.asn 9 ⟨129, 12, 129, 19⟩ (.num 0 ⟨129, 22, 129, 23⟩) ⟨129, 12, 129, 23⟩) (.cons (.asn 10 ⟨130, 12, 130, 15⟩ (.sub (.lst (.cons (.str "ends" ⟨130, 19, 130, 25⟩) (.cons (.str "invalid grouping" ⟨130, 27, 130, 45⟩) (.cons (.str "ends" ⟨130, 47, 130, 53⟩) .nil))) ⟨130, 18, 130, 54⟩) (.var 8 ⟨130, 55, 130, 59⟩) ⟨130, 18, 130, 60⟩) ⟨130, 12, 130, 60⟩) .nil)) ⟨125, 8, 130, 60⟩) (.cons (.asnt 11 ⟨131, 8, 131, 13⟩ 12 ⟨131, 15, 131, 18⟩ ⟨131, 8, 131, 18⟩ (.call 8 (.cons (.bin .Add (.bin .Mult (.lst (.cons (.var 7 ⟨131, 33, 131, 37⟩) .nil) ⟨131, 32, 131, 38⟩) (.var 9 ⟨131, 41, 131, 48⟩) ⟨131, 32, 131, 48⟩) (.sub (.lst (.cons (.lst .nil ⟨131, 52, 131, 54⟩) (.cons (.lst (.cons (.num 0 ⟨131, 57, 131, 58⟩) (.cons (.num 127 ⟨131, 60, 131, 63⟩) .nil)) ⟨131, 56, 131, 64⟩) (.cons (.lst (.cons (.num 127 ⟨131, 67, 131, 70⟩) (.cons (.num 1 ⟨131, 72, 131, 73⟩) .nil)) ⟨131, 66, 131, 74⟩) .nil))) ⟨131, 51, 131, 75⟩) (.var 8 ⟨131, 76, 131, 80⟩) ⟨131, 51, 131, 81⟩) ⟨131, 32, 131, 81⟩) (.cons (.var 0 ⟨131, 83, 131, 87⟩) .nil)) ⟨131, 21, 131, 31⟩ ⟨131, 21, 131, 88⟩) ⟨131, 8, 131, 88⟩) (.cons (.ife (.cmp .NotEq (.var 12 ⟨132, 11, 132, 14⟩) (.var 10 ⟨132, 18, 132, 21⟩) ⟨132, 11, 132, 21⟩) (.cons (.ret (.lst .nil ⟨133, 19, 133, 21⟩) ⟨133, 12, 133, 21⟩) .nil) .nil ⟨132, 8, 133, 21⟩) (.cons (.asn 13 ⟨134, 8, 134, 13⟩ (.listOf (.var 5 ⟨134, 21, 134, 25⟩) ⟨134, 16, 134, 20⟩ ⟨134, 16, 134, 26⟩) ⟨134, 8, 134, 26⟩) (.cons (.asn 14 ⟨135, 8, 135, 14⟩ (.var 1 ⟨135, 17, 135, 22⟩) ⟨135, 8, 135, 22⟩) (.cons (.for_ false 15 ⟨136, 12, 136, 17⟩ (.var 11 ⟨136, 21, 136, 26⟩) (.cons (.asn 14 ⟨137, 12, 137, 18⟩ (.bin .Mult (.var 14 ⟨137, 21, 137, 27⟩) (.var 2 ⟨137, 30, 137, 34⟩) ⟨137, 21, 137, 34⟩) ⟨137, 12, 137, 34⟩) (.cons (.for_ false 16 ⟨138, 16, 138, 21⟩ (.rng (.cons (.bin .Add (.bin .Sub (.var 0 ⟨138, 31, 138, 35⟩) (.var 15 ⟨138, 38, 138, 43⟩) ⟨138, 31, 138, 43⟩) (.num 1 ⟨138, 46, 138, 47⟩) ⟨138, 31, 138, 47⟩) .nil) ⟨138, 25, 138, 30⟩ ⟨138, 25, 138, 48⟩) (.cons (.asn 17 ⟨139, 16, 139, 21⟩ (.bin .Mult (.var 14 ⟨139, 24, 139, 30⟩) (.sub (.var 5 ⟨139, 33, 139, 37⟩) (.var 16 ⟨139, 38, 139, 43⟩) ⟨139, 33, 139, 44⟩) ⟨139, 24, 139, 44⟩) ⟨139, 16, 139, 44⟩) (.cons (.asns (.var 13 ⟨140, 16, 140, 21⟩) (.bin .Add (.var 16 ⟨140, 22, 140, 27⟩) (.var 15 ⟨140, 30, 140, 35⟩) ⟨140, 22, 140, 35⟩) ⟨140, 16, 140, 36⟩ (.bin .Add (.sub (.var 13 ⟨140, 39, 140, 44⟩) (.bin .Add (.var 16 ⟨140, 45, 140, 50⟩) (.var 15 ⟨140, 53, 140, 58⟩) ⟨140, 45, 140, 58⟩) ⟨140, 39, 140, 59⟩) (.var 17 ⟨140, 62, 140, 67⟩) ⟨140, 39, 140, 67⟩) ⟨140, 16, 140, 67⟩) (.cons (.asns (.var 4 ⟨141, 16, 141, 20⟩) (.bin .Add (.var 16 ⟨141, 21, 141, 26⟩) (.var 15 ⟨141, 29, 141, 34⟩) ⟨141, 21, 141, 34⟩) ⟨141, 16, 141, 35⟩ (.bin .Add (.sub (.var 4 ⟨141, 38, 141, 42⟩) (.bin .Add (.var 16 ⟨141, 43, 141, 48⟩) (.var 15 ⟨141, 51, 141, 56⟩) ⟨141, 43, 141, 56⟩) ⟨141, 38, 141, 57⟩) (.bin .Mult (.var 17 ⟨141, 60, 141, 65⟩) (.bin .Pow (.var 2 ⟨141, 68, 141, 72⟩) (.bin .FloorDiv (.var 7 ⟨141, 77, 141, 81⟩) (.num 2 ⟨141, 85, 141, 86⟩) ⟨141, 77, 141, 86⟩) ⟨141, 68, 141, 87⟩) ⟨141, 60, 141, 87⟩) ⟨141, 38, 141, 87⟩) ⟨141, 16, 141, 87⟩) .nil))) .nil ⟨138, 12, 141, 87⟩) .nil)) .nil ⟨136, 8, 141, 87⟩) (.cons (.asn 5 ⟨142, 8, 142, 12⟩ (.var 13 ⟨142, 15, 142, 20⟩) ⟨142, 8, 142, 20⟩) .nil)))))))) .nil ⟨123, 4, 142, 20⟩) (.cons (.ret (.var 4 ⟨143, 11, 143, 15⟩) ⟨143, 4, 143, 15⟩) .nil)))))
noncomputable def body10 : Y := (.cons (.asn 4 ⟨145, 4, 145, 9⟩ (.num 1 ⟨145, 12, 145, 13⟩) ⟨145, 4, 145, 13⟩) (.cons (.asn 5 ⟨146, 4, 146, 8⟩ (.num 1 ⟨146, 11, 146, 12⟩) ⟨146, 4, 146, 12⟩) (.cons (.asn 6 ⟨147, 4, 147, 9⟩ (.num 1 ⟨147, 12, 147, 13⟩) ⟨147, 4, 147, 13⟩) (.cons (.for_ false 7 ⟨148, 8, 148, 12⟩ (.rng (.cons (.num 1 ⟨148, 22, 148, 23⟩) (.cons (.bin .Add (.var 0 ⟨148, 25, 148, 29⟩) (.num 1 ⟨148, 32, 148, 33⟩) ⟨148, 25, 148, 33⟩) (.cons (.num 2 ⟨148, 35, 148, 36⟩) .nil))) ⟨148, 16, 148, 21⟩ ⟨148, 16, 148, 37⟩) (.cons (.asn 8 ⟨149, 8, 149, 13⟩ (.bin .LShift (.num 1 ⟨149, 16, 149, 17⟩) (.bin .Mult (.var 3 ⟨149, 21, 149, 26⟩) (.var 7 ⟨149, 29, 149, 33⟩) ⟨149, 21, 149, 33⟩) ⟨149, 16, 149, 33⟩) ⟨149, 8, 149, 33⟩) (.cons (.asn 4 ⟨150, 8, 150, 13⟩ (.bin .Add (.bin .Mult (.var 4 ⟨150, 16, 150, 21⟩) (.bin .Sub (.var 8 ⟨150, 25, 150, 30⟩) (.var 2 ⟨150, 33, 150, 37⟩) ⟨150, 25, 150, 37⟩) ⟨150, 16, 150, 38⟩) (.bin .Mult (.bin .Mult (.var 5 ⟨150, 41, 150, 45⟩) (.var 1 ⟨150, 48, 150, 53⟩) ⟨150, 41, 150, 53⟩) (.bin .Pow (.var 2 ⟨150, 56, 150, 60⟩) (.bin .Add (.bin .FloorDiv (.var 7 ⟨150, 65, 150, 69⟩) (.num 2 ⟨150, 73, 150, 74⟩) ⟨150, 65, 150, 74⟩) (.num 1 ⟨150, 77, 150, 78⟩) ⟨150, 65, 150, 78⟩) ⟨150, 56, 150, 79⟩) ⟨150, 41, 150, 79⟩) ⟨150, 16, 150, 79⟩) ⟨150, 8, 150, 79⟩) (.cons (.asn 5 ⟨151, 8, 151, 12⟩ (.bin .Mult (.var 5 ⟨151, 15, 151, 19⟩) (.bin .Add (.bin .Sub (.var 8 ⟨151, 23, 151, 28⟩) (.var 2 ⟨151, 31, 151, 35⟩) ⟨151, 23, 151, 35⟩) (.bin .Mult (.var 1 ⟨151, 38, 151, 43⟩) (.var 2 ⟨151, 46, 151, 50⟩) ⟨151, 38, 151, 50⟩) ⟨151, 23, 151, 50⟩) ⟨151, 15, 151, 51⟩) ⟨151, 8, 151, 51⟩) (.cons (.asn 6 ⟨152, 8, 152, 13⟩ (.bin .Mult (.var 6 ⟨152, 16, 152, 21⟩) (.bin .Sub (.var 8 ⟨152, 25, 152, 30⟩) (.var 2 ⟨152, 33, 152, 37⟩) ⟨152, 25, 152, 37⟩) ⟨152, 16, 152, 38⟩) ⟨152, 8, 152, 38⟩) .nil)))) .nil ⟨148, 4, 152, 38⟩) (.cons (.asn 9 ⟨153, 4, 153, 8⟩ (.bin .FloorDiv (.var 0 ⟨153, 11, 153, 15⟩) (.num 2 ⟨153, 19, 153, 20⟩) ⟨153, 11, 153, 20⟩) ⟨153, 4, 153, 20⟩) (.cons (.asnt 10 ⟨154, 4, 154, 12⟩ 11 ⟨154, 14, 154, 18⟩ ⟨154, 4, 154, 18⟩ (.call 6 (.cons (.bin .LShift (.var 4 ⟨154, 32, 154, 37⟩) (.bin .Mult (.var 3 ⟨154, 41, 154, 46⟩) (.var 9 ⟨154, 49, 154, 53⟩) ⟨154, 41, 154, 53⟩) ⟨154, 32, 154, 53⟩) (.cons (.var 6 ⟨154, 55, 154, 60⟩) .nil)) ⟨154, 21, 154, 31⟩ ⟨154, 21, 154, 61⟩) ⟨154, 4, 154, 61⟩) (.cons (.asn 12 ⟨155, 4, 155, 11⟩ (.sub (.call 6 (.cons (.bin .LShift (.var 11 ⟨155, 25, 155, 29⟩) (.bin .Mult (.var 3 ⟨155, 33, 155, 38⟩) (.bin .Sub (.var 0 ⟨155, 42, 155, 46⟩) (.var 9 ⟨155, 49, 155, 53⟩) ⟨155, 42, 155, 53⟩) ⟨155, 33, 155, 54⟩) ⟨155, 25, 155, 54⟩) (.cons (.var 6 ⟨155, 56, 155, 61⟩) .nil)) ⟨155, 14, 155, 24⟩ ⟨155, 14, 155, 62⟩) (.num 0 ⟨155, 63, 155, 64⟩) ⟨155, 14, 155, 65⟩) ⟨155, 4, 155, 65⟩) (.cons (.ret (.bin .Add (.listRev (.call 3 (.cons (.var 10 ⟨156, 37, 156, 45⟩) (.cons (.var 3 ⟨156, 47, 156, 52⟩) .nil)) ⟨156, 25, 156, 36⟩ ⟨156, 25, 156, 53⟩) ⟨156, 16, 156, 24⟩ ⟨156, 16, 156, 54⟩ ⟨156, 11, 156, 15⟩ ⟨156, 11, 156, 55⟩) (.listRev (.call 3 (.cons (.var 12 ⟨156, 84, 156, 91⟩) (.cons (.var 3 ⟨156, 93, 156, 98⟩) .nil)) ⟨156, 72, 156, 83⟩ ⟨156, 72, 156, 99⟩) ⟨156, 63, 156, 71⟩ ⟨156, 63, 156, 100⟩ ⟨156, 58, 156, 62⟩ ⟨156, 58, 156, 101⟩) ⟨156, 11, 156, 101⟩) ⟨156, 4, 156, 101⟩) .nil))))))))
noncomputable def body11 : Y := (.cons (.asnc 3 ⟨158, 4, 158, 9⟩ (.lst (.cons (.str "OPTIMIZED" ⟨158, 13, 158, 24⟩) (.cons (.str "NEWLOCALS" ⟨158, 26, 158, 37⟩) (.cons (.str "VARARGS" ⟨158, 39, 158, 48⟩) (.cons (.str "VARKEYWORDS" ⟨158, 50, 158, 63⟩) (.cons (.str "NESTED" ⟨158, 65, 158, 73⟩) (.cons (.str "GENERATOR" ⟨158, 75, 158, 86⟩) (.cons (.str "NOFREE" ⟨158, 88, 158, 96⟩) (.cons (.str "COROUTINE" ⟨158, 98, 158, 109⟩) (.cons (.str "ITERABLE_COROUTINE" ⟨158, 111, 158, 131⟩) (.cons (.str "ASYNC_GENERATOR" ⟨158, 133, 158, 150⟩) .nil)))))))))) ⟨158, 12, 158, 151⟩) ⟨158, 4, 158, 151⟩) (.cons (.asn 5 ⟨159, 4, 159, 8⟩ (.bin .Add (.lst (.cons (.lst (.cons (.num 0 ⟨159, 13, 159, 14⟩) .nil) ⟨159, 12, 159, 15⟩) .nil) ⟨159, 11, 159, 16⟩) (.comp 13 [] (.lst .nil ⟨159, 20, 159, 22⟩) 1 ⟨159, 27, 159, 32⟩ (.rng (.cons (.var 0 ⟨159, 42, 159, 46⟩) .nil) ⟨159, 36, 159, 41⟩ ⟨159, 36, 159, 47⟩) .nil ⟨159, 19, 159, 48⟩) ⟨159, 11, 159, 48⟩) ⟨159, 4, 159, 48⟩) (.cons (.for_ true 6 ⟨160, 8, 160, 12⟩ (.rng (.cons (.num 1 ⟨160, 22, 160, 23⟩) (.cons (.bin .Add (.var 0 ⟨160, 25, 160, 29⟩) (.num 1 ⟨160, 32, 160, 33⟩) ⟨160, 25, 160, 33⟩) .nil)) ⟨160, 16, 160, 21⟩ ⟨160, 16, 160, 34⟩) (.cons (.for_ false 4 ⟨161, 12, 161, 17⟩ (.rng (.cons (.var 0 ⟨161, 27, 161, 31⟩) (.cons (.bin .Sub (.cvar 6 ⟨161, 33, 161, 37⟩) (.num 1 ⟨161, 40, 161, 41⟩) ⟨161, 33, 161, 41⟩) (.cons (.neg 1 ⟨161, 44, 161, 45⟩ ⟨161, 43, 161, 45⟩) .nil))) ⟨161, 21, 161, 26⟩ ⟨161, 21, 161, 46⟩) (.cons (.asns (.var 5 ⟨162, 12, 162, 16⟩) (.var 4 ⟨162, 17, 162, 22⟩) ⟨162, 12, 162, 23⟩ (.bin .Add (.sub (.var 5 ⟨162, 26, 162, 30⟩) (.var 4 ⟨162, 31, 162, 36⟩) ⟨162, 26, 162, 37⟩) (.comp 14 [(2, 6)] (.bin .Add (.var 1 ⟨162, 41, 162, 46⟩) (.bin .LShift (.num 1 ⟨162, 50, 162, 51⟩) (.bin .Sub (.cvar 2 ⟨162, 55, 162, 59⟩) (.num 1 ⟨162, 62, 162, 63⟩) ⟨162, 55, 162, 63⟩) ⟨162, 50, 162, 63⟩) ⟨162, 41, 162, 64⟩) 1 ⟨162, 69, 162, 74⟩ (.sub (.var 5 ⟨162, 78, 162, 82⟩) (.bin .Sub (.var 4 ⟨162, 83, 162, 88⟩) (.cvar 6 ⟨162, 91, 162, 95⟩) ⟨162, 83, 162, 95⟩) ⟨162, 78, 162, 96⟩) .nil ⟨162, 40, 162, 97⟩) ⟨162, 26, 162, 97⟩) ⟨162, 12, 162, 97⟩) .nil) .nil ⟨161, 8, 162, 97⟩) .nil) .nil ⟨160, 4, 162, 97⟩) (.cons (.asn 8 ⟨163, 4, 163, 8⟩ (.lst .nil ⟨163, 11, 163, 13⟩) ⟨163, 4, 163, 13⟩) (.cons (.for_ false 4 ⟨164, 8, 164, 13⟩ (.rng (.cons (.bin .Add (.var 0 ⟨164, 23, 164, 27⟩) (.num 1 ⟨164, 30, 164, 31⟩) ⟨164, 23, 164, 31⟩) .nil) ⟨164, 17, 164, 22⟩ ⟨164, 17, 164, 32⟩) (.cons (.asn 9 ⟨165, 8, 165, 13⟩ (.num 0 ⟨165, 16, 165, 17⟩) ⟨165, 8, 165, 17⟩) (.cons (.for_ false 7 ⟨166, 12, 166, 17⟩ (.sub (.var 5 ⟨166, 21, 166, 25⟩) (.var 4 ⟨166, 26, 166, 31⟩) ⟨166, 21, 166, 32⟩) (.cons (.asn 10 ⟨167, 12, 167, 17⟩ (.meth .split (.call 7 (.cons (.var 7 ⟨167, 33, 167, 38⟩) .nil) ⟨167, 20, 167, 32⟩ ⟨167, 20, 167, 39⟩) (.cons (.str ", " ⟨167, 46, 167, 50⟩) .nil) ⟨167, 20, 167, 45⟩ ⟨167, 20, 167, 51⟩) ⟨167, 12, 167, 51⟩) (.cons (.asnc 11 ⟨168, 12, 168, 17⟩ (.comp 15 [(2, 3)] (.bin .Add (.num 1 ⟨168, 21, 168, 22⟩) (.meth .index (.cvar 2 ⟨168, 25, 168, 30⟩) (.cons (.var 1 ⟨168, 37, 168, 41⟩) .nil) ⟨168, 25, 168, 36⟩ ⟨168, 25, 168, 42⟩) ⟨168, 21, 168, 42⟩) 1 ⟨168, 47, 168, 51⟩ (.var 10 ⟨168, 55, 168, 60⟩) (.cons (.cmp .In (.var 1 ⟨168, 64, 168, 68⟩) (.cvar 2 ⟨168, 72, 168, 77⟩) ⟨168, 64, 168, 77⟩) .nil) ⟨168, 20, 168, 78⟩) ⟨168, 12, 168, 78⟩) (.cons (.ife (.or (.cons (.cmp .NotEq (.bfn .len (.cons (.cvar 11 ⟨169, 19, 169, 24⟩) .nil) ⟨169, 15, 169, 18⟩ ⟨169, 15, 169, 25⟩) (.ifx (.cmp .Eq (.var 10 ⟨169, 35, 169, 40⟩) (.lst (.cons (.str "0x0" ⟨169, 45, 169, 50⟩) .nil) ⟨169, 44, 169, 51⟩) ⟨169, 35, 169, 51⟩) (.num 0 ⟨169, 30, 169, 31⟩) (.bfn .len (.cons (.var 10 ⟨169, 61, 169, 66⟩) .nil) ⟨169, 57, 169, 60⟩ ⟨169, 57, 169, 67⟩) ⟨169, 30, 169, 67⟩) ⟨169, 15, 169, 68⟩) (.cons (.cmp .NotEq (.bfn .sum (.cons (.cvar 11 ⟨169, 76, 169, 81⟩) .nil) ⟨169, 72, 169, 75⟩ ⟨169, 72, 169, 82⟩) (.var 4 ⟨169, 86, 169, 91⟩) ⟨169, 72, 169, 91⟩) (.cons (.cmp .NotEq (.cvar 11 ⟨169, 95, 169, 100⟩) (.bfn .sorted (.cons (.cvar 11 ⟨169, 111, 169, 116⟩) .nil) ⟨169, 104, 169, 110⟩ ⟨169, 104, 169, 117⟩) ⟨169, 95, 169, 117⟩) .nil))) ⟨169, 15, 169, 117⟩) (.cons (.ret (.lst .nil ⟨170, 23, 170, 25⟩) ⟨170, 16, 170, 25⟩) .nil) .nil ⟨169, 12, 170, 25⟩) (.cons (.asn 12 ⟨171, 12, 171, 16⟩ (.bfn .len (.cons (.comp 16 [(2, 11)] (.var 1 ⟨171, 24, 171, 28⟩) 1 ⟨171, 33, 171, 37⟩ (.cvar 11 ⟨171, 41, 171, 46⟩) (.cons (.cmp .NotIn (.bin .Sub (.var 1 ⟨171, 50, 171, 54⟩) (.num 1 ⟨171, 57, 171, 58⟩) ⟨171, 50, 171, 58⟩) (.cvar 2 ⟨171, 66, 171, 71⟩) ⟨171, 50, 171, 71⟩) .nil) ⟨171, 23, 171, 72⟩) .nil) ⟨171, 19, 171, 22⟩ ⟨171, 19, 171, 73⟩) ⟨171, 12, 171, 73⟩) (.cons (.asn 9 ⟨172, 12, 172, 17⟩ (.bin .Add (.var 9 ⟨172, 20, 172, 25⟩) (.bin .Mult (.bin .Pow (.var 1 ⟨172, 28, 172, 33⟩) (.var 12 ⟨172, 37, 172, 41⟩) ⟨172, 28, 172, 41⟩) (.bin .Pow (.var 2 ⟨172, 44, 172, 48⟩) (.bfn .max (.cons (.bin .Add (.lst (.cons (.num 0 ⟨172, 57, 172, 58⟩) .nil) ⟨172, 56, 172, 59⟩) (.cvar 11 ⟨172, 62, 172, 67⟩) ⟨172, 56, 172, 67⟩) .nil) ⟨172, 52, 172, 55⟩ ⟨172, 52, 172, 68⟩) ⟨172, 44, 172, 68⟩) ⟨172, 28, 172, 68⟩) ⟨172, 20, 172, 68⟩) ⟨172, 12, 172, 68⟩) .nil))))) .nil ⟨166, 8, 172, 68⟩) (.cons (.ex (.meth .append (.var 8 ⟨173, 8, 173, 12⟩) (.cons (.var 9 ⟨173, 20, 173, 25⟩) .nil) ⟨173, 8, 173, 19⟩ ⟨173, 8, 173, 26⟩) ⟨173, 8, 173, 26⟩) .nil))) .nil ⟨164, 4, 173, 26⟩) (.cons (.ret (.var 8 ⟨174, 11, 174, 15⟩) ⟨174, 4, 174, 15⟩) .nil))))))
noncomputable def body17 : Y := (.cons (.ife (.cmp .Eq (.bin .Add (.var 1 ⟨47, 11, 47, 12⟩) (.num 1 ⟨47, 15, 47, 16⟩) ⟨47, 11, 47, 16⟩) (.var 2 ⟨47, 20, 47, 21⟩) ⟨47, 11, 47, 21⟩) (.cons (.asns (.cvar 7 ⟨48, 12, 48, 20⟩) (.var 1 ⟨48, 21, 48, 22⟩) ⟨48, 12, 48, 23⟩ (.var 0 ⟨48, 26, 48, 27⟩) ⟨48, 12, 48, 27⟩) (.cons (.ret0 ⟨49, 12, 49, 18⟩) .nil)) .nil ⟨47, 8, 49, 18⟩) (.cons (.asn 3 ⟨50, 8, 50, 11⟩ (.bin .RShift (.bin .Add (.var 1 ⟨50, 14, 50, 15⟩) (.var 2 ⟨50, 18, 50, 19⟩) ⟨50, 14, 50, 19⟩) (.num 1 ⟨50, 23, 50, 24⟩) ⟨50, 14, 50, 24⟩) ⟨50, 8, 50, 24⟩) (.cons (.asn 4 ⟨51, 8, 51, 13⟩ (.bin .Mult (.bin .Sub (.var 3 ⟨51, 17, 51, 20⟩) (.var 1 ⟨51, 23, 51, 24⟩) ⟨51, 17, 51, 24⟩) (.cvar 9 ⟨51, 28, 51, 29⟩) ⟨51, 16, 51, 29⟩) ⟨51, 8, 51, 29⟩) (.cons (.asn 5 ⟨52, 8, 52, 13⟩ (.bin .RShift (.var 0 ⟨52, 16, 52, 17⟩) (.var 4 ⟨52, 21, 52, 26⟩) ⟨52, 16, 52, 26⟩) ⟨52, 8, 52, 26⟩) (.cons (.asn 6 ⟨53, 8, 53, 13⟩ (.bin .BitXor (.var 0 ⟨53, 16, 53, 17⟩) (.bin .LShift (.var 5 ⟨53, 20, 53, 25⟩) (.var 4 ⟨53, 29, 53, 34⟩) ⟨53, 20, 53, 34⟩) ⟨53, 16, 53, 34⟩) ⟨53, 8, 53, 34⟩) (.cons (.ex (.ccall 8 (.cons (.var 6 ⟨54, 14, 54, 19⟩) (.cons (.var 1 ⟨54, 21, 54, 22⟩) (.cons (.var 3 ⟨54, 24, 54, 27⟩) .nil))) ⟨54, 8, 54, 13⟩ ⟨54, 8, 54, 28⟩) ⟨54, 8, 54, 28⟩) (.cons (.ex (.ccall 8 (.cons (.var 5 ⟨55, 14, 55, 19⟩) (.cons (.var 3 ⟨55, 21, 55, 24⟩) (.cons (.var 2 ⟨55, 26, 55, 27⟩) .nil))) ⟨55, 8, 55, 13⟩ ⟨55, 8, 55, 28⟩) ⟨55, 8, 55, 28⟩) .nil)))))))
noncomputable def body18 : Y := (.cons (.ife (.cmp .Eq (.bin .Add (.var 0 ⟨62, 11, 62, 12⟩) (.num 1 ⟨62, 15, 62, 16⟩) ⟨62, 11, 62, 16⟩) (.var 1 ⟨62, 20, 62, 21⟩) ⟨62, 11, 62, 21⟩) (.cons (.ret (.sub (.cvar 4 ⟨63, 19, 63, 25⟩) (.var 0 ⟨63, 26, 63, 27⟩) ⟨63, 19, 63, 28⟩) ⟨63, 12, 63, 28⟩) .nil) .nil ⟨62, 8, 63, 28⟩) (.cons (.asn 2 ⟨64, 8, 64, 11⟩ (.bin .RShift (.bin .Add (.var 0 ⟨64, 14, 64, 15⟩) (.var 1 ⟨64, 18, 64, 19⟩) ⟨64, 14, 64, 19⟩) (.num 1 ⟨64, 23, 64, 24⟩) ⟨64, 14, 64, 24⟩) ⟨64, 8, 64, 24⟩) (.cons (.asn 3 ⟨65, 8, 65, 13⟩ (.bin .Mult (.bin .Sub (.var 2 ⟨65, 17, 65, 20⟩) (.var 0 ⟨65, 23, 65, 24⟩) ⟨65, 17, 65, 24⟩) (.cvar 6 ⟨65, 28, 65, 29⟩) ⟨65, 16, 65, 29⟩) ⟨65, 8, 65, 29⟩) (.cons (.ret (.bin .Add (.bin .LShift (.ccall 5 (.cons (.var 2 ⟨66, 22, 66, 25⟩) (.cons (.var 1 ⟨66, 27, 66, 28⟩) .nil)) ⟨66, 16, 66, 21⟩ ⟨66, 16, 66, 29⟩) (.var 3 ⟨66, 33, 66, 38⟩) ⟨66, 16, 66, 38⟩) (.ccall 5 (.cons (.var 0 ⟨66, 48, 66, 49⟩) (.cons (.var 2 ⟨66, 51, 66, 54⟩) .nil)) ⟨66, 42, 66, 47⟩ ⟨66, 42, 66, 55⟩) ⟨66, 15, 66, 55⟩) ⟨66, 8, 66, 55⟩) .nil))))
noncomputable def body12 : Y := (.cons (.asn 2 ⟨177, 4, 177, 8⟩ (.bin .Add (.num 4 ⟨177, 11, 177, 12⟩) (.bin .Mod (.sub (.var 1 ⟨177, 15, 177, 22⟩) (.num 0 ⟨177, 23, 177, 24⟩) ⟨177, 15, 177, 25⟩) (.num 7 ⟨177, 28, 177, 29⟩) ⟨177, 15, 177, 29⟩) ⟨177, 11, 177, 29⟩) ⟨177, 4, 177, 29⟩) (.cons (.asn 3 ⟨178, 4, 178, 9⟩ (.bin .Add (.num 2 ⟨178, 12, 178, 13⟩) (.bin .Mod (.sub (.var 1 ⟨178, 16, 178, 23⟩) (.num 1 ⟨178, 24, 178, 25⟩) ⟨178, 16, 178, 26⟩) (.num 29 ⟨178, 29, 178, 31⟩) ⟨178, 16, 178, 31⟩) ⟨178, 12, 178, 31⟩) ⟨178, 4, 178, 31⟩) (.cons (.asn 4 ⟨179, 4, 179, 8⟩ (.bin .Add (.num 2 ⟨179, 11, 179, 12⟩) (.bin .Mod (.sub (.var 1 ⟨179, 15, 179, 22⟩) (.num 2 ⟨179, 23, 179, 24⟩) ⟨179, 15, 179, 25⟩) (.num 11 ⟨179, 28, 179, 30⟩) ⟨179, 15, 179, 30⟩) ⟨179, 11, 179, 30⟩) ⟨179, 4, 179, 30⟩) (.cons (.asn 5 ⟨180, 4, 180, 8⟩ (.call 9 (.cons (.var 2 ⟨180, 26, 180, 30⟩) (.cons (.var 3 ⟨180, 32, 180, 37⟩) (.cons (.var 4 ⟨180, 39, 180, 43⟩) (.cons (.sub (.var 1 ⟨180, 45, 180, 52⟩) (.num 4 ⟨180, 53, 180, 54⟩) ⟨180, 45, 180, 55⟩) .nil)))) ⟨180, 11, 180, 25⟩ ⟨180, 11, 180, 56⟩) ⟨180, 4, 180, 56⟩) (.cons (.ife (.cmp .NotEq (.var 5 ⟨181, 7, 181, 11⟩) (.call 11 (.cons (.var 2 ⟨181, 29, 181, 33⟩) (.cons (.var 3 ⟨181, 35, 181, 40⟩) (.cons (.var 4 ⟨181, 42, 181, 46⟩) .nil))) ⟨181, 15, 181, 28⟩ ⟨181, 15, 181, 47⟩) ⟨181, 7, 181, 47⟩) (.cons (.raw (stAt 12 [5, 0, 0])) .nil) .nil ⟨181, 4, 182, 20⟩) (.cons (.ret (.cmp .Eq (.var 5 ⟨183, 11, 183, 15⟩) (.call 10 (.cons (.var 2 ⟨183, 36, 183, 40⟩) (.cons (.var 3 ⟨183, 42, 183, 47⟩) (.cons (.var 4 ⟨183, 49, 183, 53⟩) (.cons (.bin .Add (.num 64 ⟨183, 55, 183, 57⟩) (.bin .Mod (.sub (.var 1 ⟨183, 60, 183, 67⟩) (.num 3 ⟨183, 68, 183, 69⟩) ⟨183, 60, 183, 70⟩) (.num 30 ⟨183, 73, 183, 75⟩) ⟨183, 60, 183, 75⟩) ⟨183, 55, 183, 75⟩) .nil)))) ⟨183, 19, 183, 35⟩ ⟨183, 19, 183, 76⟩) ⟨183, 11, 183, 76⟩) ⟨183, 4, 183, 76⟩) .nil))))))
noncomputable def lawInn : Nat → Option Inn
  | 17 => some ⟨3, 7, body17, 1, 46, 4, [(7, 2), (8, 3), (9, 1)], "_int2digits.<locals>.inner", 3⟩
  | 18 => some ⟨2, 5, body18, 0, 61, 4, [(4, 0), (5, 2), (6, 1)], "_digits2int.<locals>.inner", 4⟩
  | _ => none
noncomputable def lawFn : Nat → Option Fn
  | 1 => some (.prog 3 11 [] body1)
  | 3 => some (.prog 2 3 [1, 2, 3] body3)
  | 4 => some (.prog 2 2 [0, 1, 2] body4)
  | 5 => some (.prog 2 11 [] body5)
  | 6 => some (.prog 2 5 [] body6)
  | 7 => some (.prog 1 6 [] body7)
  | 8 => some (.prog 2 8 [] body8)
  | 9 => some (.prog 4 17 [] body9)
  | 10 => some (.prog 4 14 [] body10)
  | 11 => some (.prog 3 16 [3, 6, 11] body11)
  | _ => none
noncomputable def lawNm : Nat → Str
  | 0 => "_grouping_intervals"
  | 1 => "_div2n1n"
  | 2 => "_div3n2n"
  | 3 => "_int2digits"
  | 4 => "_digits2int"
  | 5 => "_divmod_pos"
  | 6 => "int_divmod"
  | 7 => "pretty_flags"
  | 8 => "_law_marks"
  | 9 => "_law_by_rulers"
  | 10 => "_law_by_division"
  | 11 => "_law_by_flags"
  | 12 => "law"
  | _ => Str.empty
noncomputable def lawGi : Nat → Option (Str × Int)
  | 0 => some ("CHAR_MAX", 127)
  | 1 => some ("_DIV_LIMIT", 4000)
  | _ => none
noncomputable def lawGd : Nat → Option (Str × List (Int × Str))
  | 0 => some ("COMPILER_FLAG_NAMES", [(1, "OPTIMIZED"), (2, "NEWLOCALS"), (4, "VARARGS"), (8, "VARKEYWORDS"), (16, "NESTED"), (32, "GENERATOR"), (64, "NOFREE"), (128, "COROUTINE"), (256, "ITERABLE_COROUTINE"), (512, "ASYNC_GENERATOR")])
  | _ => none
noncomputable def lawM : Mod := ⟨lawSc, lawGi, lawGd, lawFn, lawNm, fun k => if k < 13 then stArgs (defAt (fnPos k)) else stArgs (innAt k), fun k => if k < 13 then stBody (defAt (fnPos k)) else stBody (innAt k), lawInn, fun k => k == 0⟩
theorem body1_ok : toSs lawM 1 body1 = stBody (defAt 5) := by rfl
theorem chk1 : chkY lawM 1 body1 = true := by decide +kernel
theorem body3_ok : toSs lawM 3 body3 = stBody (defAt 7) := by rfl
theorem chk3 : chkY lawM 3 body3 = true := by decide +kernel
theorem body4_ok : toSs lawM 4 body4 = stBody (defAt 8) := by rfl
theorem chk4 : chkY lawM 4 body4 = true := by decide +kernel
theorem body5_ok : toSs lawM 5 body5 = stBody (defAt 9) := by rfl
theorem chk5 : chkY lawM 5 body5 = true := by decide +kernel
theorem body6_ok : toSs lawM 6 body6 = stBody (defAt 10) := by rfl
theorem chk6 : chkY lawM 6 body6 = true := by decide +kernel
theorem body7_ok : toSs lawM 7 body7 = stBody (defAt 13) := by rfl
theorem chk7 : chkY lawM 7 body7 = true := by decide +kernel
theorem body8_ok : toSs lawM 8 body8 = stBody (defAt 15) := by rfl
theorem chk8 : chkY lawM 8 body8 = true := by decide +kernel
theorem body9_ok : toSs lawM 9 body9 = stBody (defAt 16) := by rfl
theorem chk9 : chkY lawM 9 body9 = true := by decide +kernel
theorem body10_ok : toSs lawM 10 body10 = stBody (defAt 17) := by rfl
theorem chk10 : chkY lawM 10 body10 = true := by decide +kernel
theorem body11_ok : toSs lawM 11 body11 = stBody (defAt 18) := by rfl
theorem chk11 : chkY lawM 11 body11 = true := by decide +kernel
noncomputable def lawFnT : Nat → Option Fn
  | 9 => some (.prim 0)
  | 10 => some (.prim 2)
  | 11 => some (.prim 1)
  | _ => none
noncomputable def lawT : Mod := ⟨lawSc, lawGi, lawGd, lawFnT, lawNm, fun k => if k < 13 then stArgs (defAt (fnPos k)) else stArgs (innAt k), fun k => if k < 13 then stBody (defAt (fnPos k)) else stBody (innAt k), fun _ => none, fun _ => false⟩
theorem body12_ok : toSs lawT 12 body12 = (stBody (defAt 19)).tail := by rfl
theorem chk12 : chkY lawT 12 body12 = true := by decide +kernel
theorem body17_ok : lawM.body 17 = toSs lawM 17 body17 := by rfl
theorem chk17 : chkY lawM 17 body17 = true := by decide +kernel
theorem body18_ok : lawM.body 18 = toSs lawM 18 body18 := by rfl
theorem chk18 : chkY lawM 18 body18 = true := by decide +kernel
end Mine

namespace Mine
/-- polynomials in heavy and long: (power of heavy, power of long, coefficient), sorted -/
abbrev PT := Nat × Nat × Int
noncomputable def tval (h l : Int) (t : PT) : Int := t.2.2 * (h ^ t.1 * l ^ t.2.1)
noncomputable def pval (h l : Int) : List PT → Int
  | [] => 0
  | t :: r => tval h l t + pval h l r
noncomputable def pIns (t : PT) : List PT → List PT
  | [] => [t]
  | u :: r => match Nat.blt t.1 u.1 with
    | true => t :: u :: r
    | false => match Nat.beq t.1 u.1 with
      | true => match Nat.blt t.2.1 u.2.1 with
        | true => t :: u :: r
        | false => match Nat.beq t.2.1 u.2.1 with
          | true => match (t.2.2 + u.2.2) == 0 with
            | true => r
            | false => (t.1, t.2.1, t.2.2 + u.2.2) :: r
          | false => u :: pIns t r
      | false => u :: pIns t r
noncomputable def pAdd : List PT → List PT → List PT
  | [], q => q
  | t :: r, q => pIns t (pAdd r q)
noncomputable def pScale (t : PT) : List PT → List PT
  | [] => []
  | u :: r => (t.1 + u.1, t.2.1 + u.2.1, t.2.2 * u.2.2) :: pScale t r
noncomputable def pMul : List PT → List PT → List PT
  | [], _ => []
  | t :: r, q => pAdd (pScale t q) (pMul r q)
noncomputable def pNeg (p : List PT) : List PT := pScale (0, 0, -1) p
noncomputable def pPow (p : List PT) : Nat → List PT
  | 0 => [(0, 0, 1)]
  | n + 1 => pMul p (pPow p n)
noncomputable def pC (k : Int) : List PT := match k == 0 with
  | true => []
  | false => [(0, 0, k)]
theorem pIns_val (h l : Int) (t : PT) : ∀ p : List PT, pval h l (pIns t p) = tval h l t + pval h l p
  | [] => rfl
  | u :: r => by
    unfold pIns
    split
    · rfl
    · split
      · rename_i e1
        have e1 := Nat.eq_of_beq_eq_true e1
        split
        · rfl
        · split
          · rename_i e2
            have e2 := Nat.eq_of_beq_eq_true e2
            have key : tval h l (t.1, t.2.1, t.2.2 + u.2.2) = tval h l t + tval h l u := by
              simp only [tval, e1, e2, Int.add_mul]
            split
            · rename_i e3
              have e3 : t.2.2 + u.2.2 = 0 := by simpa using e3
              rw [e3] at key
              have : tval h l (t.1, t.2.1, 0) = 0 := by simp [tval]
              rw [this] at key
              show pval h l r = tval h l t + (tval h l u + pval h l r)
              omega
            · show tval h l (t.1, t.2.1, t.2.2 + u.2.2) + pval h l r = tval h l t + (tval h l u + pval h l r)
              omega
          · have := pIns_val h l t r
            show tval h l u + pval h l (pIns t r) = tval h l t + (tval h l u + pval h l r)
            omega
      · have := pIns_val h l t r
        show tval h l u + pval h l (pIns t r) = tval h l t + (tval h l u + pval h l r)
        omega
theorem pAdd_val (h l : Int) : ∀ p q : List PT, pval h l (pAdd p q) = pval h l p + pval h l q
  | [], q => by simp [pAdd, pval]
  | t :: r, q => by
    have := pAdd_val h l r q
    show pval h l (pIns t (pAdd r q)) = tval h l t + pval h l r + pval h l q
    rw [pIns_val]; omega
theorem tval_mul (h l : Int) (t u : PT) : tval h l (t.1 + u.1, t.2.1 + u.2.1, t.2.2 * u.2.2) = tval h l t * tval h l u := by
  simp only [tval, Int.pow_add]
  simp only [Int.mul_assoc, Int.mul_left_comm, Int.mul_comm]
theorem pScale_val (h l : Int) (t : PT) : ∀ q : List PT, pval h l (pScale t q) = tval h l t * pval h l q
  | [] => by simp [pScale, pval]
  | u :: r => by
    show tval h l (t.1 + u.1, t.2.1 + u.2.1, t.2.2 * u.2.2) + pval h l (pScale t r) = tval h l t * (tval h l u + pval h l r)
    rw [tval_mul, pScale_val h l t r, Int.mul_add]
theorem pMul_val (h l : Int) : ∀ p q : List PT, pval h l (pMul p q) = pval h l p * pval h l q
  | [], q => by simp [pMul, pval]
  | t :: r, q => by
    show pval h l (pAdd (pScale t q) (pMul r q)) = (tval h l t + pval h l r) * pval h l q
    rw [pAdd_val, pScale_val, pMul_val h l r q, Int.add_mul]
theorem pNeg_val (h l : Int) (p : List PT) : pval h l (pNeg p) = - pval h l p := by
  unfold pNeg
  rw [pScale_val]
  simp [tval]
theorem pPow_val (h l : Int) (p : List PT) : ∀ n, pval h l (pPow p n) = pval h l p ^ n
  | 0 => by simp [pPow, pval, tval]
  | n + 1 => by
    show pval h l (pMul p (pPow p n)) = _
    rw [pMul_val, pPow_val h l p n, Int.pow_succ, Int.mul_comm]
theorem pC_val (h l : Int) (k : Int) : pval h l (pC k) = k := by
  unfold pC
  split
  · rename_i e
    have : k = 0 := by simpa using e
    rw [this]; rfl
  · simp [pval, tval]
/-- an expression in heavy (letter 0) and long (letter 1) as a polynomial -/
noncomputable def toP (e : IE) : Option (List PT) := IE.rec (motive := fun _ => Option (List PT)) (fun k => some (pC k)) (fun i => Nat.rec (motive := fun _ => Option (List PT)) (some [(1, 0, 1)]) (fun i _ => oif (Nat.beq i 0) (some [(0, 1, 1)])) i)
  (fun _ _ p q => bnd p fun p => bnd q fun q => some (pAdd p q)) (fun _ _ p q => bnd p fun p => bnd q fun q => some (pAdd p (pNeg q))) (fun _ _ p q => bnd p fun p => bnd q fun q => some (pMul p q))
  (fun _ _ _ _ => none) (fun _ _ _ _ => none) (fun _ _ _ _ => none) (fun _ _ _ _ => none) (fun _ b p _ => asC none b fun k => asN none k fun n => bnd p fun p => some (pPow p n)) (fun _ _ _ _ => none) (fun _ _ => none) e
theorem toP_val (ι : Nat → Int) : ∀ (e : IE) (p : List PT), toP e = some p → e.val ι = pval (ι 0) (ι 1) p := by
  intro e
  induction e with
  | c k => intro p h; cases h; exact (pC_val _ _ k).symm
  | v i =>
    intro p h
    cases i with
    | zero => cases h; simp [pval, tval, IE.val, Int.pow_succ]
    | succ i =>
      obtain ⟨hi, h⟩ := oif_at h
      cases Nat.eq_of_beq_eq_true hi
      cases h; simp [pval, tval, IE.val, Int.pow_succ]
  | add a b iha ihb =>
    intro p h
    obtain ⟨p1, h1, h⟩ := bnd_at h
    obtain ⟨p2, h2, h⟩ := bnd_at h
    cases h
    rw [pAdd_val, ← iha _ h1, ← ihb _ h2]; rfl
  | sub a b iha ihb =>
    intro p h
    obtain ⟨p1, h1, h⟩ := bnd_at h
    obtain ⟨p2, h2, h⟩ := bnd_at h
    cases h
    rw [pAdd_val, pNeg_val, ← iha _ h1, ← ihb _ h2]; rfl
  | mul a b iha ihb =>
    intro p h
    obtain ⟨p1, h1, h⟩ := bnd_at h
    obtain ⟨p2, h2, h⟩ := bnd_at h
    cases h
    rw [pMul_val, ← iha _ h1, ← ihb _ h2]; rfl
  | pow a b iha ihb =>
    intro p h
    replace h := asC_at ns h
    obtain ⟨k, rfl, h⟩ := h
    replace h := asN_at ns h
    obtain ⟨n, rfl, h⟩ := h
    obtain ⟨p1, h1, h⟩ := bnd_at h
    cases h
    rw [pPow_val, ← iha _ h1]
    show a.val ι ^ (Int.ofNat n).toNat = _
    rfl
  | _ => intro p h; cases h
noncomputable def toPs (l : List AV) : Option (List (List PT)) := List.rec (motive := fun _ => Option (List (List PT))) (some []) (fun x _ ih => asInt none x fun e => bnd (toP e) fun p => bnd ih fun ps => some (p :: ps)) l
theorem toPs_ints {C : WC} {S : List Addr} (xs : List AV) : ∀ {ps : List (List PT)} {vs : List Value}, toPs xs = some ps → RVs C S xs vs → IntsAre vs (ps.map (pval (C.ι 0) (C.ι 1))) := by
  induction xs with
  | nil => intro ps vs h hv; cases h; rw [show vs = [] from hv]; exact .nil
  | cons x r ih =>
    intro ps vs h hv
    obtain ⟨v, vr, rfl, hx, hr⟩ := hv
    replace h := asInt_at ns h
    obtain ⟨e, rfl, h⟩ := h
    obtain ⟨p, h1, h⟩ := bnd_at h
    obtain ⟨q, h2, h⟩ := bnd_at h
    cases h
    obtain ⟨t, rfl⟩ := hx
    rw [toP_val _ _ _ h1]
    exact .cons _ t (ih h2 hr)
end Mine

namespace Mine
noncomputable def P4 : Nat → List AV → St → Option (AV × St)
  | 0, _, _ => none
  | _, _, _ => none
/-- heavy, long, spin -/
noncomputable def kRul (r : Int) : Facts := ⟨[(.mod (.add (.v 2) (.c 0)) (.c 3), r % 3), (.mod (.add (.v 2) (.c 1)) (.c 3), (r + 1) % 3), (.mod (.add (.v 2) (.c 2)) (.c 3), (r + 2) % 3),
  (.mod (.add (.v 2) (.c 3)) (.c 3), r % 3), (.mod (.add (.v 2) (.c 4)) (.c 3), (r + 1) % 3), (.mod (.add (.v 2) (.c 5)) (.c 3), (r + 2) % 3), (.mod (.div (.v 2) (.c 3)) (.c 3), r / 3)], [], [some 30, some 12, none], [true, true, false]⟩
/-- the state at the start: the two code tables -/
noncomputable def σ0 : St := ⟨.node (some (.tab 61 4 none)) (.node (some (.tab 46 4 none)) .nil .nil) .nil, 2⟩
noncomputable def runR (n : Nat) (m r : Int) : Option (AV × St) := callFn lawM P4 (ev (kRul r) lawM P4 n) 0 9 [AV.int (.c m), AV.int (.v 0), AV.int (.v 1), AV.int (.v 2)] σ0
noncomputable def kFlags : Facts := ⟨[], [], [some 30, some 12], [true, true]⟩
noncomputable def runF (n : Nat) (m : Int) : Option (AV × St) := callFn lawM P4 (ev kFlags lawM P4 n) 0 11 [AV.int (.c m), AV.int (.v 0), AV.int (.v 1)] σ0
/-- above and below of the division, as the run builds them -/
noncomputable def divAB : Nat → Int → IE × IE × IE → IE × IE × IE
  | 0, _, x => x
  | n + 1, part, (above, ways, below) =>
    let power := IE.shl (.c 1) (.mul (.v 2) (.c part))
    divAB n (part + 2) (.add (.mul above (.sub power (.v 1))) (.mul (.mul ways (.v 0)) (.pow (.v 1) (.c (part / 2 + 1)))),
      .mul ways (.add (.sub power (.v 1)) (.mul (.v 0) (.v 1))), .mul below (.sub power (.v 1)))
noncomputable def cntE (a n : IE) : IE := .div (.sub (.add (.bits a) n) (.c 1)) n
noncomputable def upE (a n : IE) (k : Nat) : IE := .shr a (.mul (.c (k : Int)) n)
noncomputable def lowE (a n : IE) (k : Nat) : IE := .bxor a (.shl (upE a n k) (.mul (.c (k : Int)) n))
/-- the digits as the inner def makes them -/
noncomputable def digs : Nat → IE → IE → Nat → List IE
  | 0, x, _, _ => [x]
  | f + 1, x, n, d => match Nat.beq d 1 with
    | true => [x]
    | false => digs f (lowE x n (d / 2)) n (d / 2) ++ digs f (upE x n (d / 2)) n (d - d / 2)
/-- what a division asks for -/
noncomputable def divX1 (a b : IE) : IE := .add (.shl (.c 0) (.bits b)) (upE a (.bits b) 1)
noncomputable def divX2 (a b : IE) : IE := .add (.shl (.mod (divX1 a b) b) (.bits b)) (lowE a (.bits b) 1)
noncomputable def divFb (a b : IE) : List (CmpOp × IE × IE × Bool) := [(.Eq, b, .c 0, false), (.Lt, b, .c 0, false), (.Lt, a, .c 0, false), (.Eq, a, .c 0, false),
  (.Eq, .bits b, .c 0, false), (.LtE, .sub (.bits (divX1 a b)) (.bits b), .c 4000, true), (.LtE, .sub (.bits (divX2 a b)) (.bits b), .c 4000, true)]
noncomputable def divQ (a b : IE) : IE := .add (.shl (.div (divX1 a b) b) (.mul (.c 1) (.bits b))) (.div (divX2 a b) b)
noncomputable def divR (a b : IE) : IE := .mod (divX2 a b) b
structure DivX where
  a1 : IE
  b : IE
  q1 : IE
  a2 : IE
  q2 : IE
noncomputable def divX (m : Nat) : DivX :=
  let x := divAB ((m + 1) / 2) 1 (.c 1, .c 1, .c 1)
  let half := m / 2
  let a1 := IE.shl x.1 (.mul (.v 2) (.c half))
  let b := x.2.2
  let a2 := IE.shl (divR a1 b) (.mul (.v 2) (.c ((m - half : Nat) : Int)))
  ⟨a1, b, divQ a1 b, a2, divQ a2 b⟩
noncomputable def kDiv (m : Nat) : Facts :=
  let x := divX m
  ⟨[(cntE x.a1 (.bits x.b), 2), (cntE x.a2 (.bits x.b), 2), (cntE x.q1 (.v 2), ((m / 2 + 1 : Nat) : Int)), (cntE x.q2 (.v 2), ((m - m / 2 : Nat) : Int))],
    divFb x.a1 x.b ++ (divFb x.a2 x.b ++ [(.Eq, x.q1, .c 0, false), (.Eq, x.q2, .c 0, false), (.Eq, .v 2, .c 0, false)]), [some 30, some 12, some 93], [true, true, true]⟩
noncomputable def runD (n m : Nat) : Option (AV × St) := callFn lawM P4 (ev (kDiv m) lawM P4 n) 0 10 [AV.int (.c m), AV.int (.v 0), AV.int (.v 1), AV.int (.v 2)] σ0
noncomputable def eqIEs : List IE → List AV → Bool
  | [], [] => true
  | a :: r, .int b :: s => IE.beq a b && eqIEs r s
  | _, _ => false
noncomputable def wantD (m : Nat) : List IE := (digs 10 (divX m).q1 (.v 2) (m / 2 + 1)).reverse ++ (digs 10 (divX m).q2 (.v 2) (m - m / 2)).reverse
end Mine

namespace Mine
/-- polynomials in X over those in heavy and long, the lowest power first -/
abbrev PX := List (List PT)
noncomputable def xval (h l X : Int) : PX → Int
  | [] => 0
  | p :: r => pval h l p + X * xval h l X r
noncomputable def xAdd : PX → PX → PX
  | [], q => q
  | p, [] => p
  | p :: r, q :: s => pAdd p q :: xAdd r s
noncomputable def xScale (p : List PT) : PX → PX
  | [] => []
  | q :: s => pMul p q :: xScale p s
noncomputable def xMul : PX → PX → PX
  | [], _ => []
  | p :: r, q => xAdd (xScale p q) ([] :: xMul r q)
noncomputable def xNeg (p : PX) : PX := xScale [(0, 0, -1)] p
noncomputable def xShift (p : PX) : Nat → PX
  | 0 => p
  | n + 1 => [] :: xShift p n
noncomputable def xPow (p : PX) : Nat → PX
  | 0 => [[(0, 0, 1)]]
  | n + 1 => xMul p (xPow p n)
theorem xAdd_val (h l X : Int) : ∀ p q : PX, xval h l X (xAdd p q) = xval h l X p + xval h l X q
  | [], q => by simp [xAdd, xval]
  | p :: r, [] => by simp [xAdd, xval]
  | p :: r, q :: s => by
    show pval h l (pAdd p q) + X * xval h l X (xAdd r s) = _
    rw [pAdd_val, xAdd_val h l X r s, Int.mul_add]
    show _ = pval h l p + X * xval h l X r + (pval h l q + X * xval h l X s)
    omega
theorem xScale_val (h l X : Int) (p : List PT) : ∀ q : PX, xval h l X (xScale p q) = pval h l p * xval h l X q
  | [] => by simp [xScale, xval]
  | q :: s => by
    show pval h l (pMul p q) + X * xval h l X (xScale p s) = pval h l p * (pval h l q + X * xval h l X s)
    rw [pMul_val, xScale_val h l X p s, Int.mul_add, Int.mul_left_comm]
theorem xMul_val (h l X : Int) : ∀ p q : PX, xval h l X (xMul p q) = xval h l X p * xval h l X q
  | [], q => by simp [xMul, xval]
  | p :: r, q => by
    show xval h l X (xAdd (xScale p q) ([] :: xMul r q)) = (pval h l p + X * xval h l X r) * xval h l X q
    rw [xAdd_val, xScale_val]
    show _ + (pval h l [] + X * xval h l X (xMul r q)) = _
    rw [xMul_val h l X r q, Int.add_mul, Int.mul_assoc]
    simp [pval]
theorem xNeg_val (h l X : Int) (p : PX) : xval h l X (xNeg p) = - xval h l X p := by
  unfold xNeg
  rw [xScale_val]
  simp [pval, tval]
theorem xShift_val (h l X : Int) (p : PX) : ∀ n, xval h l X (xShift p n) = xval h l X p * X ^ n
  | 0 => by simp [xShift]
  | n + 1 => by
    show pval h l [] + X * xval h l X (xShift p n) = _
    rw [xShift_val h l X p n, Int.pow_succ, Int.mul_left_comm, Int.mul_comm X]
    simp [pval]
theorem xPow_val (h l X : Int) (p : PX) : ∀ n, xval h l X (xPow p n) = xval h l X p ^ n
  | 0 => by simp [xPow, xval, pval, tval]
  | n + 1 => by
    show xval h l X (xMul p (xPow p n)) = _
    rw [xMul_val, xPow_val h l X p n, Int.pow_succ, Int.mul_comm]
/-- an expression with shifts by width times a number (width is letter 2) -/
noncomputable def asV {α : Type} (z : α) (e : IE) (f : Nat → α) : α := IE.rec (motive := fun _ => α) (fun _ => z) f (fun _ _ _ _ => z) (fun _ _ _ _ => z) (fun _ _ _ _ => z) (fun _ _ _ _ => z) (fun _ _ _ _ => z) (fun _ _ _ _ => z) (fun _ _ _ _ => z) (fun _ _ _ _ => z) (fun _ _ _ _ => z) (fun _ _ => z) e
noncomputable def asMul {α : Type} (z : α) (e : IE) (f : IE → IE → α) : α := IE.rec (motive := fun _ => α) (fun _ => z) (fun _ => z) (fun _ _ _ _ => z) (fun _ _ _ _ => z) (fun a b _ _ => f a b) (fun _ _ _ _ => z) (fun _ _ _ _ => z) (fun _ _ _ _ => z) (fun _ _ _ _ => z) (fun _ _ _ _ => z) (fun _ _ _ _ => z) (fun _ _ => z) e
theorem asV_at {α : Type} {z r : α} (hz : z ≠ r) {a : IE} {f : Nat → α} (h : asV z a f = r) : ∃ e, a = .v e ∧ f e = r := by
  cases a <;> first | exact absurd h hz | exact ⟨_, rfl, h⟩
theorem asMul_at {α : Type} {z r : α} (hz : z ≠ r) {a : IE} {f : IE → IE → α} (h : asMul z a f = r) : ∃ x y, a = .mul x y ∧ f x y = r := by
  cases a <;> first | exact absurd h hz | exact ⟨_, _, rfl, h⟩
noncomputable def toX (e : IE) : Option PX := IE.rec (motive := fun _ => Option PX) (fun k => some [pC k]) (fun i => Nat.rec (motive := fun _ => Option PX) (some [[(1, 0, 1)]]) (fun i _ => oif (Nat.beq i 0) (some [[(0, 1, 1)]])) i)
  (fun _ _ p q => bnd p fun p => bnd q fun q => some (xAdd p q)) (fun _ _ p q => bnd p fun p => bnd q fun q => some (xAdd p (xNeg q))) (fun _ _ p q => bnd p fun p => bnd q fun q => some (xMul p q))
  (fun _ _ _ _ => none) (fun _ _ _ _ => none) (fun _ b p _ => asMul none b fun x y => asV none x fun i => oif (Nat.beq i 2) (asC none y fun k => asN none k fun n => bnd p fun p => some (xShift p n))) (fun _ _ _ _ => none)
  (fun _ b p _ => asC none b fun k => asN none k fun n => bnd p fun p => some (xPow p n)) (fun _ _ _ _ => none) (fun _ _ => none) e
theorem toX_val (ι : Nat → Int) (hw : 0 ≤ ι 2) : ∀ (e : IE) (p : PX), toX e = some p → e.val ι = xval (ι 0) (ι 1) (2 ^ (ι 2).toNat) p := by
  intro e
  induction e with
  | c k => intro p h; cases h; simp [xval, pC_val, IE.val]
  | v i =>
    intro p h
    cases i with
    | zero => cases h; simp [xval, pval, tval, IE.val, Int.pow_succ]
    | succ i =>
      obtain ⟨hi, h⟩ := oif_at h
      cases Nat.eq_of_beq_eq_true hi
      cases h; simp [xval, pval, tval, IE.val, Int.pow_succ]
  | add a b iha ihb =>
    intro p h
    obtain ⟨p1, h1, h⟩ := bnd_at h
    obtain ⟨p2, h2, h⟩ := bnd_at h
    cases h
    rw [xAdd_val, ← iha _ h1, ← ihb _ h2]; rfl
  | sub a b iha ihb =>
    intro p h
    obtain ⟨p1, h1, h⟩ := bnd_at h
    obtain ⟨p2, h2, h⟩ := bnd_at h
    cases h
    rw [xAdd_val, xNeg_val, ← iha _ h1, ← ihb _ h2]; rfl
  | mul a b iha ihb =>
    intro p h
    obtain ⟨p1, h1, h⟩ := bnd_at h
    obtain ⟨p2, h2, h⟩ := bnd_at h
    cases h
    rw [xMul_val, ← iha _ h1, ← ihb _ h2]; rfl
  | pow a b iha ihb =>
    intro p h
    replace h := asC_at ns h
    obtain ⟨k, rfl, h⟩ := h
    replace h := asN_at ns h
    obtain ⟨n, rfl, h⟩ := h
    obtain ⟨p1, h1, h⟩ := bnd_at h
    cases h
    rw [xPow_val, ← iha _ h1]
    show a.val ι ^ (Int.ofNat n).toNat = _
    rfl
  | shl a b iha ihb =>
    intro p h
    replace h := asMul_at ns h
    obtain ⟨x, y, rfl, h⟩ := h
    replace h := asV_at ns h
    obtain ⟨i, rfl, h⟩ := h
    replace h := oif_at h
    obtain ⟨hi, h⟩ := h
    cases Nat.eq_of_beq_eq_true hi
    replace h := asC_at ns h
    obtain ⟨k, rfl, h⟩ := h
    replace h := asN_at ns h
    obtain ⟨n, rfl, h⟩ := h
    obtain ⟨p1, h1, h⟩ := bnd_at h
    cases h
    rw [xShift_val, ← iha _ h1]
    show a.val ι * 2 ^ (ι 2 * (n : Int)).toNat = _
    obtain ⟨w, hw⟩ := Int.eq_ofNat_of_zero_le hw
    rw [hw]
    rw [show ((w : Int) * (n : Int)).toNat = w * n by rw [← Int.natCast_mul]; rfl]
    rw [show ((w : Int)).toNat = w from rfl, Int.pow_mul]
  | _ => intro p h; cases h
/-- bounds: heavy at most 30, long at most 12 -/
noncomputable def pabs : List PT → Nat
  | [] => 0
  | t :: r => t.2.2.natAbs * (30 ^ t.1 * 12 ^ t.2.1) + pabs r
theorem pabs_le {h l : Int} (h1 : h.natAbs ≤ 30) (h2 : l.natAbs ≤ 12) : ∀ p : List PT, (pval h l p).natAbs ≤ pabs p
  | [] => Nat.le_refl _
  | t :: r => by
    have ih := pabs_le h1 h2 r
    show (tval h l t + pval h l r).natAbs ≤ t.2.2.natAbs * (30 ^ t.1 * 12 ^ t.2.1) + pabs r
    have e : (tval h l t).natAbs ≤ t.2.2.natAbs * (30 ^ t.1 * 12 ^ t.2.1) := by
      simp only [tval, Int.natAbs_mul, Int.natAbs_pow]
      exact Nat.mul_le_mul_left _ (Nat.mul_le_mul (Nat.pow_le_pow_left h1 _) (Nat.pow_le_pow_left h2 _))
    omega
noncomputable def pNN : List PT → Bool
  | [] => true
  | t :: r => decide (0 ≤ t.2.2) && pNN r
theorem pNN_val {h l : Int} (h1 : 0 ≤ h) (h2 : 0 ≤ l) : ∀ p : List PT, pNN p = true → 0 ≤ pval h l p
  | [], _ => Int.le_refl _
  | t :: r, H => by
    simp only [pNN, Bool.and_eq_true, decide_eq_true_eq] at H
    have := pNN_val h1 h2 r H.2
    have e : 0 ≤ tval h l t := Int.mul_nonneg H.1 (Int.mul_nonneg (Int.pow_nonneg h1) (Int.pow_nonneg h2))
    show 0 ≤ tval h l t + pval h l r
    omega
/-- surely at least one -/
noncomputable def pPos : List PT → Bool
  | [] => false
  | t :: r => decide (1 ≤ t.2.2) && pNN r
theorem pPos_val {h l : Int} (h1 : 1 ≤ h) (h2 : 1 ≤ l) {p : List PT} (H : pPos p = true) : 1 ≤ pval h l p := by
  cases p with
  | nil => cases H
  | cons t r =>
    simp only [pPos, Bool.and_eq_true, decide_eq_true_eq] at H
    have := pNN_val (h := h) (l := l) (by omega) (by omega) r H.2
    have e1 : 1 ≤ h ^ t.1 := Int.pow_pos (by omega)
    have e2 : 1 ≤ l ^ t.2.1 := Int.pow_pos (by omega)
    have e : 1 ≤ tval h l t := by
      have := Int.mul_le_mul e1 e2 (by omega) (by omega)
      have := Int.mul_le_mul H.1 this (by omega) (by omega)
      simpa [tval] using this
    show 1 ≤ tval h l t + pval h l r
    omega
end Mine

namespace Mine
noncomputable def xTrim : PX → PX
  | [] => []
  | p :: r => match xTrim r with
    | [] => match p with
      | [] => []
      | t :: q => [t :: q]
    | s :: u => p :: s :: u
theorem xTrim_val (h l X : Int) : ∀ p : PX, xval h l X (xTrim p) = xval h l X p
  | [] => rfl
  | p :: r => by
    have ih := xTrim_val h l X r
    unfold xTrim
    split
    · rename_i e
      rw [e] at ih
      have ih : (0 : Int) = xval h l X r := ih
      split
      · show (0 : Int) = pval h l [] + X * xval h l X r
        rw [← ih]; simp [pval]
      · rename_i t q
        show pval h l (t :: q) + X * xval h l X [] = pval h l (t :: q) + X * xval h l X r
        rw [← ih]; rfl
    · rename_i s u e
      rw [e] at ih
      show pval h l p + X * xval h l X (s :: u) = pval h l p + X * xval h l X r
      rw [ih]
noncomputable def xPos (C : Nat) : PX → Bool
  | [] => false
  | p :: r => match r with
    | [] => pPos p
    | _ :: _ => Nat.ble (pabs p) C && xPos C r
theorem xPos_val {h l X : Int} {C : Nat} (h1 : 1 ≤ h) (h30 : h ≤ 30) (l1 : 1 ≤ l) (l12 : l ≤ 12) (hX : (C : Int) < X) : ∀ p : PX, xPos C p = true → 1 ≤ xval h l X p
  | [], H => by cases H
  | p :: r, H => by
    unfold xPos at H
    split at H
    · have := pPos_val h1 l1 H
      simpa [xval] using this
    · rename_i q s
      obtain ⟨H1, H2⟩ := Bool.and_eq_true_iff.mp H
      have hb : pabs p ≤ C := Nat.le_of_ble_eq_true H1
      have ih := xPos_val h1 h30 l1 l12 hX (q :: s) H2
      have hp := pabs_le (h := h) (l := l) (by omega) (by omega) p
      have : X ≤ X * xval h l X (q :: s) := by
        have := Int.mul_le_mul_of_nonneg_left ih (show 0 ≤ X by omega)
        simpa using this
      show 1 ≤ pval h l p + X * xval h l X (q :: s)
      omega
/-- all are digits below the bound -/
noncomputable def xDig (C : Nat) : PX → Bool
  | [] => true
  | p :: r => pNN p && Nat.ble (pabs p) C && xDig C r
theorem xDig_at {h l X : Int} {C : Nat} (h0 : 0 ≤ h) (h30 : h ≤ 30) (l0 : 0 ≤ l) (l12 : l ≤ 12) (hX : (C : Int) < X) : ∀ p : PX, xDig C p = true → 0 ≤ xval h l X p ∧ xval h l X p < X ^ p.length ∧
    ∀ i (hi : i < p.length), (xval h l X p / X ^ i) % X = pval h l p[i]
  | [], _ => ⟨Int.le_refl _, by simp [xval], fun i hi => by cases hi⟩
  | p :: r, H => by
    unfold xDig at H
    obtain ⟨H12, H3⟩ := Bool.and_eq_true_iff.mp H
    obtain ⟨H1, H2⟩ := Bool.and_eq_true_iff.mp H12
    have hb : pabs p ≤ C := Nat.le_of_ble_eq_true H2
    obtain ⟨i1, i2, i3⟩ := xDig_at h0 h30 l0 l12 hX r H3
    have hp0 := pNN_val h0 l0 p H1
    have hp := pabs_le (h := h) (l := l) (by omega) (by omega) p
    have hpX : pval h l p < X := by omega
    have hX0 : 0 < X := by omega
    have e : xval h l X (p :: r) = pval h l p + X * xval h l X r := rfl
    refine ⟨?_, ?_, fun i hi => ?_⟩
    · have := Int.mul_nonneg (Int.le_of_lt hX0) i1
      omega
    · have h3 : X * (xval h l X r + 1) ≤ X * X ^ r.length := Int.mul_le_mul_of_nonneg_left (by omega) (Int.le_of_lt hX0)
      rw [Int.mul_add] at h3
      rw [e, List.length_cons, Int.pow_succ, Int.mul_comm (X ^ r.length)]
      omega
    · cases i with
      | zero =>
        rw [e]
        simp only [Int.pow_zero, Int.ediv_one, List.getElem_cons_zero]
        rw [Int.add_mul_emod_self_left]
        exact Int.emod_eq_of_lt hp0 hpX
      | succ i =>
        have h4 : xval h l X (p :: r) / X ^ (i + 1) = xval h l X r / X ^ i := by
          rw [Int.pow_succ, Int.mul_comm, ← Int.ediv_ediv_of_nonneg (Int.le_of_lt hX0), e, Int.add_mul_ediv_left _ _ (by omega), Int.ediv_eq_zero_of_lt hp0 hpX, Int.zero_add]
        rw [h4]
        exact i3 i (by simpa using hi)
theorem xDig_ge {h l X : Int} {C : Nat} (h1 : 1 ≤ h) (h30 : h ≤ 30) (l1 : 1 ≤ l) (l12 : l ≤ 12) (hX : (C : Int) < X) : ∀ (p : PX) (q : List PT), xDig C p = true → pPos q = true → X ^ p.length ≤ xval h l X (p ++ [q])
  | [], q, _, H => by have := pPos_val h1 l1 H; simpa [xval] using this
  | p :: r, q, H, Hq => by
    unfold xDig at H
    obtain ⟨H12, H3⟩ := Bool.and_eq_true_iff.mp H
    obtain ⟨H1, H2⟩ := Bool.and_eq_true_iff.mp H12
    have ih := xDig_ge h1 h30 l1 l12 hX r q H3 Hq
    have hp0 := pNN_val (h := h) (l := l) (by omega) (by omega) p H1
    have hX0 : 0 ≤ X := by omega
    have := Int.mul_le_mul_of_nonneg_left ih hX0
    show X ^ (r.length + 1) ≤ pval h l p + X * xval h l X (r ++ [q])
    rw [Int.pow_succ, Int.mul_comm]
    omega
theorem bits_lt {a : Int} (h : 0 ≤ a) : a < 2 ^ (Builtin.Int.intBits a) := by
  unfold Builtin.Int.intBits
  split
  · rename_i e
    have : a = 0 := by simpa using e
    rw [this]; decide
  · have := Nat.lt_log2_self (n := a.natAbs)
    have e : (a.natAbs : Int) = a := Int.natAbs_of_nonneg h
    have : ((a.natAbs : Nat) : Int) < ((2 ^ (a.natAbs.log2 + 1) : Nat) : Int) := Int.ofNat_lt.mpr this
    rw [e] at this
    simpa using this
theorem bits_gt {a : Int} {k : Nat} (h : 2 ^ k ≤ a) : k < Builtin.Int.intBits a := by
  have h0 : 0 < a := Int.lt_of_lt_of_le (Int.pow_pos (by decide)) h
  have hn : a.natAbs ≠ 0 := by omega
  unfold Builtin.Int.intBits
  have : ¬ ((a == 0) = true) := by simp; omega
  rw [if_neg this]
  have h2 : 2 ^ k ≤ a.natAbs := by
    have e : (a.natAbs : Int) = a := Int.natAbs_of_nonneg (by omega)
    have : ((2 ^ k : Nat) : Int) ≤ (a.natAbs : Int) := by rw [e]; simpa using h
    exact Int.ofNat_le.mp this
  have := (Nat.le_log2 hn).mpr h2
  omega
theorem bits_le {a : Int} {k : Nat} (h0 : 0 ≤ a) (h : a < 2 ^ k) : Builtin.Int.intBits a ≤ k := by
  refine intBits_le ?_
  have e : (a.natAbs : Int) = a := Int.natAbs_of_nonneg h0
  have : (a.natAbs : Int) < ((2 ^ k : Nat) : Int) := by rw [e]; simpa using h
  exact Int.ofNat_lt.mp this
end Mine

namespace Mine
section
variable {ι : Nat → Int}
theorem xor_low {V : Int} (h : 0 ≤ V) (k : Nat) : Builtin.bitXor V (V / 2 ^ k * 2 ^ k) = V % 2 ^ k := by
  obtain ⟨n, rfl⟩ := Int.eq_ofNat_of_zero_le h
  have e2 : ((n : Int) / 2 ^ k * 2 ^ k) = (((n >>> k) <<< k : Nat) : Int) := by
    rw [Nat.shiftLeft_eq, Nat.shiftRight_eq_div_pow]; simp
  have e : ∀ x y : Int, Builtin.bitXor x y = x + y - 2 * Builtin.bitAnd x y := fun x y => by
    show Builtin.bitOr x y - Builtin.bitAnd x y = _
    rw [bitOr_and]; omega
  have a : n &&& ((n >>> k) <<< k) = (n >>> k) <<< k := by
    apply Nat.eq_of_testBit_eq
    intro i
    rw [Nat.testBit_and, Nat.testBit_shiftLeft, Nat.testBit_shiftRight]
    by_cases hk : k ≤ i
    · rw [show k + (i - k) = i by omega]; cases n.testBit i <;> simp
    · simp [hk]
  rw [Int.emod_def, Int.mul_comm (2 ^ k), e, e2, bitAnd_pp (Int.natCast_nonneg _) (Int.natCast_nonneg _), Int.toNat_natCast, Int.toNat_natCast, a]
  omega
theorem upE_val {a n : IE} {N k : Nat} (hn : n.val ι = (N : Int)) : (upE a n k).val ι = a.val ι / 2 ^ (k * N) := by
  show (a.val ι).fdiv (2 ^ (((k : Nat) : Int) * n.val ι).toNat) = _
  rw [hn, show (((k : Nat) : Int) * (N : Int)).toNat = k * N by rw [← Int.natCast_mul]; rfl, Int.fdiv_eq_ediv_of_nonneg _ (Int.pow_nonneg (by decide))]
theorem lowE_val {a n : IE} {N k : Nat} (hn : n.val ι = (N : Int)) (ha : 0 ≤ a.val ι) : (lowE a n k).val ι = a.val ι % 2 ^ (k * N) := by
  show Builtin.bitXor (a.val ι) ((upE a n k).val ι * 2 ^ (((k : Nat) : Int) * n.val ι).toNat) = _
  rw [upE_val hn, hn, show (((k : Nat) : Int) * (N : Int)).toNat = k * N by rw [← Int.natCast_mul]; rfl]
  exact xor_low ha _
theorem cnt_val {a n : IE} {N L : Nat} (hn : n.val ι = (N : Int)) (hN : 0 < N) (h1 : (L - 1) * N < Builtin.Int.intBits (a.val ι)) (h2 : Builtin.Int.intBits (a.val ι) ≤ L * N) : (cntE a n).val ι = (L : Int) := by
  show (((Builtin.Int.intBits (a.val ι) : Nat) : Int) + n.val ι - 1).fdiv (n.val ι) = _
  rw [hn]
  generalize Builtin.Int.intBits (a.val ι) = b at h1 h2
  rw [Int.fdiv_eq_ediv_of_nonneg _ (Int.natCast_nonneg N)]
  have hL : 1 ≤ L := by
    cases L with
    | zero => simp at h1 h2; omega
    | succ L => omega
  obtain ⟨M, rfl⟩ : ∃ M, L = M + 1 := ⟨L - 1, by omega⟩
  simp only [Nat.add_sub_cancel] at h1
  have h2' : b ≤ M * N + N := by rw [Nat.add_mul] at h2; omega
  have e : (b : Int) + N - 1 = ((b - M * N - 1 : Nat) : Int) + (N : Int) * ((M : Int) + 1) := by
    have : ((M * N : Nat) : Int) = (N : Int) * (M : Int) := by rw [Int.natCast_mul, Int.mul_comm]
    rw [Int.mul_add]
    omega
  rw [e, Int.add_mul_ediv_left _ _ (by omega), Int.ediv_eq_zero_of_lt (by omega) (by omega)]
  omega
theorem div_val {a b : IE} {N : Nat} (h1 : 2 ^ N ≤ a.val ι) (h2 : a.val ι < 2 ^ N * 2 ^ N) (hb : 0 < b.val ι) (hN : Builtin.Int.intBits (b.val ι) = N) (h4 : N ≤ 4000) :
    (∀ q ∈ divFb a b, cmpZ q.1 (q.2.1.val ι) (q.2.2.1.val ι) = some q.2.2.2) ∧ (cntE a (.bits b)).val ι = 2 ∧ (divQ a b).val ι = a.val ι / b.val ι ∧ (divR a b).val ι = a.val ι % b.val ι := by
  have hbN : (IE.bits b).val ι = (N : Int) := by show ((Builtin.Int.intBits (b.val ι) : Nat) : Int) = _; rw [hN]
  have hb2 : b.val ι < 2 ^ N := by have := bits_lt (Int.le_of_lt hb); rw [hN] at this; exact this
  have hN0 : 0 < N := by
    rcases Nat.eq_zero_or_pos N with e | e
    · rw [e] at hb2; simp at hb2; omega
    · exact e
  have p0 : (0 : Int) < 2 ^ N := Int.pow_pos (by decide)
  have ha : 0 < a.val ι := by omega
  -- the high digit
  have d1 : (upE a (.bits b) 1).val ι = a.val ι / 2 ^ N := by rw [upE_val hbN, Nat.one_mul]
  have d0 : (lowE a (.bits b) 1).val ι = a.val ι % 2 ^ N := by rw [lowE_val hbN (Int.le_of_lt ha), Nat.one_mul]
  have x1 : (divX1 a b).val ι = a.val ι / 2 ^ N := by
    show 0 * 2 ^ ((IE.bits b).val ι).toNat + (upE a (.bits b) 1).val ι = _
    rw [d1, Int.zero_mul, Int.zero_add]
  have x2 : (divX2 a b).val ι = (a.val ι / 2 ^ N) % b.val ι * 2 ^ N + a.val ι % 2 ^ N := by
    show ((divX1 a b).val ι).fmod (b.val ι) * 2 ^ ((IE.bits b).val ι).toNat + (lowE a (.bits b) 1).val ι = _
    rw [d0, x1, hbN, Int.fmod_eq_emod_of_nonneg _ (by omega)]
    rfl
  generalize hu : a.val ι / 2 ^ N = u at x1 x2 d1
  generalize hv : a.val ι % 2 ^ N = v at x2 d0
  have hv0 : 0 ≤ v := by rw [← hv]; exact Int.emod_nonneg _ (by omega)
  have hv1 : v < 2 ^ N := by rw [← hv]; exact Int.emod_lt_of_pos _ p0
  have hau : a.val ι = u * 2 ^ N + v := by
    rw [← hu, ← hv]
    have := Int.mul_ediv_add_emod (a.val ι) (2 ^ N)
    rw [Int.mul_comm] at this
    omega
  have hu0 : 0 ≤ u := by rw [← hu]; exact Int.ediv_nonneg (by omega) (by omega)
  have hu1 : u < 2 ^ N := by rw [← hu]; exact Int.ediv_lt_of_lt_mul p0 h2
  have hr0 : 0 ≤ u % b.val ι := Int.emod_nonneg _ (by omega)
  have hr1 : u % b.val ι < b.val ι := Int.emod_lt_of_pos _ hb
  generalize hr : u % b.val ι = r at hr0 hr1 x2
  generalize hq : u / b.val ι = q
  have huq : u = b.val ι * q + r := by rw [← hr, ← hq]; exact (Int.mul_ediv_add_emod u _).symm
  have hrN : r + 1 ≤ 2 ^ N := by omega
  have hx2 : r * 2 ^ N + v < 2 ^ N * 2 ^ N := by
    have h5 := Int.mul_le_mul_of_nonneg_right hrN (Int.le_of_lt p0)
    rw [Int.add_mul] at h5
    omega
  have hx20 : 0 ≤ r * 2 ^ N + v := by
    have := Int.mul_nonneg hr0 (Int.le_of_lt p0)
    omega
  have hq' : a.val ι = b.val ι * (q * 2 ^ N) + (r * 2 ^ N + v) := by
    rw [hau, huq, Int.add_mul, Int.mul_assoc]
    omega
  refine ⟨?_, ?_, ?_, ?_⟩
  · intro z hz
    simp only [divFb, List.mem_cons, List.mem_nil_iff, or_false] at hz
    rcases hz with rfl | rfl | rfl | rfl | rfl | rfl | rfl
    · show some (b.val ι == (0 : Int)) = some false
      rw [show (b.val ι == (0 : Int)) = false from by rw [beq_eq_false_iff_ne]; omega]
    · show some (decide (b.val ι < (0 : Int))) = some false
      rw [decide_eq_false (by omega)]
    · show some (decide (a.val ι < (0 : Int))) = some false
      rw [decide_eq_false (by omega)]
    · show some (a.val ι == (0 : Int)) = some false
      rw [show (a.val ι == (0 : Int)) = false from by rw [beq_eq_false_iff_ne]; omega]
    · show some ((IE.bits b).val ι == (0 : Int)) = some false
      rw [hbN]; simp; omega
    · show some (decide (((Builtin.Int.intBits ((divX1 a b).val ι) : Nat) : Int) - (IE.bits b).val ι ≤ 4000)) = some true
      rw [x1, hbN]
      have := bits_le hu0 hu1
      simp; omega
    · show some (decide (((Builtin.Int.intBits ((divX2 a b).val ι) : Nat) : Int) - (IE.bits b).val ι ≤ 4000)) = some true
      rw [x2, hbN]
      have := bits_le (k := N + N) hx20 (by rw [Int.pow_add]; exact hx2)
      simp; omega
  · refine cnt_val (L := 2) hbN hN0 ?_ ?_
    · have := bits_gt h1
      simpa using this
    · have := bits_le (k := N + N) (Int.le_of_lt ha) (by rw [Int.pow_add]; exact h2)
      omega
  · show ((divX1 a b).val ι).fdiv (b.val ι) * 2 ^ (1 * (IE.bits b).val ι).toNat + ((divX2 a b).val ι).fdiv (b.val ι) = _
    rw [Int.one_mul, x1, x2, hbN, Int.fdiv_eq_ediv_of_nonneg _ (by omega), Int.fdiv_eq_ediv_of_nonneg _ (by omega), hq]
    show q * 2 ^ N + _ = _
    rw [hq', Int.add_comm (b.val ι * _), Int.add_mul_ediv_left _ _ (by omega)]
    omega
  · show ((divX2 a b).val ι).fmod (b.val ι) = _
    rw [x2, Int.fmod_eq_emod_of_nonneg _ (by omega)]
    conv => rhs; rw [hq', Int.add_comm, Int.add_mul_emod_self_left]
end
end Mine

namespace Mine
noncomputable def xC : Nat := 2 ^ 64 - 1
noncomputable def kB : Facts := ⟨[], [], [some 30, some 12, some 93], [true, true, true]⟩
noncomputable def xSub (p q : PX) : PX := xTrim (xAdd p (xNeg q))
theorem xSub_val (h l X : Int) (p q : PX) : xval h l X (xSub p q) = xval h l X p - xval h l X q := by
  unfold xSub
  rw [xTrim_val, xAdd_val, xNeg_val]; omega
/-- one division: a is q times b and a rest below b, with all the sizes that count -/
noncomputable def divOkX (A B q : PX) : Bool :=
  let r := xSub A (xMul q B)
  xPos xC r && xPos xC (xSub B r) && xPos xC (xSub q [[(0, 0, 1)]]) && xPos xC (xSub B q)
noncomputable def chkD (m : Nat) (W : PX) : Bool := match toX (divX m).a1, toX (divX m).b, W.take (m / 2 + 1), W.drop (m / 2 + 1) with
  | some A1, some B, w0 :: wa, w1 :: wb => Nat.beq wa.length (m / 2) && Nat.beq (wb.length + 1) (m - m / 2) && xDig xC wa.reverse && xDig xC wb.reverse && xDig xC (wa.reverse ++ [w0]) && xDig xC (wb.reverse ++ [w1]) && pPos w0 && pPos w1 &&
    divOkX A1 B (wa.reverse ++ [w0]) && divOkX (xShift (xSub A1 (xMul (wa.reverse ++ [w0]) B)) (m - m / 2)) B (wb.reverse ++ [w1]) && (match bitsUb kB (divX m).b with | some n => Nat.ble n 4000 | none => false)
  | _, _, _, _ => false
section
variable {ι : Nat → Int}
theorem one_div {a b : IE} {A B q : PX} (h1 : 1 ≤ ι 0) (h30 : ι 0 ≤ 30) (l1 : 1 ≤ ι 1) (l12 : ι 1 ≤ 12) {X : Int} (hX : (xC : Int) < X) (ha : a.val ι = xval (ι 0) (ι 1) X A) (hb : b.val ι = xval (ι 0) (ι 1) X B)
    (hc : divOkX A B q = true) (h4 : Builtin.Int.intBits (b.val ι) ≤ 4000) :
    (∀ z ∈ divFb a b, cmpZ z.1 (z.2.1.val ι) (z.2.2.1.val ι) = some z.2.2.2) ∧ (cntE a (.bits b)).val ι = 2 ∧ (divQ a b).val ι = xval (ι 0) (ι 1) X q ∧ (divR a b).val ι = xval (ι 0) (ι 1) X (xSub A (xMul q B)) := by
  unfold divOkX at hc
  simp only [Bool.and_eq_true] at hc
  obtain ⟨⟨⟨c1, c2⟩, c3⟩, c4⟩ := hc
  have p1 := xPos_val h1 h30 l1 l12 hX _ c1
  have p2 := xPos_val h1 h30 l1 l12 hX _ c2
  have p3 := xPos_val h1 h30 l1 l12 hX _ c3
  have p4 := xPos_val h1 h30 l1 l12 hX _ c4
  rw [xSub_val] at p2 p3 p4
  have er : xval (ι 0) (ι 1) X (xSub A (xMul q B)) = xval (ι 0) (ι 1) X A - xval (ι 0) (ι 1) X q * xval (ι 0) (ι 1) X B := by rw [xSub_val, xMul_val]
  have e1 : xval (ι 0) (ι 1) X [[(0, 0, 1)]] = 1 := by simp [xval, pval, tval]
  rw [e1] at p3
  rw [er] at p1 p2
  rw [er]
  rw [← ha, ← hb] at p1 p2 ⊢
  rw [← hb] at p4
  generalize xval (ι 0) (ι 1) X q = Q at p1 p2 p3 p4 ⊢
  generalize hav : a.val ι = av at p1 p2
  generalize hbv : b.val ι = bv at p1 p2 p4 h4
  have hb0 : 0 < bv := by omega
  generalize hN : Builtin.Int.intBits bv = N at h4
  have hbN : bv < 2 ^ N := by have := bits_lt (Int.le_of_lt hb0); rw [hN] at this; exact this
  have hN0 : 0 < N := by
    rcases Nat.eq_zero_or_pos N with e | e
    · rw [e] at hbN; simp at hbN; omega
    · exact e
  have hbl : 2 ^ (N - 1) ≤ bv := by
    rcases Int.lt_or_le bv (2 ^ (N - 1)) with e | e
    · have := bits_le (Int.le_of_lt hb0) e
      omega
    · exact e
  have h2N : (2 : Int) ^ N = 2 * 2 ^ (N - 1) := by
    obtain ⟨k, rfl⟩ : ∃ k, N = k + 1 := ⟨N - 1, by omega⟩
    rw [Int.pow_succ]; simp; omega
  have hqb : 2 * bv ≤ Q * bv := Int.mul_le_mul_of_nonneg_right (by omega) (Int.le_of_lt hb0)
  have hlo : 2 ^ N ≤ av := by omega
  have hbb : (Q + 1) * bv ≤ bv * bv := Int.mul_le_mul_of_nonneg_right (by omega) (Int.le_of_lt hb0)
  have hbb2 : bv * bv < 2 ^ N * 2 ^ N := Int.mul_lt_mul hbN (Int.le_of_lt hbN) hb0 (Int.le_of_lt (Int.pow_pos (by decide)))
  have hhi : av < 2 ^ N * 2 ^ N := by
    rw [Int.add_mul] at hbb
    omega
  subst hav hbv
  obtain ⟨f1, f2, f3, f4⟩ := div_val hlo hhi hb0 hN h4
  have e : a.val ι = (a.val ι - Q * b.val ι) + b.val ι * Q := by rw [Int.mul_comm (b.val ι)]; omega
  refine ⟨f1, f2, ?_, ?_⟩
  · rw [f3]
    conv => lhs; rw [e]
    rw [Int.add_mul_ediv_left _ _ (by omega), Int.ediv_eq_zero_of_lt (by omega) (by omega)]
    omega
  · rw [f4]
    conv => lhs; rw [e]
    rw [Int.add_mul_emod_self_left]
    exact Int.emod_eq_of_lt (by omega) (by omega)
theorem kB_ok (h1 : 0 ≤ ι 0) (h30 : ι 0 ≤ 30) (l1 : 0 ≤ ι 1) (l12 : ι 1 ≤ 12) (w0 : 0 ≤ ι 2) (w93 : ι 2 ≤ 93) : kB.Ok ι where
  fi := by intro p hp; cases hp
  fb := by intro p hp; cases hp
  lb := by
    intro i b h
    match i, h with
    | 0, h => cases h; omega
    | 1, h => cases h; omega
    | 2, h => cases h; omega
    | n + 3, h => simp [kB] at h
  nn := by
    intro i h
    match i, h with
    | 0, h => exact h1
    | 1, h => exact l1
    | 2, h => exact w0
    | n + 3, h => simp [kB] at h
theorem xval_append (h l X : Int) : ∀ a b : PX, xval h l X (a ++ b) = xval h l X a + X ^ a.length * xval h l X b
  | [], b => by simp [xval]
  | p :: r, b => by
    show pval h l p + X * xval h l X (r ++ b) = pval h l p + X * xval h l X r + X ^ (r.length + 1) * xval h l X b
    rw [xval_append h l X r b, Int.mul_add, Int.pow_succ, Int.mul_comm (X ^ r.length) X, Int.mul_assoc]
    omega
theorem xDig_append (C : Nat) : ∀ a b : PX, xDig C (a ++ b) = (xDig C a && xDig C b)
  | [], b => by simp [xDig]
  | p :: r, b => by
    show (pNN p && Nat.ble (pabs p) C && xDig C (r ++ b)) = ((pNN p && Nat.ble (pabs p) C && xDig C r) && xDig C b)
    rw [xDig_append C r b, Bool.and_assoc]
    simp [Bool.and_assoc]
theorem digs_val {n : IE} {w : Nat} {h l : Int} (h0 : 0 ≤ h) (h30 : h ≤ 30) (l0 : 0 ≤ l) (l12 : l ≤ 12) (hX : (xC : Int) < 2 ^ w) (hw : n.val ι = (w : Int)) :
    ∀ (f : Nat) (q : IE) (p : PX), 1 ≤ p.length → p.length ≤ f + 1 → q.val ι = xval h l (2 ^ w) p → xDig xC p = true → (digs f q n p.length).map (·.val ι) = p.map (pval h l) := by
  have one : ∀ (q : IE) (p : PX), p.length = 1 → q.val ι = xval h l (2 ^ w) p → [q].map (·.val ι) = p.map (pval h l) := by
    intro q p hp hq
    match p, hp with
    | [a], _ => simp [hq, xval]
  intro f
  induction f with
  | zero => intro q p h1 h2 hq _; exact one q p (by omega) hq
  | succ f ih =>
    intro q p h1 h2 hq hd
    unfold digs
    by_cases hp : p.length = 1
    · rw [hp]; exact one q p hp hq
    · rw [show Nat.beq p.length 1 = false by rw [Tr.beq_eq]; simp [hp]]
      dsimp only
      have hpd : p = p.take (p.length / 2) ++ p.drop (p.length / 2) := (List.take_append_drop _ _).symm
      have l1 : (p.take (p.length / 2)).length = p.length / 2 := by rw [List.length_take]; omega
      have l2 : (p.drop (p.length / 2)).length = p.length - p.length / 2 := List.length_drop ..
      have hd2 := hd
      rw [hpd, xDig_append] at hd2
      obtain ⟨hd1, hd2⟩ := Bool.and_eq_true_iff.mp hd2
      have hval := xval_append h l (2 ^ w) (p.take (p.length / 2)) (p.drop (p.length / 2))
      rw [← hpd, l1] at hval
      obtain ⟨a1, a2, _⟩ := xDig_at h0 h30 l0 l12 hX _ hd1
      obtain ⟨b1, _, _⟩ := xDig_at h0 h30 l0 l12 hX _ hd2
      rw [l1] at a2
      have hpow : (2 : Int) ^ (p.length / 2 * w) = (2 ^ w) ^ (p.length / 2) := by rw [Nat.mul_comm, Int.pow_mul]
      have hX0 : (0 : Int) < (2 ^ w) ^ (p.length / 2) := Int.pow_pos (Int.pow_pos (by decide))
      have hq0 : 0 ≤ q.val ι := by
        rw [hq, hval]
        have := Int.mul_nonneg (Int.le_of_lt hX0) b1
        omega
      have hlow : (lowE q n (p.length / 2)).val ι = xval h l (2 ^ w) (p.take (p.length / 2)) := by
        rw [lowE_val hw hq0, hpow, hq, hval, Int.add_mul_emod_self_left]
        exact Int.emod_eq_of_lt a1 a2
      have hup : (upE q n (p.length / 2)).val ι = xval h l (2 ^ w) (p.drop (p.length / 2)) := by
        rw [upE_val hw, hpow, hq, hval, Int.add_mul_ediv_left _ _ (by omega), Int.ediv_eq_zero_of_lt a1 a2, Int.zero_add]
      have i1 := ih _ _ (by omega) (by omega) hlow hd1
      have i2 := ih _ _ (by omega) (by omega) hup hd2
      rw [l1] at i1
      rw [l2] at i2
      rw [List.map_append, i1, i2, ← List.map_append, ← hpd]
theorem kDiv_ok {m : Nat} {W : PX} (hm : m ≤ 16) (hc : chkD m W = true) (h1 : 1 ≤ ι 0) (h30 : ι 0 ≤ 30) (l1 : 1 ≤ ι 1) (l12 : ι 1 ≤ 12) (w64 : 64 ≤ ι 2) (w93 : ι 2 ≤ 93) :
    (kDiv m).Ok ι ∧ (wantD m).map (·.val ι) = W.map (pval (ι 0) (ι 1)) := by
  obtain ⟨w, hw⟩ := Int.eq_ofNat_of_zero_le (show 0 ≤ ι 2 by omega)
  have hwN : (ι 2).toNat = w := by rw [hw]; rfl
  have hX : (xC : Int) < 2 ^ w := by
    have : (2 : Nat) ^ 64 ≤ 2 ^ w := Nat.pow_le_pow_right (by decide) (by omega)
    have : xC < 2 ^ w := Nat.lt_of_lt_of_le (by decide) this
    have := Int.ofNat_lt.mpr this
    simpa using this
  unfold chkD at hc
  split at hc
  · rename_i A1 B w0 wa w1 wb hA hB hta htb
    simp only [Bool.and_eq_true] at hc
    obtain ⟨⟨⟨⟨⟨⟨⟨⟨⟨⟨c1, c2⟩, c3⟩, c4⟩, c5⟩, c6⟩, c7⟩, c8⟩, c9⟩, c10⟩, c11⟩ := hc
    have c1 := Nat.eq_of_beq_eq_true c1
    have c2 := Nat.eq_of_beq_eq_true c2
    have hW : W = (w0 :: wa) ++ (w1 :: wb) := by rw [← hta, ← htb, List.take_append_drop]
    have va := toX_val ι (by omega) _ _ hA
    have vb := toX_val ι (by omega) _ _ hB
    rw [hwN] at va vb
    have h4 : Builtin.Int.intBits ((divX m).b.val ι) ≤ 4000 := by
      split at c11
      · rename_i n hn
        have := bitsUb_sound (kB_ok (by omega) h30 (by omega) l12 (by omega) w93) hn
        have := Nat.le_of_ble_eq_true c11
        omega
      · cases c11
    obtain ⟨f1, f2, f3, f4⟩ := one_div h1 h30 l1 l12 hX va vb c9 h4
    have va2 : (divX m).a2.val ι = xval (ι 0) (ι 1) (2 ^ w) (xShift (xSub A1 (xMul (wa.reverse ++ [w0]) B)) (m - m / 2)) := by
      rw [xShift_val, ← f4]
      show (divR (divX m).a1 (divX m).b).val ι * 2 ^ (ι 2 * (((m - m / 2 : Nat)) : Int)).toNat = _
      rw [hw, show ((w : Int) * ((m - m / 2 : Nat) : Int)).toNat = w * (m - m / 2) by rw [← Int.natCast_mul]; rfl, Int.pow_mul]
    obtain ⟨g1, g2, g3, g4⟩ := one_div h1 h30 l1 l12 hX va2 vb c10 h4
    have f3 : (divX m).q1.val ι = _ := f3
    have g3 : (divX m).q2.val ι = _ := g3
    obtain ⟨d1, d2, d3⟩ := xDig_at (X := 2 ^ w) (by omega) h30 (by omega) l12 hX _ c5
    obtain ⟨e1, e2, e3⟩ := xDig_at (X := 2 ^ w) (by omega) h30 (by omega) l12 hX _ c6
    have d4 := xDig_ge (X := 2 ^ w) h1 h30 l1 l12 hX _ _ c3 c7
    have e4 := xDig_ge (X := 2 ^ w) h1 h30 l1 l12 hX _ _ c4 c8
    have len1 : (wa.reverse ++ [w0]).length = m / 2 + 1 := by simp; omega
    have len2 : (wb.reverse ++ [w1]).length = m - m / 2 := by simp; omega
    have hv2 : (IE.v 2).val ι = (w : Int) := hw
    have w0' : 0 < w := by omega
    refine ⟨⟨?_, ?_, ?_, ?_⟩, ?_⟩
    · intro p hp
      simp only [kDiv, List.mem_cons, List.mem_nil_iff, or_false] at hp
      rcases hp with rfl | rfl | rfl | rfl
      · exact f2
      · exact g2
      · show (cntE (divX m).q1 (.v 2)).val ι = ((m / 2 + 1 : Nat) : Int)
        refine cnt_val hv2 w0' ?_ ?_
        · rw [f3]
          refine bits_gt ?_
          rw [List.length_reverse, ← Int.pow_mul] at d4
          rw [show (m / 2 + 1 - 1) * w = w * wa.length by rw [c1, Nat.add_sub_cancel, Nat.mul_comm]]
          exact d4
        · rw [f3]
          refine bits_le d1 ?_
          rw [len1, ← Int.pow_mul] at d2
          rw [Nat.mul_comm]
          exact d2
      · show (cntE (divX m).q2 (.v 2)).val ι = ((m - m / 2 : Nat) : Int)
        refine cnt_val hv2 w0' ?_ ?_
        · rw [g3]
          refine bits_gt ?_
          rw [List.length_reverse, ← Int.pow_mul] at e4
          rw [show (m - m / 2 - 1) * w = w * wb.length by rw [← c2, Nat.add_sub_cancel, Nat.mul_comm]]
          exact e4
        · rw [g3]
          refine bits_le e1 ?_
          rw [len2, ← Int.pow_mul] at e2
          rw [Nat.mul_comm]
          exact e2
    · intro q hq
      simp only [kDiv, List.mem_append] at hq
      rcases hq with hq | hq | hq
      · exact f1 q hq
      · exact g1 q hq
      · simp only [List.mem_cons, List.mem_nil_iff, or_false] at hq
        rcases hq with rfl | rfl | rfl
        · show some ((divX m).q1.val ι == (0 : Int)) = some false
          rw [show ((divX m).q1.val ι == (0 : Int)) = false from by
            rw [beq_eq_false_iff_ne, f3]
            have : (0 : Int) < (2 ^ w) ^ (wa.reverse).length := Int.pow_pos (Int.pow_pos (by decide))
            omega]
        · show some ((divX m).q2.val ι == (0 : Int)) = some false
          rw [show ((divX m).q2.val ι == (0 : Int)) = false from by
            rw [beq_eq_false_iff_ne, g3]
            have : (0 : Int) < (2 ^ w) ^ (wb.reverse).length := Int.pow_pos (Int.pow_pos (by decide))
            omega]
        · show some (ι 2 == (0 : Int)) = some false
          rw [show (ι 2 == (0 : Int)) = false from by rw [beq_eq_false_iff_ne]; omega]
    · exact (kB_ok (by omega) h30 (by omega) l12 (by omega) w93).lb
    · exact (kB_ok (by omega) h30 (by omega) l12 (by omega) w93).nn
    · unfold wantD
      have i1 := digs_val (by omega) h30 (by omega) l12 hX hv2 10 _ _ (by rw [len1]; omega) (by rw [len1]; omega) f3 c5
      have i2 := digs_val (by omega) h30 (by omega) l12 hX hv2 10 _ _ (by rw [len2]; omega) (by rw [len2]; omega) g3 c6
      rw [len1] at i1
      rw [len2] at i2
      rw [List.map_append, List.map_reverse, List.map_reverse, i1, i2, hW]
      simp
  · cases hc
end
end Mine

namespace Mine
noncomputable def w10 : PX := [[(0, 0, 1)], [(1, 1, 1)], [(1, 2, 1)], [(1, 2, 1), (1, 3, 1)], [(1, 4, 1), (2, 3, 1)],   [(1, 3, 1), (1, 5, 1), (2, 4, 1)], [(1, 3, 1), (1, 6, 1), (2, 4, 1), (2, 5, 1)],   [(1, 4, 1), (1, 7, 1), (2, 4, 1), (2, 5, 1), (2, 6, 1)], [(1, 8, 1), (2, 4, 1), (2, 5, 2), (2, 6, 1), (2, 7, 1)],   [(1, 4, 1), (1, 5, 1), (1, 9, 1), (2, 6, 2), (2, 7, 1), (2, 8, 1), (3, 5, 1)],   [(1, 4, 1), (1, 10, 1), (2, 5, 2), (2, 6, 1), (2, 7, 2), (2, 8, 1), (2, 9, 1), (3, 6, 1)]] 
noncomputable def wtab (m : Nat) : PX := w10.take (m + 1)
end Mine

namespace Mine
noncomputable def eqPT : List PT → List PT → Bool
  | [], [] => true
  | a :: r, b :: s => Nat.beq a.1 b.1 && Nat.beq a.2.1 b.2.1 && (a.2.2 == b.2.2) && eqPT r s
  | _, _ => false
noncomputable def eqPX : PX → PX → Bool
  | [], [] => true
  | a :: r, b :: s => eqPT a b && eqPX r s
  | _, _ => false
theorem eqPT_iff : ∀ {a b : List PT}, eqPT a b = true → a = b
  | [], [], _ => rfl
  | (a1, a2, a3) :: r, (b1, b2, b3) :: s, h => by
    unfold eqPT at h
    simp only [Bool.and_eq_true] at h
    obtain ⟨⟨⟨h1, h2⟩, h3⟩, h4⟩ := h
    have h1 : a1 = b1 := Nat.eq_of_beq_eq_true h1
    have h2 : a2 = b2 := Nat.eq_of_beq_eq_true h2
    have h3 : a3 = b3 := by simpa using h3
    rw [h1, h2, h3, eqPT_iff h4]
  | [], _ :: _, h => by cases h
  | _ :: _, [], h => by cases h
theorem eqPX_iff : ∀ {a b : PX}, eqPX a b = true → a = b
  | [], [], _ => rfl
  | a :: r, b :: s, h => by
    unfold eqPX at h
    obtain ⟨h1, h2⟩ := Bool.and_eq_true_iff.mp h
    rw [eqPT_iff h1, eqPX_iff h2]
  | [], _ :: _, h => by cases h
  | _ :: _, [], h => by cases h
noncomputable def noneTab (l c : Nat) : Option AObj → Bool
  | some (.tab a b none) => Nat.beq a l && Nat.beq b c
  | _ => false
noncomputable def someTab : Option AObj → Bool
  | some (.tab _ _ _) => true
  | _ => false
/-- the two code tables are still empty -/
noncomputable def tabsNone (σ : St) : Bool := noneTab 61 4 (σ.h.get 0) && noneTab 46 4 (σ.h.get 1)
noncomputable def tabsSome (σ : St) : Bool := someTab (σ.h.get 0) && someTab (σ.h.get 1)
theorem noneTab_at {l c : Nat} {x : Option AObj} (h : noneTab l c x = true) : x = some (.tab l c none) := by
  unfold noneTab at h
  split at h
  · obtain ⟨h1, h2⟩ := Bool.and_eq_true_iff.mp h
    rw [Nat.eq_of_beq_eq_true h1, Nat.eq_of_beq_eq_true h2]
  · cases h
theorem someTab_at {x : Option AObj} (h : someTab x = true) : ∃ l c st, x = some (.tab l c st) := by
  unfold someTab at h
  split at h
  · exact ⟨_, _, _, rfl⟩
  · cases h
noncomputable def okRun (W : PX) (x : Option (AV × St)) : Bool := match x with
  | some (.ref i, σ) => tabsNone σ && (match listAt σ i with
    | some xs => match toPs xs with
      | some ps => eqPX ps W
      | none => false
    | none => false)
  | _ => false
/-- with fuel enough the ways' runs give the table's worths -/
noncomputable def OkR (m : Nat) (r : Int) : Prop := ∃ n, okRun (wtab m) (runR n m r) = true
noncomputable def OkF (m : Nat) : Prop := ∃ n, okRun (wtab m) (runF n m) = true
noncomputable def okVx (W : List IE) (x : Option (AV × St)) : Bool := match x with
  | some (.ref i, σ) => tabsSome σ && (match listAt σ i with
    | some xs => eqIEs W xs
    | none => false)
  | _ => false
noncomputable def OkV (m : Nat) : Prop := ∃ n, okVx (wantD m) (runD n m) = true
theorem okRun_at {W : PX} {x : Option (AV × St)} (h : okRun W x = true) : ∃ i σ xs, x = some (.ref i, σ) ∧ tabsNone σ = true ∧ listAt σ i = some xs ∧ toPs xs = some W := by
  unfold okRun at h
  split at h
  · rename_i i σ
    obtain ⟨h1, h2⟩ := Bool.and_eq_true_iff.mp h
    split at h2
    · rename_i xs hx
      split at h2
      · rename_i ps hp
        exact ⟨i, σ, xs, rfl, h1, hx, by rw [hp, eqPX_iff h2]⟩
      · cases h2
    · cases h2
  · cases h
theorem eqIEs_ints {C : WC} {S : List Addr} : ∀ {es : List IE} {xs : List AV} {vs : List Value}, eqIEs es xs = true → RVs C S xs vs → IntsAre vs (es.map (·.val C.ι))
  | [], [], vs, _, hv => by rw [show vs = [] from hv]; exact .nil
  | e :: r, .int b :: s, vs, h, hv => by
    unfold eqIEs at h
    obtain ⟨h1, h2⟩ := Bool.and_eq_true_iff.mp h
    have := IE.beq_sound h1
    subst this
    obtain ⟨v, vr, rfl, ⟨t, rfl⟩, hr⟩ := hv
    exact .cons _ t (eqIEs_ints h2 hr)
  | [], _ :: _, _, h, _ => by cases h
  | _ :: _, [], _, h, _ => by cases h
  | _ :: _, .none :: _, _, h, _ | _ :: _, .bool _ :: _, _, h, _ | _ :: _, .str _ :: _, _, h, _ | _ :: _, .ref _ :: _, _, h, _ | _ :: _, .glob _ :: _, _, h, _ => by cases h
theorem okVx_at {W : List IE} {x : Option (AV × St)} (h : okVx W x = true) : ∃ i σ xs, x = some (.ref i, σ) ∧ tabsSome σ = true ∧ listAt σ i = some xs ∧ eqIEs W xs = true := by
  unfold okVx at h
  split at h
  · rename_i i σ
    obtain ⟨h1, h2⟩ := Bool.and_eq_true_iff.mp h
    split at h2
    · rename_i xs hx
      exact ⟨i, σ, xs, rfl, h1, hx, h2⟩
    · cases h2
  · cases h
/-- no def of the program is done by hand -/
theorem noPrim {C : WC} : PrimOk C lawM P4 := by
  intro k n h
  exfalso
  have h : lawFn k = some (.prim n) := h
  unfold lawFn at h
  split at h <;> cases h
/-- the letters of the rulers: heavy, long, spin -/
theorem kRul_ok {ι : Nat → Int} {r : Nat} (hr : r < 9) (h0 : 0 ≤ ι 0) (h30 : ι 0 ≤ 30) (l0 : 0 ≤ ι 1) (l12 : ι 1 ≤ 12) (hs : ι 2 % 9 = r) : (kRul r).Ok ι where
  fi := by
    intro p hp
    simp only [kRul, List.mem_cons, List.mem_nil_iff, or_false] at hp
    rcases hp with rfl | rfl | rfl | rfl | rfl | rfl | rfl <;> simp only [IE.val]
    all_goals first
      | (rw [Int.fmod_eq_emod_of_nonneg _ (by decide)]; omega)
      | (rw [Int.fmod_eq_emod_of_nonneg _ (by decide), Int.fdiv_eq_ediv_of_nonneg _ (by decide)]; omega)
  fb := by intro q hq; cases hq
  lb := by
    intro i b h
    match i, h with
    | 0, h => cases h; omega
    | 1, h => cases h; omega
    | 2, h => cases h
    | n + 3, h => simp [kRul] at h
  nn := by
    intro i h
    match i, h with
    | 0, h => exact h0
    | 1, h => exact l0
    | 2, h => cases h
    | n + 3, h => simp [kRul] at h
theorem kFlags_ok {ι : Nat → Int} (h0 : 0 ≤ ι 0) (h30 : ι 0 ≤ 30) (l0 : 0 ≤ ι 1) (l12 : ι 1 ≤ 12) : kFlags.Ok ι where
  fi := by intro p hp; cases hp
  fb := by intro q hq; cases hq
  lb := by
    intro i b h
    match i, h with
    | 0, h => cases h; omega
    | 1, h => cases h; omega
    | n + 2, h => simp [kFlags] at h
  nn := by
    intro i h
    match i, h with
    | 0, h => exact h0
    | 1, h => exact l0
    | n + 2, h => simp [kFlags] at h
theorem below9 {P : Nat → Prop} (h0 : P 0) (h1 : P 1) (h2 : P 2) (h3 : P 3) (h4 : P 4) (h5 : P 5) (h6 : P 6) (h7 : P 7) (h8 : P 8) (r : Nat) (h : r < 9) : P r := by
  rcases r with _ | _ | _ | _ | _ | _ | _ | _ | _ | r
  · exact h0
  · exact h1
  · exact h2
  · exact h3
  · exact h4
  · exact h5
  · exact h6
  · exact h7
  · exact h8
  · omega
theorem from4 {P : Nat → Prop} (h4 : P 4) (h5 : P 5) (h6 : P 6) (h7 : P 7) (h8 : P 8) (h9 : P 9) (h10 : P 10) (m : Nat) (a : 4 ≤ m) (b : m ≤ 10) : P m := by
  rcases m with _ | _ | _ | _ | m
  all_goals first | omega | skip
  rcases m with _ | _ | _ | _ | _ | _ | _ | m
  · exact h4
  · exact h5
  · exact h6
  · exact h7
  · exact h8
  · exact h9
  · exact h10
  · omega
end Mine


namespace Mine
noncomputable def fnAt : Nat → Nat
  | 0 => 21 | 1 => 28 | 2 => 35 | 3 => 42 | 4 => 49 | 5 => 56 | 6 => 63 | 7 => 71 | 8 => 78 | 9 => 85 | 10 => 92 | 11 => 97 | 12 => 104
  | _ => 0
end Mine

namespace Mine
/-- a def of the top -/
noncomputable def RecAt (V : Program) (k : Nat) : Prop := ∃ d, (recsOf V)[k]? = some d ∧ d.name = lawM.fnm k ∧ d.params = lawM.par k ∧ d.body = stBody (defAt (fnPos k)) ∧ d.scope = lawM.sc k
/-- the names of the globals' dict that count -/
noncomputable def topNames (es : Array DictEntry) : Prop := (∀ k, k < 13 → nsFind es (lawM.fnm k) = some (.ref (fnAt k))) ∧ (∃ t, nsFind es "CHAR_MAX" = some (.int 127 t)) ∧ (∃ t, nsFind es "_DIV_LIMIT" = some (.int 4000 t)) ∧
  nsFind es "COMPILER_FLAG_NAMES" = some (.ref 64) ∧ (∀ b : Bif, nsFind es b.nm = none) ∧ nsFind es "list" = none ∧ nsFind es "range" = none ∧ nsFind es "reversed" = none ∧ nsFind es "ValueError" = none ∧ nsFind es "str" = none
/-- what is known of the head's view and of its objects -/
structure HeadOk (V : Program) (H : Params → Frag) : Prop where
  rec0 : ∃ d, (recsOf V)[0]? = some d ∧ d.name = ("_grouping_intervals" : Str) ∧ d.params = gArgs ∧ d.body = gBody ∧ d.scope = gScope
  recs : ∀ k, 0 < k → k < 13 → RecAt V k
  names : ∀ p, ∃ o es ep, (H p).lookup 3 = some o ∧ o.data = .dict es ep ∧ topNames es
  flags : ∀ p, ∃ o, (H p).lookup 64 = some o ∧ KTD.keyedLook (fun b => List.lookup b [((64 : Addr), o)]) 64 (((lawM.gd 0).map (·.2)).getD [] |>.map fun q => (q.1, PyData.str q.2)) = true
  tabs : ∀ p, tabIn (H p) "_digits2int" = some (48, 44) ∧ tabIn (H p) "_int2digits" = some (41, 37)
  defs : (∃ d, (recsOf V).find? (fun e => e.name == ("_digits2int" : Str)) = some d) ∧ ∃ d, (recsOf V).find? (fun e => e.name == ("_int2digits" : Str)) = some d
section
variable {V : Program} {FR : Params → Frag}
theorem flags_tab (HO : HeadOk V FR) (p : Params) {h : Heap} (H : (FR p).In h) (prog : Program) (w : World) {h' : Heap} (hk : ∀ b o, h.get? b = some o → b ∉ [44, 37] → h'.get? b = some o) {t : List (Int × Str)} (ht : lawM.gd 0 = some (("COMPILER_FLAG_NAMES" : Str), t)) :
    IntTab prog w h' 64 (t.map fun p => (PyData.int p.1, PyData.str p.2)) := by
  obtain ⟨o, ho, hl⟩ := HO.flags p
  have x : Frag.In [((64 : Addr), o)] h' := by
    intro a o' e
    rw [List.lookup_cons] at e
    by_cases q : a = 64
    · subst q
      simp at e
      subst e
      exact hk 64 o (H 64 o ho) (by decide)
    · have : (a == 64) = false := by simpa using q
      rw [this] at e
      cases e
  have K := kt_keyed_in x hl prog w
  rw [ht] at K
  simp only [Option.map_some, Option.getD_some, List.map_map] at K
  exact K
end
end Mine

namespace Mine
noncomputable def lawFo (k : Nat) (o : Obj) (cl : List (Str × Addr)) (b : Addr) : Prop := ∃ n, lawM.inn k = some n ∧ ∃ nm doc pm ctv, o = fnMade nm n.q (lawM.par k) (lawM.body k) (lawM.sc k) cl doc pm b ctv
noncomputable def lawC (prog : Program) (w : World) (hb : Heap) (tabs : List Addr) (ga : Nat → Addr) (mg mb : Str → Option Value) (ι : Nat → Int) (os : OsState) : WC :=
  ⟨prog, w, hb, mg, mb, tabs, ga, lawM.nm, fun f => (lawM.sc f).names.length, ι, os, lawFo, [44, 37]⟩
/-- a scope's names are unlike, and none is a special one -/
noncomputable def namesOk : List (Str × NameKind) → Bool
  | [] => true
  | p :: r => !(r.any fun q => eqS q.1 p.1) && !(eqS p.1 "__debug__") && !(eqS p.1 "__classdict__") && namesOk r
theorem namesOk_at : ∀ {l : List (Str × NameKind)}, namesOk l = true → (∀ (i : Nat) x k, l[i]? = some (x, k) → l.lookup x = some k ∧ (x == ("__debug__" : Str)) = false ∧ (x == ("__classdict__" : Str)) = false) ∧
    ∀ (i j : Nat) x k k', l[i]? = some (x, k) → l[j]? = some (x, k') → i = j
  | [], _ => ⟨fun i x k h => by simp at h, fun i j x k k' h => by simp at h⟩
  | p :: r, H => by
    unfold namesOk at H
    simp only [Bool.and_eq_true, Bool.not_eq_true', eqS_iff] at H
    obtain ⟨⟨⟨h1, h2⟩, h3⟩, h4⟩ := H
    obtain ⟨r1, r2⟩ := namesOk_at h4
    have fresh : ∀ (i : Nat) x k, r[i]? = some (x, k) → (x == p.1) = false := by
      intro i x k hi
      have hm := List.mem_of_getElem? hi
      have := List.any_eq_false.mp h1 (x, k) hm
      simpa using this
    refine ⟨fun i x k hi => ?_, fun i j x k k' hi hj => ?_⟩
    · cases i with
      | zero =>
        cases hi
        exact ⟨by simp, h2, h3⟩
      | succ i =>
        have hi : r[i]? = some (x, k) := by simpa using hi
        obtain ⟨a, b, c⟩ := r1 i x k hi
        refine ⟨?_, b, c⟩
        rw [List.lookup_cons, fresh i x k hi]
        exact a
    · cases i with
      | zero =>
        cases hi
        cases j with
        | zero => rfl
        | succ j =>
          have hj : r[j]? = some (x, k') := by simpa using hj
          have := fresh j x k' hj
          simp at this
      | succ i =>
        have hi : r[i]? = some (x, k) := by simpa using hi
        cases j with
        | zero =>
          cases hj
          have := fresh i x k hi
          simp at this
        | succ j =>
          have hj : r[j]? = some (x, k') := by simpa using hj
          rw [r2 i j x k k' hi hj]
theorem scopes_ok (f : Nat) : namesOk (lawM.sc f).names = true ∧ (lawM.sc f).kind = .function ∧ (lawM.sc f).isCoroutine = false ∧ (lawM.sc f).isGenerator = false := by
  match f with
  | 0 => exact ⟨by decide +kernel, rfl, rfl, rfl⟩
  | 1 => exact ⟨by decide +kernel, rfl, rfl, rfl⟩
  | 2 => exact ⟨by decide +kernel, rfl, rfl, rfl⟩
  | 3 => exact ⟨by decide +kernel, rfl, rfl, rfl⟩
  | 4 => exact ⟨by decide +kernel, rfl, rfl, rfl⟩
  | 5 => exact ⟨by decide +kernel, rfl, rfl, rfl⟩
  | 6 => exact ⟨by decide +kernel, rfl, rfl, rfl⟩
  | 7 => exact ⟨by decide +kernel, rfl, rfl, rfl⟩
  | 8 => exact ⟨by decide +kernel, rfl, rfl, rfl⟩
  | 9 => exact ⟨by decide +kernel, rfl, rfl, rfl⟩
  | 10 => exact ⟨by decide +kernel, rfl, rfl, rfl⟩
  | 11 => exact ⟨by decide +kernel, rfl, rfl, rfl⟩
  | 12 => exact ⟨by decide +kernel, rfl, rfl, rfl⟩
  | 13 => exact ⟨by decide +kernel, rfl, rfl, rfl⟩
  | 14 => exact ⟨by decide +kernel, rfl, rfl, rfl⟩
  | 15 => exact ⟨by decide +kernel, rfl, rfl, rfl⟩
  | 16 => exact ⟨by decide +kernel, rfl, rfl, rfl⟩
  | 17 => exact ⟨by decide +kernel, rfl, rfl, rfl⟩
  | 18 => exact ⟨by decide +kernel, rfl, rfl, rfl⟩
  | n + 19 => exact ⟨rfl, rfl, rfl, rfl⟩
theorem boots : (∀ b : Bif, bootBuiltins b.nm = some (.builtin b.id)) ∧ bootBuiltins "list" = some (.type "list") ∧ bootBuiltins "range" = some (.type "range") ∧ bootBuiltins "reversed" = some (.type "reversed") ∧ bootBuiltins "ValueError" = some (.type "ValueError") ∧ bootBuiltins "str" = some (.type "str") := by
  refine ⟨fun b => ?_, by decide +kernel, by decide +kernel, by decide +kernel, by decide +kernel, by decide +kernel⟩
  cases b <;> decide +kernel
noncomputable def isProg : Fn → Bool
  | .prog .. => true
  | _ => false
theorem fn_lt {k : Nat} {F : Fn} (h : lawM.fn k = some F) : 0 < k ∧ k < 13 := by
  match k, h with
  | 0, h => cases h
  | 1, _ | 2, _ | 3, _ | 4, _ | 5, _ | 6, _ | 7, _ | 8, _ | 9, _ | 10, _ | 11, _ | 12, _ => omega
  | n + 13, h => cases h
end Mine

namespace Mine
noncomputable def PgOk (k np nl : Nat) (cells : List Nat) (body : Y) : Prop := chkY lawM k body = true ∧ np + nl = (lawM.sc k).names.length ∧ (∀ i, i < np → ∃ x kd, (lawM.sc k).names[i]? = some (x, kd) ∧ (kd = NameKind.local ∨ kd = NameKind.cell ∧ memN i cells = true)) ∧
    (∀ (vals : List Value) (pm cd doc : Value), vals.length = np → bindArgs (docDef (lawM.fnm k) (lawM.par k) (toSs lawM k body) (lawM.sc k) pm cd doc) ⟨vals, []⟩ = pure (((List.range np).map (lawM.nm k)).zip vals)) ∧
    (∀ (n j i : Nat), cells[j]? = some i → ∃ x, (lawM.sc k).names[i]? = some (x, NameKind.cell) ∧ (cellsFrom n (lawM.sc k).names []).lookup x = some (n + j))
@[elab_as_elim] theorem lt1 {P : Nat → Prop} (h0 : P 0) (i : Nat) (h : i < 1) : P i := by
  cases i with
  | zero => exact h0
  | succ i => exact absurd (Nat.le_of_lt_succ h) (Nat.not_succ_le_zero i)
@[elab_as_elim] theorem lt2 {P : Nat → Prop} (h0 : P 0) (h1 : P 1) (i : Nat) (h : i < 2) : P i := by
  cases i with
  | zero => exact h0
  | succ i => exact lt1 (P := fun i => P (i + 1)) h1 i (Nat.lt_of_succ_lt_succ h)
@[elab_as_elim] theorem lt3 {P : Nat → Prop} (h0 : P 0) (h1 : P 1) (h2 : P 2) (i : Nat) (h : i < 3) : P i := by
  cases i with
  | zero => exact h0
  | succ i => exact lt2 (P := fun i => P (i + 1)) h1 h2 i (Nat.lt_of_succ_lt_succ h)
@[elab_as_elim] theorem lt4 {P : Nat → Prop} (h0 : P 0) (h1 : P 1) (h2 : P 2) (h3 : P 3) (i : Nat) (h : i < 4) : P i := by
  cases i with
  | zero => exact h0
  | succ i => exact lt3 (P := fun i => P (i + 1)) h1 h2 h3 i (Nat.lt_of_succ_lt_succ h)
section
variable {α : Type} {P : List α → Prop}
@[elab_as_elim] theorem vn0 (h : P []) (l : List α) (hl : l.length = 0) : P l := by
  cases l with
  | nil => exact h
  | cons _ _ => cases hl
@[elab_as_elim] theorem vn1 (h : ∀ a, P [a]) (l : List α) (hl : l.length = 1) : P l := by
  cases l with
  | nil => cases hl
  | cons a l => exact vn0 (P := fun l => P (a :: l)) (h a) l (Nat.succ.inj hl)
@[elab_as_elim] theorem vn2 (h : ∀ a b, P [a, b]) (l : List α) (hl : l.length = 2) : P l := by
  cases l with
  | nil => cases hl
  | cons a l => exact vn1 (P := fun l => P (a :: l)) (h a) l (Nat.succ.inj hl)
@[elab_as_elim] theorem vn3 (h : ∀ a b c, P [a, b, c]) (l : List α) (hl : l.length = 3) : P l := by
  cases l with
  | nil => cases hl
  | cons a l => exact vn2 (P := fun l => P (a :: l)) (h a) l (Nat.succ.inj hl)
@[elab_as_elim] theorem vn4 (h : ∀ a b c d, P [a, b, c, d]) (l : List α) (hl : l.length = 4) : P l := by
  cases l with
  | nil => cases hl
  | cons a l => exact vn3 (P := fun l => P (a :: l)) (h a) l (Nat.succ.inj hl)
theorem at0 {Q : Nat → α → Prop} (j : Nat) (i : α) (h : ([] : List α)[j]? = some i) : Q j i := by simp at h
@[elab_as_elim] theorem atS {Q : Nat → α → Prop} {a : α} {l : List α} (h0 : Q 0 a) (hl : ∀ j i, l[j]? = some i → Q (j + 1) i) (j : Nat) (i : α) (h : (a :: l)[j]? = some i) : Q j i := by
  cases j with
  | zero => cases h; exact h0
  | succ j => exact hl j i h
end
theorem pg1 : PgOk 1 3 11 [] body1 := by
  refine ⟨chk1, rfl, fun i hi => ?_, fun vals pm cd doc hv => ?_, fun n j i h => by simp at h⟩
  · exact lt3 (⟨_, _, rfl, .inl rfl⟩) (⟨_, _, rfl, .inl rfl⟩) (⟨_, _, rfl, .inl rfl⟩) i hi
  · exact vn3 (fun _ _ _ => rfl) vals hv
theorem pg3 : PgOk 3 2 3 [1, 2, 3] body3 := by
  refine ⟨chk3, rfl, fun i hi => ?_, fun vals pm cd doc hv => ?_, fun n j i h => ?_⟩
  · exact lt2 (⟨_, _, rfl, .inl rfl⟩) (⟨_, _, rfl, .inr ⟨rfl, rfl⟩⟩) i hi
  · exact vn2 (fun _ _ => rfl) vals hv
  · exact atS ⟨_, rfl, rfl⟩ (atS ⟨_, rfl, rfl⟩ (atS ⟨_, rfl, rfl⟩ at0)) j i h
theorem pg4 : PgOk 4 2 2 [0, 1, 2] body4 := by
  refine ⟨chk4, rfl, fun i hi => ?_, fun vals pm cd doc hv => ?_, fun n j i h => ?_⟩
  · exact lt2 (⟨_, _, rfl, .inr ⟨rfl, rfl⟩⟩) (⟨_, _, rfl, .inr ⟨rfl, rfl⟩⟩) i hi
  · exact vn2 (fun _ _ => rfl) vals hv
  · exact atS ⟨_, rfl, rfl⟩ (atS ⟨_, rfl, rfl⟩ (atS ⟨_, rfl, rfl⟩ at0)) j i h
theorem pg8 : PgOk 8 2 8 [] body8 := by
  refine ⟨chk8, rfl, fun i hi => ?_, fun vals pm cd doc hv => ?_, fun n j i h => by simp at h⟩
  · exact lt2 (⟨_, _, rfl, .inl rfl⟩) (⟨_, _, rfl, .inl rfl⟩) i hi
  · exact vn2 (fun _ _ => rfl) vals hv
theorem pg5 : PgOk 5 2 11 [] body5 := by
  refine ⟨chk5, rfl, fun i hi => ?_, fun vals pm cd doc hv => ?_, fun n j i h => by simp at h⟩
  · exact lt2 (⟨_, _, rfl, .inl rfl⟩) (⟨_, _, rfl, .inl rfl⟩) i hi
  · exact vn2 (fun _ _ => rfl) vals hv
theorem pg6 : PgOk 6 2 5 [] body6 := by
  refine ⟨chk6, rfl, fun i hi => ?_, fun vals pm cd doc hv => ?_, fun n j i h => by simp at h⟩
  · exact lt2 (⟨_, _, rfl, .inl rfl⟩) (⟨_, _, rfl, .inl rfl⟩) i hi
  · exact vn2 (fun _ _ => rfl) vals hv
theorem pg7 : PgOk 7 1 6 [] body7 := by
  refine ⟨chk7, rfl, fun i hi => ?_, fun vals pm cd doc hv => ?_, fun n j i h => by simp at h⟩
  · exact lt1 (⟨_, _, rfl, .inl rfl⟩) i hi
  · exact vn1 (fun _ => rfl) vals hv
theorem pg9 : PgOk 9 4 17 [] body9 := by
  refine ⟨chk9, rfl, fun i hi => ?_, fun vals pm cd doc hv => ?_, fun n j i h => by simp at h⟩
  · exact lt4 (⟨_, _, rfl, .inl rfl⟩) (⟨_, _, rfl, .inl rfl⟩) (⟨_, _, rfl, .inl rfl⟩) (⟨_, _, rfl, .inl rfl⟩) i hi
  · exact vn4 (fun _ _ _ _ => rfl) vals hv
theorem pg10 : PgOk 10 4 14 [] body10 := by
  refine ⟨chk10, rfl, fun i hi => ?_, fun vals pm cd doc hv => ?_, fun n j i h => by simp at h⟩
  · exact lt4 (⟨_, _, rfl, .inl rfl⟩) (⟨_, _, rfl, .inl rfl⟩) (⟨_, _, rfl, .inl rfl⟩) (⟨_, _, rfl, .inl rfl⟩) i hi
  · exact vn4 (fun _ _ _ _ => rfl) vals hv
theorem pg11 : PgOk 11 3 16 [3, 6, 11] body11 := by
  refine ⟨chk11, rfl, fun i hi => ?_, fun vals pm cd doc hv => ?_, fun n j i h => ?_⟩
  · exact lt3 (⟨_, _, rfl, .inl rfl⟩) (⟨_, _, rfl, .inl rfl⟩) (⟨_, _, rfl, .inl rfl⟩) i hi
  · exact vn3 (fun _ _ _ => rfl) vals hv
  · exact atS ⟨_, rfl, rfl⟩ (atS ⟨_, rfl, rfl⟩ (atS ⟨_, rfl, rfl⟩ at0)) j i h
theorem pgs {k np nl : Nat} {cells : List Nat} {body : Y} (h : lawM.fn k = some (.prog np nl cells body)) : PgOk k np nl cells body ∧ toSs lawM k body = stBody (defAt (fnPos k)) := by
  match k, h with
  | 0, h => cases h
  | 1, h => cases h; exact ⟨pg1, body1_ok⟩
  | 2, h => cases h
  | 3, h => cases h; exact ⟨pg3, body3_ok⟩
  | 4, h => cases h; exact ⟨pg4, body4_ok⟩
  | 5, h => cases h; exact ⟨pg5, body5_ok⟩
  | 6, h => cases h; exact ⟨pg6, body6_ok⟩
  | 7, h => cases h; exact ⟨pg7, body7_ok⟩
  | 8, h => cases h; exact ⟨pg8, body8_ok⟩
  | 9, h => cases h; exact ⟨pg9, body9_ok⟩
  | 10, h => cases h; exact ⟨pg10, body10_ok⟩
  | 11, h => cases h; exact ⟨pg11, body11_ok⟩
  | 12, h => cases h
  | n + 13, h => cases h
section
variable {V : Program} {FR : Params → Frag}
theorem tabs_at (HO : HeadOk V FR) {L : List Str} {mean : ExcName → Option Value} {w : World} {h : Heap} {mg mb : Str → Option Value} (T : Top V L mean mg mb h) (Y1 : (FR w.params).In h) : TabsAt [(48, 44), (41, 37)] h := by
  intro q hq
  rcases List.mem_cons.mp hq with rfl | hq
  · obtain ⟨d, e⟩ := HO.defs.1
    exact tab_of (x := "_digits2int") T Y1 e (HO.tabs _).1
  · obtain ⟨d, e⟩ := HO.defs.2
    rw [List.mem_singleton.mp hq]
    exact tab_of (x := "_int2digits") T Y1 e (HO.tabs _).2
end
noncomputable def InnOk (k : Nat) (n : Inn) : Prop := (lawM.fn k).isNone = true ∧ (lawM.fn n.mkr).isSome = true ∧ chkY lawM k n.body = true ∧ lawM.body k = toSs lawM k n.body ∧ n.np + n.nl = (lawM.sc k).names.length ∧
    (∀ i, i < n.np → ∃ x, (lawM.sc k).names[i]? = some (x, NameKind.local)) ∧ (lawM.par k).defaults = [] ∧ (lawM.par k).kw_defaults = [] ∧ (∀ env, annTrees (lawM.par k) none env = []) ∧
    (∀ (nm : Str) (cl : List (Str × Addr)) (vals : List Value) (doc pm cdv ctv : Value), vals.length = n.np → bindArgs (fnX nm n.q (lawM.par k) (lawM.body k) (lawM.sc k) cl .none .none doc pm none cdv ctv) ⟨vals, []⟩ = pure (((List.range n.np).map (lawM.nm k)).zip vals)) ∧
    (∀ x ∈ (lawM.sc k).names, x.2 ≠ NameKind.cell) ∧ okCells lawM k n.mkr n.fm = true
theorem noCells {l : List (Str × NameKind)} (h : l.all (fun y => !(kindEq y.2 .cell)) = true) : ∀ x ∈ l, x.2 ≠ NameKind.cell := by
  intro x hx e
  have := List.all_eq_true.mp h x hx
  rw [e] at this
  cases this
theorem inn17 {n : Inn} (h : lawM.inn 17 = some n) : InnOk 17 n := by
  cases h
  refine ⟨rfl, rfl, chk17, body17_ok, rfl, fun i hi => ?_, rfl, rfl, fun env => rfl, fun nm cl vals doc pm cdv ctv hv => ?_, noCells (by decide +kernel), by decide +kernel⟩
  · exact lt3 (⟨_, rfl⟩) (⟨_, rfl⟩) (⟨_, rfl⟩) i hi
  · exact vn3 (fun _ _ _ => rfl) vals hv
theorem inn18 {n : Inn} (h : lawM.inn 18 = some n) : InnOk 18 n := by
  cases h
  refine ⟨rfl, rfl, chk18, body18_ok, rfl, fun i hi => ?_, rfl, rfl, fun env => rfl, fun nm cl vals doc pm cdv ctv hv => ?_, noCells (by decide +kernel), by decide +kernel⟩
  · exact lt2 (⟨_, rfl⟩) (⟨_, rfl⟩) i hi
  · exact vn2 (fun _ _ => rfl) vals hv
theorem inn_is {k : Nat} {n : Inn} (h : lawM.inn k = some n) : k = 17 ∨ k = 18 := by
  by_cases h17 : k = 17
  · exact .inl h17
  · by_cases h18 : k = 18
    · exact .inr h18
    · have : lawInn k = none := by
        unfold lawInn
        split
        · exact absurd rfl h17
        · exact absurd rfl h18
        · rfl
      rw [show lawM.inn k = lawInn k from rfl, this] at h
      cases h
theorem inns {k : Nat} {n : Inn} (h : lawM.inn k = some n) : InnOk k n := by
  rcases inn_is h with rfl | rfl
  · exact inn17 h
  · exact inn18 h
theorem mok {V : Program} {FR : Params → Frag} (HO : HeadOk V FR) {L : List Str} {mean : ExcName → Option Value} {prog : Program} {w : World} {h hb : Heap} {tabs : List Addr} {ga : Nat → Addr} {mg mb : Str → Option Value} {ι : Nat → Int} {os : OsState} (T : Top V L mean mg mb h)
    (Y1 : (FR w.params).In h) (hkp : ∀ b o, h.get? b = some o → b ∉ [44, 37] → hb.get? b = some o) (htd : ∀ b ∈ tabs, h.get? b = none) (tal : ∀ b ∈ tabs, ∃ o, hb.get? b = some o ∧ IsD o) (hga : ga 0 = 64) :
    MOk (lawC prog w hb tabs ga mg mb ι os) lawM := by
  have hT := tabs_at HO T Y1
  obtain ⟨o3, es, ep, l3, d3, N⟩ := HO.names w.params
  have mgAt : ∀ x, nsFind es x = mg x := by
    obtain ⟨o, es', ep', ho, hd', _, hm⟩ := T.g
    have : o = o3 := by
      have h1 := Y1 3 o3 l3
      rw [show (mainGlobals : Addr) = 3 from rfl, h1] at ho
      exact (Option.some.inj ho).symm
    subst this
    rw [d3] at hd'
    cases hd'
    exact hm
  obtain ⟨n1, ⟨t1, n2⟩, ⟨t2, n3⟩, n4, n5, n6, n7, n8, n9, n10⟩ := N
  obtain ⟨b1, b2, b3, b4, b5, b6⟩ := boots
  have noName : ∀ x : Str, eqS x "__name__" = false → mb x = bootBuiltins x := fun x hx => T.builtins x (fun e => by rw [e, eqS_iff] at hx; simp at hx)
  have keep : ∀ {b : Addr} {o : Obj}, h.get? b = some o → o ≠ tabObj #[] → hb.get? b = some o := by
    intro b o e hn
    refine hkp b o e fun q => hn ?_
    rcases List.mem_cons.mp q with rfl | q
    · have := (hT (48, 44) (by simp)).2
      rw [e] at this; exact Option.some.inj this
    · rw [List.mem_singleton.mp q] at e
      have := (hT (41, 37) (by simp)).2
      rw [e] at this; exact Option.some.inj this
  have keepNs : ∀ {a : Addr} {m : Str → Option Value}, h.Ns a m → hb.Ns a m := fun ⟨o, es, ep, ho, hd, r⟩ => ⟨o, es, ep, keep ho (fun q => by rw [q] at hd; cases hd), hd, r⟩
  have nt : ∀ {a : Addr} {o : Obj}, h.get? a = some o → a ∉ tabs := fun e q => by rw [htd _ q] at e; cases e
  have ntNs : ∀ {a : Addr} {m : Str → Option Value}, h.Ns a m → a ∉ tabs := fun ⟨o, es, ep, ho, r⟩ => nt ho
  refine { nm := rfl, cnt := fun _ => rfl, look := fun f i x k e => ((namesOk_at (scopes_ok f).1).1 i x k e).1, inj := fun f i j x k k' e e' => (namesOk_at (scopes_ok f).1).2 i j x k k' e e',
           dbg := fun f i x k e => ((namesOk_at (scopes_ok f).1).1 i x k e).2.1, cls := fun f i x k e => ((namesOk_at (scopes_ok f).1).1 i x k e).2.2,
           kind := fun f => (scopes_ok f).2.1, co := fun f => (scopes_ok f).2.2.1, gen := fun f => (scopes_ok f).2.2.2, g := keepNs T.g, b := keepNs T.b, lim := let ⟨mc, a, r⟩ := T.nolimit; ⟨mc, keepNs a, r⟩,
           tg := ⟨ntNs T.g, ntNs T.b, let ⟨mc, a, r⟩ := T.nolimit; ntNs a⟩,
           tal := tal, bfs := fun b => ⟨(mgAt _).symm.trans (n5 b), (noName _ (by cases b <;> decide +kernel)).trans (b1 b)⟩,
           tys := ⟨⟨(mgAt _).symm.trans n6, (noName _ (by decide +kernel)).trans b2⟩, ⟨(mgAt _).symm.trans n7, (noName _ (by decide +kernel)).trans b3⟩, ⟨(mgAt _).symm.trans n8, (noName _ (by decide +kernel)).trans b4⟩⟩,
           gi := ?_, gd := ?_, fn := ?_, pg := fun k np nl cells body e => (pgs e).1, fo := fun k o cl b x => x, fo' := fun k n hn nm doc pm ctv cl b => ⟨n, hn, nm, doc, pm, ctv, rfl⟩, inn := fun k n hn => inns hn, gn := ?_, made := ?_ }
  · intro i x k e
    match i, e with
    | 0, e => cases e; exact ⟨t1, (mgAt _).symm.trans n2⟩
    | 1, e => cases e; exact ⟨t2, (mgAt _).symm.trans n3⟩
    | n + 2, e => cases e
  · intro i x t e
    match i, e with
    | 0, e =>
      have hx : x = ("COMPILER_FLAG_NAMES" : Str) := by cases e; rfl
      subst hx
      refine ⟨((mgAt _).symm.trans n4).trans (by show _ = some (Value.ref (ga 0)); rw [hga]), fun h' hk => ?_⟩
      show IntTab prog w h' (ga 0) _
      rw [hga]
      exact flags_tab HO w.params Y1 prog w (fun b o eb hb' => hk b o (hkp b o eb hb') (nt eb)) e
    | n + 1, e => cases e
  · intro k F e
    obtain ⟨k0, k13⟩ := fn_lt e
    obtain ⟨d, hd', e1, e2, e3, e4⟩ := HO.recs k k0 k13
    obtain ⟨a, o, pm, code, doc, f1, f2, f3, f4⟩ := T.fn d (List.mem_of_getElem? hd')
    rw [e1, e2, e3, e4] at f3
    rw [e1] at f1 f4
    refine ⟨a, o, _, f1, keep f2 (fun q => by rw [q] at f3; cases f3), nt f2, f3, fun np nl cells body eF => ?_⟩
    subst eF
    obtain ⟨c, oc, vs, tq, rfl, g2, g3, g4⟩ := f4
    refine ⟨pm, _, doc, by rw [(pgs e).2], c, oc, vs, tq, rfl, nt g2, keep g2 (fun q => ?_), g3, g4⟩
    rw [q] at g3
    cases g3
    simp at g4
  · intro k hk
    have hk0 : k = 0 := by simpa [lawM] using hk
    subst hk0
    obtain ⟨d, hd', e1, e2, e3, e4⟩ := HO.rec0
    obtain ⟨a, o, pm, code, doc, f1, f2, f3, f4⟩ := T.fn d (List.mem_of_getElem? hd')
    rw [e1, e2, e3, e4] at f3
    rw [e1] at f1 f4
    obtain ⟨c, oc, vs, tq, rfl, g2, g3, g4⟩ := f4
    refine ⟨⟨a, o, _, f1, keep f2 (fun q => by rw [q] at f3; cases f3), nt f2, f3, pm, _, doc, rfl, c, oc, vs, tq, rfl, nt g2, keep g2 (fun q => ?_), g3, g4⟩, fun v pm cd doc => rfl, ⟨t1, (mgAt _).symm.trans n2⟩,
      ⟨(mgAt _).symm.trans n9, (noName _ (by decide +kernel)).trans b5⟩, ⟨(mgAt _).symm.trans n10, (noName _ (by decide +kernel)).trans b6⟩⟩
    rw [q] at g3
    cases g3
    simp at g4
  · intro k n hn
    have main : ∀ (x : Str) (c P : Addr), tabIn (FR w.params) x = some (c, P) → CodeHd h c P ∧ h.get? P = some (tabObj #[]) → ∃ (_ : P ≠ mainGlobals), hb.BuiltinsAt mg P ∧
        ∀ a o fd, mg x = some (.ref a) → (∃ o', h.get? a = some o' ∧ ∃ fd, o'.data = .func fd) → hb.get? a = some o → o.data = .func fd → ∃ c, fd.code = .ref c ∧ CodeHd hb c P := by
      intro x c P ht ⟨hc, hP⟩
      have hPg : P ≠ mainGlobals := by
        rintro rfl
        obtain ⟨o, es, ep, ho, hd, _⟩ := T.g
        rw [hP] at ho; cases ho; cases hd
      refine ⟨hPg, ?_, fun a o fd hm ⟨o', ho', fd', hd''⟩ ho hd => ?_⟩
      · obtain ⟨bm, ob, c1, c2, c3, c4, c5, c6⟩ := T.bmain
        refine ⟨bm, ob, c1, c2, fun q => ?_, fun q => ?_, keep c3 (fun q => by rw [q] at c4; cases c4), c4, c5, c6⟩
        · obtain ⟨o, es, ep, ho, hd, _⟩ := T.g
          rw [← q, c3] at ho; cases ho; rw [hd] at c6; cases c6
        · rw [q, hP] at c3; cases c3; cases c4
      · have := keep ho' (fun q => by rw [q] at hd''; cases hd'')
        rw [ho] at this
        cases this
        refine ⟨c, law_code Y1 T.g ht hm ho' hd, ?_⟩
        obtain ⟨o, vs, file, tf, flags, tg, inF, text, tt, e, r1, r⟩ := hc
        exact ⟨o, vs, file, tf, flags, tg, inF, text, tt, keep e (fun q => by rw [q] at r1; cases r1), r1, r⟩
    have fnOf : ∀ k, 0 < k → k < 13 → ∀ a, mg (lawM.fnm k) = some (.ref a) → ∃ o', h.get? a = some o' ∧ ∃ fd, o'.data = .func fd := by
      intro k k0 k13 a hm
      obtain ⟨d, hd', e1, e2, e3, e4⟩ := HO.recs k k0 k13
      obtain ⟨a', o, pm, code, doc, f1, f2, f3, f4⟩ := T.fn d (List.mem_of_getElem? hd')
      rw [e1, hm] at f1
      cases f1
      exact ⟨o, f2, _, f3⟩
    rcases inn_is hn with rfl | rfl
    · cases hn
      obtain ⟨m1, m2, m3⟩ := main "_int2digits" 41 37 (HO.tabs _).2 (hT (41, 37) (by simp))
      exact ⟨37, rfl, m1, m2, fun a o fd hm ho hd => m3 a o fd hm (fnOf 3 (by decide) (by decide) a hm) ho hd⟩
    · cases hn
      obtain ⟨m1, m2, m3⟩ := main "_digits2int" 48 44 (HO.tabs _).1 (hT (48, 44) (by simp))
      exact ⟨44, rfl, m1, m2, fun a o fd hm ho hd => m3 a o fd hm (fnOf 4 (by decide) (by decide) a hm) ho hd⟩
end Mine

namespace Mine
section
variable {C : WC} {S : List Addr} {s s' : Shared} {σ σ₂ : St} {A : Around}
/-- back from a run with letters of its own: the two tables may have changed, the frames in their slots -/
theorem Rel.back (R : Rel C σ S s) {a0 a1 : Addr} (h0 : S[0]? = some a0) (h1 : S[1]? = some a1) {t0 t1 : AObj} (g0 : σ.h.get 0 = some t0) (g1 : σ.h.get 1 = some t1) (l0 : t0.live = true) (l1 : t1.live = true) (k0 : t0.kd ≠ 0) (k1 : t1.kd ≠ 0)
    (hn : σ₂.n = σ.n) (hj : ∀ j ao, σ₂.h.get j = some ao → (j = 0 ∧ RO C S s'.heap a0 ao) ∨ (j = 1 ∧ RO C S s'.heap a1 ao) ∨ (j ≠ 0 ∧ j ≠ 1 ∧ σ.h.get j = some ao))
    (hos : s'.os = s.os) (hb : AllBare s'.gens) (hg : ∀ (g : Nat) x, s.gens[g]? = some x → s'.gens[g]? = some x) (hd : ∀ b o, s.heap.get? b = some o → ∃ o', s'.heap.get? b = some o')
    (hs : ∀ b o, b ≠ a0 → b ≠ a1 → s.heap.get? b = some o → s'.heap.get? b = some o ∨ (IsD o ∧ (b ∈ S ∨ b ∈ C.tabs) ∧ ∃ sl, s'.heap.get? b = some { o with slots := sl })) :
    Rel C σ₂ S s' ∧ Grow C S s S s' := by
  have m0 : a0 ∈ S := List.mem_of_getElem? h0
  have m1 : a1 ∈ S := List.mem_of_getElem? h1
  have ne : ∀ b, b ∉ S → b ≠ a0 ∧ b ≠ a1 := fun b hb => ⟨fun e => hb (e ▸ m0), fun e => hb (e ▸ m1)⟩
  have nohb : ∀ b o, C.hb.get? b = some o → b ≠ a0 ∧ b ≠ a1 := fun b o e => ⟨fun q => (by rw [q, (R.off a0 m0).1] at e; cases e), fun q => (by rw [q, (R.off a1 m1).1] at e; cases e)⟩
  have lv : ∀ j ao, σ₂.h.get j = some ao → ao.live = true → ∃ w, σ.h.get j = some w ∧ w.live = true := by
    intro j ao e hl
    rcases hj j ao e with ⟨rfl, _⟩ | ⟨rfl, _⟩ | ⟨_, _, q⟩
    · exact ⟨t0, g0, l0⟩
    · exact ⟨t1, g1, l1⟩
    · exact ⟨ao, q, hl⟩
  have notD : ∀ {a : Addr} {i : Nat} {t : AObj}, S[i]? = some a → σ.h.get i = some t → t.live = true → t.kd ≠ 0 → ∀ o, s.heap.get? a = some o → ¬ IsD o := by
    intro a i t hi hg hl hk o e d
    obtain ⟨a', ha', H⟩ := R.objs i t hg
    have : a' = a := by rw [hi] at ha'; exact (Option.some.inj ha').symm
    subst this
    exact hk (RO.kd_of H hl e d)
  refine ⟨⟨fun b o e q => ?_, fun b o e => let ⟨o', e'⟩ := R.dom b o e; hd b o' e', fun i j b x y e1 e2 e3 e4 e5 e6 => ?_, fun b hb' => let ⟨x, o, e⟩ := R.off b hb'; ⟨x, hd b o e⟩, by rw [hn]; exact R.len, fun j ao e => ?_, hb, by rw [hos]; exact R.os, R.ta⟩,
    ⟨⟨[], by simp, fun _ h => by cases h⟩, fun b o hb' e ht => ?_, hd, fun b o e d => ?_, hg, fun b o hb' ht e => ?_⟩⟩
  · obtain ⟨n0, n1⟩ := nohb b o e
    rcases hs b o n0 n1 (R.keep b o e q) with h | ⟨_, h | h, _⟩
    · exact h
    · rw [(R.off b h).1] at e; cases e
    · exact absurd h q
  · obtain ⟨x', e3', l3⟩ := lv i x e3 e5
    obtain ⟨y', e4', l4⟩ := lv j y e4 e6
    exact R.nodup i j b x' y' e1 e2 e3' e4' l3 l4
  · rcases hj j ao e with ⟨rfl, H⟩ | ⟨rfl, H⟩ | ⟨j0, j1, q⟩
    · exact ⟨a0, h0, H⟩
    · exact ⟨a1, h1, H⟩
    · obtain ⟨b, hb', H⟩ := R.objs j ao q
      refine ⟨b, hb', ?_⟩
      obtain ⟨o, ho⟩ := H.some
      cases hl : ao.live with
      | false =>
        cases ao <;> first | (cases hl; done) | exact hd b o ho
      | true =>
        have n0 : b ≠ a0 := fun e' => j0 (R.nodup j 0 b ao t0 hb' (by rw [e']; exact h0) q g0 hl l0)
        have n1 : b ≠ a1 := fun e' => j1 (R.nodup j 1 b ao t1 hb' (by rw [e']; exact h1) q g1 hl l1)
        rcases hs b o n0 n1 ho with h | ⟨d, _, sl, h⟩
        · exact H.heap fun x e' => by rw [ho] at e'; cases e'; exact h
        · have hk := RO.kd_of H hl ho d
          cases ao <;> first | (cases hk; done) | skip
          obtain ⟨hc, m, ⟨o', es, ep, ho', hd', hr⟩, q'⟩ := H
          rw [ho] at ho'
          cases ho'
          exact ⟨hc, m, ⟨_, es, ep, h, hd', hr⟩, q'⟩
  · obtain ⟨n0, n1⟩ := ne b hb'
    rcases hs b o n0 n1 e with h | ⟨_, h | h, _⟩
    · exact h
    · exact absurd h hb'
    · exact absurd h ht
  · have n0 : b ≠ a0 := fun q => by subst q; exact notD h0 g0 l0 k0 o e d
    have n1 : b ≠ a1 := fun q => by subst q; exact notD h1 g1 l1 k1 o e d
    rcases hs b o n0 n1 e with h | ⟨_, _, sl, h⟩
    · exact ⟨o, h, d⟩
    · obtain ⟨es, n, q⟩ := d
      exact ⟨_, h, es, n, q⟩
  · obtain ⟨n0, n1⟩ := ne b hb'
    rcases hs b o n0 n1 e with h | ⟨_, _, h⟩
    · exact ⟨o.slots, h⟩
    · exact h
end
/-- the world of the law's own lines -/
noncomputable def topC (prog : Program) (w : World) (hb : Heap) (ga : Nat → Addr) (mg mb : Str → Option Value) (ι : Nat → Int) (os : OsState) : WC := { lawC prog w hb [] ga mg mb ι os with fo := fun _ _ _ _ => False }
section
variable {V : Program} {FR : Params → Frag} {L : List Str} {mean : ExcName → Option Value} {prog : Program} {w : World} {h : Heap} {ga : Nat → Addr} {mg mb : Str → Option Value} {ι : Nat → Int} {os : OsState}
theorem mokT (HO : HeadOk V FR) (T : Top V L mean mg mb h) (Y1 : (FR w.params).In h) (hga : ga 0 = 64) : MOk (topC prog w (ghostOf h [(48, 44), (41, 37)]) ga mg mb ι os) lawT := by
  have O : MOk (lawC prog w (ghostOf h [(48, 44), (41, 37)]) [] ga mg mb ι os) lawM := mok HO T Y1 (fun b o e hb => ghost_ne e hb) (fun b hb => by cases hb) (fun b hb => by cases hb) hga
  refine { nm := rfl, cnt := fun _ => rfl, look := O.look, inj := O.inj, dbg := O.dbg, cls := O.cls, kind := O.kind, co := O.co, gen := O.gen, g := O.g, b := O.b, lim := O.lim, tg := O.tg, gi := O.gi, tal := O.tal, bfs := O.bfs, tys := O.tys, gd := O.gd, fn := ?_, pg := ?_, fo := fun k o cl b x => x.elim, fo' := fun k n x => (by cases x), inn := fun k n x => (by cases x), gn := fun k x => (by cases x), made := fun k n x => (by cases x) }
  · intro k F e
    have e : lawFnT k = some F := e
    have main : ∀ k F', lawM.fn k = some F' → ∃ a o fd, mg (lawM.fnm k) = some (.ref a) ∧ (ghostOf h [(48, 44), (41, 37)]).get? a = some o ∧ a ∉ ([] : List Addr) ∧ o.data = .func fd := by
      intro k F' e
      obtain ⟨a, o, fd, g1, g2, g3, g4, _⟩ := O.fn k F' e
      exact ⟨a, o, fd, g1, g2, g3, g4⟩
    unfold lawFnT at e
    split at e
    · obtain ⟨a, o, fd, g1, g2, g3, g4⟩ := main 9 _ rfl
      cases e
      exact ⟨a, o, fd, g1, g2, g3, g4, fun np nl cells body x => by cases x⟩
    · obtain ⟨a, o, fd, g1, g2, g3, g4⟩ := main 10 _ rfl
      cases e
      exact ⟨a, o, fd, g1, g2, g3, g4, fun np nl cells body x => by cases x⟩
    · obtain ⟨a, o, fd, g1, g2, g3, g4⟩ := main 11 _ rfl
      cases e
      exact ⟨a, o, fd, g1, g2, g3, g4, fun np nl cells body x => by cases x⟩
    · cases e
  · intro k np nl cells body e
    have e : lawFnT k = some (.prog np nl cells body) := e
    unfold lawFnT at e
    split at e <;> cases e
/-- a run of one of the three, seen from the law -/
theorem run_in (HO : HeadOk V FR) (T : Top V L mean mg mb h) (Y1 : (FR w.params).In h) (hga : ga 0 = 64) {σ : St} {S : List Addr} {s : Shared} {A : Around} {k i n : Nat} {avs : List AV} {us : List Value} {σ' : St} {K : Facts} {ι' : Nat → Int} {fa : Addr} {E : Value → Shared → Prop} {Q : Value → Shared → Prop}
    (htn : tabsNone σ = true) (a : AOk A 0) (Tk : Stk (topC prog w (ghostOf h [(48, 44), (41, 37)]) ga mg mb ι os) S A s) (R : Rel (topC prog w (ghostOf h [(48, 44), (41, 37)]) ga mg mb ι os) σ S s)
    (hfa : mg (lawM.fnm k) = some (.ref fa)) (HK : K.Ok ι') (hrun : callFn lawM P4 (ev K lawM P4 n) 0 k avs σ0 = some (.ref i, σ')) {xs : List AV} (hx : listAt σ' i = some xs)
    (hv : ∀ hb tabs, RVs (lawC prog w hb tabs ga mg mb ι' os) [44, 37] avs us) (ht : ∃ l c st l' c' st', σ'.h.get 0 = some (.tab l c st) ∧ σ'.h.get 1 = some (.tab l' c' st'))
    (hq : ∀ (b : Addr) (vs : List Value) (nn : Nat) (s' : Shared), b ∉ S → s.heap.get? b = none → IsL s'.heap b vs.toArray nn → (∃ hb tabs S', RVs (lawC prog w hb tabs ga mg mb ι' os) S' xs vs) →
      (tabsNone σ' = true → Rel (topC prog w (ghostOf h [(48, 44), (41, 37)]) ga mg mb ι os) σ S s' ∧ Grow (topC prog w (ghostOf h [(48, 44), (41, 37)]) ga mg mb ι os) S s S s') →
      (Rel (topC prog w (ghostOf h [(48, 44), (41, 37)]) ga mg mb ι os) ((σ.put 0 .tabx).put 1 .tabx) S s' ∧ Grow (topC prog w (ghostOf h [(48, 44), (41, 37)]) ga mg mb ι os) S s S s') → Q (.ref b) s') :
    wpAny (model prog w) A (call (.ref fa) us) Q E s := by
  obtain ⟨htn0, htn1⟩ := Bool.and_eq_true_iff.mp htn
  have t0 := noneTab_at htn0
  have t1 := noneTab_at htn1
  have S0 : S[0]? = some 44 := R.ta 0 44 rfl
  have S1 : S[1]? = some 37 := R.ta 1 37 rfl
  have tab0 : s.heap.get? 44 = some (tabObj #[]) := by
    obtain ⟨a, ha, H⟩ := R.objs 0 _ t0
    rw [S0] at ha; cases ha; exact H
  have tab1 : s.heap.get? 37 = some (tabObj #[]) := by
    obtain ⟨a, ha, H⟩ := R.objs 1 _ t1
    rw [S1] at ha; cases ha; exact H
  have m0 : (44 : Addr) ∈ S := List.mem_of_getElem? S0
  have m1 : (37 : Addr) ∈ S := List.mem_of_getElem? S1
  obtain ⟨lst, hfr, hstk⟩ := Tk
  have hT := tabs_at HO T Y1
  have dictNot : ∀ b o, s.heap.get? b = some o → IsD o → b ∉ ([44, 37] : List Addr) := by
    intro b o e ⟨es, nn, d⟩ hm
    rcases List.mem_cons.mp hm with rfl | hm
    · rw [tab0] at e; cases e; cases d
    · rw [List.mem_singleton.mp hm, tab1] at e; cases e; cases d
  have hfrm : ∀ x, x ∈ lst.filterMap (·.frame) → ∃ o, s.heap.get? x = some o ∧ IsD o ∧ x ∈ S := by
    intro x hx
    obtain ⟨e', he', hfe⟩ := List.mem_filterMap.mp hx
    obtain ⟨_, L2, o2, h1, h2, h3, h4⟩ := hstk e' he'
    rw [h1] at hfe
    cases hfe
    refine ⟨o2, h3, h4, ?_⟩
    rcases h2 with h2 | h2
    · exact h2
    · cases h2
  have O' : MOk (lawC prog w (hideAll s.heap [44, 37]) (lst.filterMap (·.frame)) ga mg mb ι' os) lawM := by
    refine mok HO T Y1 (fun b o e hb => hideAll_get _ (R.keep b o (ghost_ne e hb) List.not_mem_nil) hb) (fun b hb => ?_) (fun b hb => ?_) hga
    · obtain ⟨o, e, d, hm⟩ := hfrm b hb
      cases q : h.get? b with
      | none => rfl
      | some o' =>
        have := (R.off b hm).1
        rw [show (topC prog w (ghostOf h [(48, 44), (41, 37)]) ga mg mb ι os).hb.get? b = some o' from ghost_ne q (dictNot b o e d)] at this
        cases this
    · obtain ⟨o, e, d, hm⟩ := hfrm b hb
      exact ⟨o, hideAll_get _ e (dictNot b o e d), d⟩
  have R' : Rel (lawC prog w (hideAll s.heap [44, 37]) (lst.filterMap (·.frame)) ga mg mb ι' os) σ0 [44, 37] s := by
    refine ⟨fun b o e _ => of_hideAll _ e, fun b o e => ⟨o, of_hideAll _ e⟩, fun i j b x y h1 h2 h3 h4 _ _ => ?_, fun b hb => ⟨hideAll_none _ hb, ?_⟩, rfl, fun j ao e => ?_, R.bare, R.os, fun i a e => e⟩
    · match i, j, h1, h2 with
      | 0, 0, _, _ => rfl
      | 1, 1, _, _ => rfl
      | 0, 1, h1, h2 => cases h1; cases h2
      | 1, 0, h1, h2 => cases h1; cases h2
      | i + 2, _, h1, _ => simp at h1
      | _, j + 2, _, h2 => simp at h2
    · rcases List.mem_cons.mp hb with rfl | hb
      · exact ⟨_, tab0⟩
      · rw [List.mem_singleton.mp hb]; exact ⟨_, tab1⟩
    · have e : (Tr.node (some (AObj.tab 61 4 none)) (.node (some (.tab 46 4 none)) .nil .nil) .nil).get j = some ao := e
      rw [Tr.get_node] at e
      by_cases j0 : j = 0
      · subst j0; rw [if_pos rfl] at e; cases e; exact ⟨44, rfl, tab0⟩
      · rw [if_neg j0] at e
        by_cases jm : j % 2 = 1
        · rw [if_pos jm, Tr.get_node] at e
          by_cases j1 : j / 2 = 0
          · rw [if_pos j1] at e; cases e
            have : j = 1 := by omega
            subst this
            exact ⟨37, rfl, tab1⟩
          · rw [if_neg j1] at e
            split at e <;> simp [Tr.get] at e
        · rw [if_neg jm] at e; simp [Tr.get] at e
  have Tk' : Stk (lawC prog w (hideAll s.heap [44, 37]) (lst.filterMap (·.frame)) ga mg mb ι' os) [44, 37] A s :=
    ⟨lst, hfr, fun e he => let ⟨k, L2, o, h1, h2, h3⟩ := hstk e he; ⟨k, L2, o, h1, .inr (List.mem_filterMap.mpr ⟨e, he, h1⟩), h3⟩⟩
  refine callFn_sound O' noPrim (ev_sound (C := lawC prog w (hideAll s.heap [44, 37]) (lst.filterMap (·.frame)) ga mg mb ι' os) HK O' noPrim n) hrun a Tk' R' (hv _ _) hfa fun S' s' v R2 G2 V2 => ?_
  obtain ⟨b, hb, rfl⟩ := V2
  obtain ⟨b', vs, nn, e, hb', hL, hvs⟩ := listAt_sound R2 hx ⟨b, hb, rfl⟩
  cases e
  obtain ⟨l, c, st, l', c', st', q0, q1⟩ := ht
  have ro0 := R2.objs 0 _ q0
  have ro1 := R2.objs 1 _ q1
  have S'0 : S'[0]? = some 44 := R2.ta 0 44 rfl
  have S'1 : S'[1]? = some 37 := R2.ta 1 37 rfl
  obtain ⟨a0, ha0, H0⟩ := ro0
  have : a0 = 44 := by rw [S'0] at ha0; exact (Option.some.inj ha0).symm
  subst this
  obtain ⟨a1, ha1, H1⟩ := ro1
  have : a1 = 37 := by rw [S'1] at ha1; exact (Option.some.inj ha1).symm
  subst this
  have tabO : ∀ {P : Addr} {l c st}, RO (lawC prog w (hideAll s.heap [44, 37]) (lst.filterMap (·.frame)) ga mg mb ι' os) S' s'.heap P (.tab l c st) → ∃ ps, s'.heap.get? P = some (tabObj ps) := by
    intro P l c st H
    cases st with
    | none => exact ⟨_, H⟩
    | some i => obtain ⟨b, _, q⟩ := H; exact ⟨_, q⟩
  have bnew : s.heap.get? b = none := by
    obtain ⟨N, hN, hnn⟩ := G2.pre
    have hm : b ∈ S' := List.mem_of_getElem? hb
    rw [hN] at hm
    rcases List.mem_append.mp hm with hm | hm
    · exfalso
      rcases List.mem_cons.mp hm with rfl | hm
      · obtain ⟨ps, e⟩ := tabO H0
        rw [hL] at e; cases e
      · rw [List.mem_singleton.mp hm] at hL
        obtain ⟨ps, e⟩ := tabO H1
        rw [hL] at e; cases e
    · exact hnn b hm
  have bS : b ∉ S := fun hm => by
    obtain ⟨_, o, e⟩ := R.off b hm
    rw [bnew] at e; cases e
  have hsx : ∀ x o, x ≠ 44 → x ≠ 37 → s.heap.get? x = some o → s'.heap.get? x = some o ∨ (IsD o ∧ (x ∈ S ∨ x ∈ (topC prog w (ghostOf h [(48, 44), (41, 37)]) ga mg mb ι os).tabs) ∧ ∃ sl, s'.heap.get? x = some { o with slots := sl }) := by
    intro x o n0 n1 e
    have nS : x ∉ ([44, 37] : List Addr) := by simp [n0, n1]
    by_cases hf : x ∈ lst.filterMap (·.frame)
    · obtain ⟨o', e', d', m'⟩ := hfrm x hf
      rw [e] at e'; cases e'
      exact .inr ⟨d', .inl m', G2.slot x o nS hf e⟩
    · exact .inl (G2.out x o nS e hf)
  refine hq b vs nn s' bS bnew hL ⟨_, _, _, hvs⟩ (fun htn' => ?_) ?_
  · obtain ⟨htn0', htn1'⟩ := Bool.and_eq_true_iff.mp htn'
    have t0' := noneTab_at htn0'
    have t1' := noneTab_at htn1'
    rw [q0] at t0'; cases t0'
    rw [q1] at t1'; cases t1'
    refine R.back S0 S1 t0 t1 rfl rfl (by decide) (by decide) rfl (fun j ao e => ?_) (by rw [R2.os]; exact R.os.symm) R2.bare G2.gens G2.dom hsx
    by_cases j0 : j = 0
    · subst j0; rw [t0] at e; cases e; exact .inl ⟨rfl, H0⟩
    · by_cases j1 : j = 1
      · subst j1; rw [t1] at e; cases e; exact .inr (.inl ⟨rfl, H1⟩)
      · exact .inr (.inr ⟨j0, j1, e⟩)
  · refine R.back S0 S1 t0 t1 rfl rfl (by decide) (by decide) rfl (fun j ao e => ?_) (by rw [R2.os]; exact R.os.symm) R2.bare G2.gens G2.dom hsx
    rw [St.get_put (by decide), St.get_put (by decide)] at e
    by_cases j1 : j = 1
    · subst j1; rw [if_pos rfl] at e; cases e; exact .inr (.inl ⟨rfl, tabO H1⟩)
    · rw [if_neg j1] at e
      by_cases j0 : j = 0
      · subst j0; rw [if_pos rfl] at e; cases e; exact .inl ⟨rfl, tabO H0⟩
      · rw [if_neg j0] at e; exact .inr (.inr ⟨j0, j1, e⟩)
end
end Mine

namespace Mine
noncomputable def heavyE : IE := .add (.c 2) (.mod (.v 1) (.c 29))
noncomputable def longE : IE := .add (.c 2) (.mod (.v 2) (.c 11))
noncomputable def widthE : IE := .add (.c 64) (.mod (.v 3) (.c 30))
noncomputable def lettE (m : Nat) : List IE := (List.range (m + 1)).map fun i => .v (100 + i)
noncomputable def markT (σ : St) : St := (σ.put 0 .tabx).put 1 .tabx
/-- the three ways, seen from the law: their answers are letters -/
noncomputable def P3r (vs : List AV) (σ : St) : Option (AV × St) := l4 none vs fun m a b s => asK none m fun m => asInt none a fun a => asInt none b fun b => asInt none s fun s =>
  oif (Nat.ble 4 m && Nat.ble m 10 && tabsNone σ && IE.beq a heavyE && IE.beq b longE && IE.beq s (.v 4)) (mk σ (.list ((lettE m).map .int)))
noncomputable def P3f (vs : List AV) (σ : St) : Option (AV × St) := l3 none vs fun m a b => asK none m fun m => asInt none a fun a => asInt none b fun b =>
  oif (Nat.ble 4 m && Nat.ble m 10 && tabsNone σ && IE.beq a heavyE && IE.beq b longE) (mk σ (.list ((lettE m).map .int)))
noncomputable def P3d (vs : List AV) (σ : St) : Option (AV × St) := l4 none vs fun m a b w => asK none m fun m => asInt none a fun a => asInt none b fun b => asInt none w fun w =>
  oif (Nat.ble 4 m && Nat.ble m 10 && tabsNone σ && IE.beq a heavyE && IE.beq b longE && IE.beq w widthE) (mk (markT σ) (.list ((lettE m).map .int)))
noncomputable def PT3 (n : Nat) (vs : List AV) (σ : St) : Option (AV × St) := match n with
  | 0 => P3r vs σ
  | 1 => P3f vs σ
  | 2 => P3d vs σ
  | _ + 3 => none
noncomputable def lHeavy (n : Nat → Int) : Int := 2 + n 1 % 29
noncomputable def lLong (n : Nat → Int) : Int := 2 + n 2 % 11
noncomputable def lWidth (n : Nat → Int) : Int := 64 + n 3 % 30
noncomputable def letT (n : Nat → Int) : Nat → Int := fun i => if i < 100 then n i else pval (lHeavy n) (lLong n) (w10.getD (i - 100) [])
noncomputable def ltI (a b c : Int) : Nat → Int
  | 0 => a
  | 1 => b
  | _ => c
theorem ints_rvs {C : WC} {S : List Addr} : ∀ {es : List IE} {vs : List Value}, IntsAre vs (es.map (·.val C.ι)) → RVs C S (es.map .int) vs
  | [], vs, h => by cases h; rfl
  | e :: r, vs, h => by
    cases h with
    | cons _ t h => exact ⟨_, _, rfl, ⟨t, rfl⟩, ints_rvs h⟩
theorem lett_val (n : Nat → Int) {m : Nat} (h4 : 4 ≤ m) (h10 : m ≤ 10) : (lettE m).map (·.val (letT n)) = (wtab m).map (pval (lHeavy n) (lLong n)) := by
  have : m = 4 ∨ m = 5 ∨ m = 6 ∨ m = 7 ∨ m = 8 ∨ m = 9 ∨ m = 10 := by omega
  rcases this with rfl | rfl | rfl | rfl | rfl | rfl | rfl <;> rfl
theorem heavyE_val (n : Nat → Int) : heavyE.val (letT n) = lHeavy n := by
  show 2 + (n 1).fmod 29 = _
  rw [Int.fmod_eq_emod_of_nonneg _ (by decide)]; rfl
theorem longE_val (n : Nat → Int) : longE.val (letT n) = lLong n := by
  show 2 + (n 2).fmod 11 = _
  rw [Int.fmod_eq_emod_of_nonneg _ (by decide)]; rfl
theorem widthE_val (n : Nat → Int) : widthE.val (letT n) = lWidth n := by
  show 64 + (n 3).fmod 30 = _
  rw [Int.fmod_eq_emod_of_nonneg _ (by decide)]; rfl
section
variable {V : Program} {FR : Params → Frag} {L : List Str} {mean : ExcName → Option Value} {prog : Program} {w : World} {h : Heap} {ga : Nat → Addr} {mg mb : Str → Option Value} {n : Nat → Int} {os : OsState}
/-- a fresh list comes back -/
theorem fresh_list {C : WC} {σ σ₂ σ' : St} {S : List Addr} {s s' : Shared} {b : Addr} {vs : List Value} {nn m : Nat} {av : AV} (R : Rel C σ S s) (hR : Rel C σ₂ S s' ∧ Grow C S s S s') (bS : b ∉ S) (bnew : s.heap.get? b = none) (hL : IsL s'.heap b vs.toArray nn)
    (hi : IntsAre vs ((lettE m).map (·.val C.ι))) (hmk : mk σ₂ (.list ((lettE m).map .int)) = some (av, σ')) :
    Rel C σ' (S ++ [b]) s' ∧ Grow C S s (S ++ [b]) s' ∧ RV C (S ++ [b]) av (.ref b) := by
  obtain ⟨hlt, rfl, rfl⟩ := mk_at hmk
  obtain ⟨R1, G1⟩ := hR
  have hh : C.hb.get? b = none := by
    cases q : C.hb.get? b with
    | none => rfl
    | some o => obtain ⟨o', e'⟩ := R.dom b o q; rw [bnew] at e'; cases e'
  refine ⟨R1.adopt hlt bS hh ⟨vs.toArray, nn, hL, ints_rvs hi⟩, ⟨⟨[b], rfl, fun x hx => by rw [List.mem_singleton.mp hx]; exact bnew⟩, G1.out, G1.dom, G1.dict, G1.gens, G1.slot⟩, b, ?_, rfl⟩
  rw [← R1.len]; simp
theorem prims (HR : ∀ m r : Nat, 4 ≤ m → m ≤ 10 → r < 9 → OkR m r) (HF : ∀ m : Nat, 4 ≤ m → m ≤ 10 → OkF m) (HV : ∀ m : Nat, 4 ≤ m → m ≤ 10 → OkV m ∧ chkD m (wtab m) = true)
    (HO : HeadOk V FR) (T : Top V L mean mg mb h) (Y1 : (FR w.params).In h) (hga : ga 0 = 64) : PrimOk (topC prog w (ghostOf h [(48, 44), (41, 37)]) ga mg mb (letT n) os) lawT PT3 := by
  intro k nn hk vs σ av σ' hP A d S E s Q us fa hfa a Tk hd R hv hq
  subst hd
  have b1 : 2 ≤ lHeavy n ∧ lHeavy n ≤ 30 := by unfold lHeavy; omega
  have b2 : 2 ≤ lLong n ∧ lLong n ≤ 12 := by unfold lLong; omega
  have b3 : 64 ≤ lWidth n ∧ lWidth n ≤ 93 := by unfold lWidth; omega
  have hk : lawFnT k = some (.prim nn) := hk
  have hkn : k = 9 ∧ nn = 0 ∨ k = 10 ∧ nn = 2 ∨ k = 11 ∧ nn = 1 := by
    unfold lawFnT at hk
    split at hk <;> cases hk
    · exact .inl ⟨rfl, rfl⟩
    · exact .inr (.inl ⟨rfl, rfl⟩)
    · exact .inr (.inr ⟨rfl, rfl⟩)
  rcases hkn with ⟨rfl, rfl⟩ | ⟨rfl, rfl⟩ | ⟨rfl, rfl⟩
  · replace hP : P3r vs σ = some (av, σ') := hP
    replace hP := l4_at ns hP
    obtain ⟨m, e1, e2, e3, rfl, hP⟩ := hP
    replace hP := asK_at ns hP
    obtain ⟨m, rfl, hP⟩ := hP
    replace hP := asInt_at ns hP
    obtain ⟨e1, rfl, hP⟩ := hP
    replace hP := asInt_at ns hP
    obtain ⟨e2, rfl, hP⟩ := hP
    replace hP := asInt_at ns hP
    obtain ⟨e3, rfl, hP⟩ := hP
    replace hP := oif_at hP
    obtain ⟨hc, hP⟩ := hP
    simp only [Bool.and_eq_true] at hc
    obtain ⟨⟨⟨⟨⟨c1, c2⟩, c3⟩, c4⟩, c5⟩, c6⟩ := hc
    have c1 : 4 ≤ m := Nat.le_of_ble_eq_true c1
    have c2 : m ≤ 10 := Nat.le_of_ble_eq_true c2
    have := IE.beq_sound c4
    subst this
    have := IE.beq_sound c5
    subst this
    have := IE.beq_sound c6
    subst this
    obtain ⟨v1, r1, rfl, ⟨t1, rfl⟩, v2, r2, rfl, ⟨t2, rfl⟩, v3, r3, rfl, ⟨t3, rfl⟩, v4, r4, rfl, ⟨t4, rfl⟩, rfl⟩ := hv
    have hr : (n 4 % 9).toNat < 9 := by omega
    obtain ⟨nf, hR⟩ := HR m _ c1 c2 hr
    obtain ⟨i, σr, xs, hrun, htn, hx, hps⟩ := okRun_at hR
    refine run_in (k := 9) (i := i) (n := nf) (K := kRul ((n 4 % 9).toNat : Nat)) (ι' := ltI (lHeavy n) (lLong n) (n 4)) HO T Y1 hga c3 a Tk R hfa
      (kRul_ok hr (by show 0 ≤ lHeavy n; omega) (by show lHeavy n ≤ 30; omega) (by show 0 ≤ lLong n; omega) (by show lLong n ≤ 12; omega) (by show n 4 % 9 = _; omega)) hrun hx (fun hb tabs => ?_) ?_ (fun b vs nn s' bS bnew hL hvs h1 _ => ?_)
    · exact ⟨_, _, rfl, ⟨t1, rfl⟩, _, _, rfl, ⟨t2, by rw [show (topC prog w (ghostOf h [(48, 44), (41, 37)]) ga mg mb (letT n) os).ι = letT n from rfl, heavyE_val]; rfl⟩, _, _, rfl, ⟨t3, by rw [show (topC prog w (ghostOf h [(48, 44), (41, 37)]) ga mg mb (letT n) os).ι = letT n from rfl, longE_val]; rfl⟩, _, _, rfl, ⟨t4, rfl⟩, rfl⟩
    · obtain ⟨q0, q1⟩ := Bool.and_eq_true_iff.mp htn
      exact ⟨_, _, _, _, _, _, noneTab_at q0, noneTab_at q1⟩
    · obtain ⟨hb, tabs, S', hvs⟩ := hvs
      have hi := toPs_ints _ hps hvs
      obtain ⟨z1, z2, z3⟩ := fresh_list R (h1 htn) bS bnew hL (by rw [show (topC prog w (ghostOf h [(48, 44), (41, 37)]) ga mg mb (letT n) os).ι = letT n from rfl, lett_val n c1 c2]; exact hi) hP
      exact hq _ _ _ z1 z2 z3
  · replace hP : P3d vs σ = some (av, σ') := hP
    replace hP := l4_at ns hP
    obtain ⟨m, e1, e2, e3, rfl, hP⟩ := hP
    replace hP := asK_at ns hP
    obtain ⟨m, rfl, hP⟩ := hP
    replace hP := asInt_at ns hP
    obtain ⟨e1, rfl, hP⟩ := hP
    replace hP := asInt_at ns hP
    obtain ⟨e2, rfl, hP⟩ := hP
    replace hP := asInt_at ns hP
    obtain ⟨e3, rfl, hP⟩ := hP
    replace hP := oif_at hP
    obtain ⟨hc, hP⟩ := hP
    simp only [Bool.and_eq_true] at hc
    obtain ⟨⟨⟨⟨⟨c1, c2⟩, c3⟩, c4⟩, c5⟩, c6⟩ := hc
    have c1 : 4 ≤ m := Nat.le_of_ble_eq_true c1
    have c2 : m ≤ 10 := Nat.le_of_ble_eq_true c2
    have := IE.beq_sound c4
    subst this
    have := IE.beq_sound c5
    subst this
    have := IE.beq_sound c6
    subst this
    obtain ⟨v1, r1, rfl, ⟨t1, rfl⟩, v2, r2, rfl, ⟨t2, rfl⟩, v3, r3, rfl, ⟨t3, rfl⟩, v4, r4, rfl, ⟨t4, rfl⟩, rfl⟩ := hv
    obtain ⟨hv1, hv2⟩ := HV m c1 c2
    obtain ⟨nf, hR⟩ := hv1
    obtain ⟨i, σr, xs, hrun, hts, hx, heq⟩ := okVx_at hR
    obtain ⟨kok, kval⟩ := kDiv_ok (ι := ltI (lHeavy n) (lLong n) (lWidth n)) (by omega) hv2 (by show 1 ≤ lHeavy n; omega) (by show lHeavy n ≤ 30; omega) (by show 1 ≤ lLong n; omega) (by show lLong n ≤ 12; omega) (by show 64 ≤ lWidth n; omega) (by show lWidth n ≤ 93; omega)
    refine run_in (k := 10) (i := i) (n := nf) (K := kDiv m) (ι' := ltI (lHeavy n) (lLong n) (lWidth n)) HO T Y1 hga c3 a Tk R hfa kok hrun hx (fun hb tabs => ?_) ?_ (fun b vs nn s' bS bnew hL hvs _ h2 => ?_)
    · exact ⟨_, _, rfl, ⟨t1, rfl⟩, _, _, rfl, ⟨t2, by rw [show (topC prog w (ghostOf h [(48, 44), (41, 37)]) ga mg mb (letT n) os).ι = letT n from rfl, heavyE_val]; rfl⟩, _, _, rfl, ⟨t3, by rw [show (topC prog w (ghostOf h [(48, 44), (41, 37)]) ga mg mb (letT n) os).ι = letT n from rfl, longE_val]; rfl⟩, _, _, rfl, ⟨t4, by rw [show (topC prog w (ghostOf h [(48, 44), (41, 37)]) ga mg mb (letT n) os).ι = letT n from rfl, widthE_val]; rfl⟩, rfl⟩
    · obtain ⟨q0, q1⟩ := Bool.and_eq_true_iff.mp hts
      obtain ⟨l, c, st, e0⟩ := someTab_at q0
      obtain ⟨l', c', st', e1'⟩ := someTab_at q1
      exact ⟨l, c, st, l', c', st', e0, e1'⟩
    · obtain ⟨hb, tabs, S', hvs⟩ := hvs
      have hi := eqIEs_ints heq hvs
      have hi : IntsAre vs ((wantD m).map (·.val (ltI (lHeavy n) (lLong n) (lWidth n)))) := hi
      rw [kval] at hi
      obtain ⟨z1, z2, z3⟩ := fresh_list R h2 bS bnew hL (by rw [show (topC prog w (ghostOf h [(48, 44), (41, 37)]) ga mg mb (letT n) os).ι = letT n from rfl, lett_val n c1 c2]; exact hi) hP
      exact hq _ _ _ z1 z2 z3
  · replace hP : P3f vs σ = some (av, σ') := hP
    replace hP := l3_at ns hP
    obtain ⟨m, e1, e2, rfl, hP⟩ := hP
    replace hP := asK_at ns hP
    obtain ⟨m, rfl, hP⟩ := hP
    replace hP := asInt_at ns hP
    obtain ⟨e1, rfl, hP⟩ := hP
    replace hP := asInt_at ns hP
    obtain ⟨e2, rfl, hP⟩ := hP
    replace hP := oif_at hP
    obtain ⟨hc, hP⟩ := hP
    simp only [Bool.and_eq_true] at hc
    obtain ⟨⟨⟨⟨c1, c2⟩, c3⟩, c4⟩, c5⟩ := hc
    have c1 : 4 ≤ m := Nat.le_of_ble_eq_true c1
    have c2 : m ≤ 10 := Nat.le_of_ble_eq_true c2
    have := IE.beq_sound c4
    subst this
    have := IE.beq_sound c5
    subst this
    obtain ⟨v1, r1, rfl, ⟨t1, rfl⟩, v2, r2, rfl, ⟨t2, rfl⟩, v3, r3, rfl, ⟨t3, rfl⟩, rfl⟩ := hv
    obtain ⟨nf, hR⟩ := HF m c1 c2
    obtain ⟨i, σr, xs, hrun, htn, hx, hps⟩ := okRun_at hR
    refine run_in (k := 11) (i := i) (n := nf) (K := kFlags) (ι' := ltI (lHeavy n) (lLong n) 0) HO T Y1 hga c3 a Tk R hfa
      (kFlags_ok (by show 0 ≤ lHeavy n; omega) (by show lHeavy n ≤ 30; omega) (by show 0 ≤ lLong n; omega) (by show lLong n ≤ 12; omega)) hrun hx (fun hb tabs => ?_) ?_ (fun b vs nn s' bS bnew hL hvs h1 _ => ?_)
    · exact ⟨_, _, rfl, ⟨t1, rfl⟩, _, _, rfl, ⟨t2, by rw [show (topC prog w (ghostOf h [(48, 44), (41, 37)]) ga mg mb (letT n) os).ι = letT n from rfl, heavyE_val]; rfl⟩, _, _, rfl, ⟨t3, by rw [show (topC prog w (ghostOf h [(48, 44), (41, 37)]) ga mg mb (letT n) os).ι = letT n from rfl, longE_val]; rfl⟩, rfl⟩
    · obtain ⟨q0, q1⟩ := Bool.and_eq_true_iff.mp htn
      exact ⟨_, _, _, _, _, _, noneTab_at q0, noneTab_at q1⟩
    · obtain ⟨hb, tabs, S', hvs⟩ := hvs
      have hi := toPs_ints _ hps hvs
      obtain ⟨z1, z2, z3⟩ := fresh_list R (h1 htn) bS bnew hL (by rw [show (topC prog w (ghostOf h [(48, 44), (41, 37)]) ga mg mb (letT n) os).ι = letT n from rfl, lett_val n c1 c2]; exact hi) hP
      exact hq _ _ _ z1 z2 z3
end
end Mine

namespace Mine
/-- the law's own state: the tables, its frame, its five numbers -/
noncomputable def fT : AObj := .frame 12 (some (.glob 1) :: blanks 9)
noncomputable def nT : AObj := .list ([.v 0, .v 1, .v 2, .v 3, .v 4].map .int)
noncomputable def eT : AEnv := ⟨12, 2, [], 0⟩
noncomputable def σT : St := (σ0.new fT).new nT
noncomputable def kT (m : Int) : Facts := ⟨[(.mod (.v 0) (.c 7), m)], [], [], []⟩
noncomputable def isx : Option AObj → Bool
  | some .tabx => true
  | _ => false
noncomputable def stx (σ : St) : Bool := isx (σ.h.get 0) && isx (σ.h.get 1)
noncomputable def okO (x : Option (Out × St)) : Bool := match x with
  | some (.ret (.bool true), σ) => stx σ
  | _ => false
noncomputable def runT (m : Int) : Option (Out × St) := match wrVar eT 1 (.ref 3) σT with
  | some σ => (ev (kT m) lawT PT3 20).ss eT body12 σ
  | none => none
noncomputable def okT (m : Int) : Bool := okO (runT m)
theorem okT_all : ∀ m : Nat, m < 7 → okT m = true := by
  intro m h
  match m, h with
  | 0, _ | 1, _ | 2, _ | 3, _ | 4, _ | 5, _ | 6, _ => decide +kernel
theorem isx_at {x : Option AObj} (h : isx x = true) : x = some .tabx := by
  unfold isx at h
  split at h
  · rfl
  · cases h
theorem okO_at {x : Option (Out × St)} (h : okO x = true) : ∃ σ, x = some (.ret (.bool true), σ) ∧ σ.h.get 0 = some .tabx ∧ σ.h.get 1 = some .tabx := by
  unfold okO at h
  split at h
  · rename_i σ
    obtain ⟨h1, h2⟩ := Bool.and_eq_true_iff.mp h
    exact ⟨σ, rfl, isx_at h1, isx_at h2⟩
  · cases h
/-- the numbers of the law -/
noncomputable def lawNums (ks : List Int) : List Int := ks.take 5 ++ [4, 1, 1, 0, 4].drop ks.length
theorem lawNums_len (ks : List Int) : (lawNums ks).length = 5 := by
  unfold lawNums
  simp only [List.length_append, List.length_take, List.length_drop, List.length_cons, List.length_nil]
  omega
noncomputable def lawN (ks : List Int) : Nat → Int := fun i => (lawNums ks).getD i 0
theorem lawN_eq (ks : List Int) : lawNums ks = [lawN ks 0, lawN ks 1, lawN ks 2, lawN ks 3, lawN ks 4] := by
  have h := lawNums_len ks
  unfold lawN
  match lawNums ks, h with
  | [a, b, c, d, e], _ => rfl
theorem pick_to5 (items : Array Value) : slicePick items none (some 5) none = (items.toList.take 5).toArray := by
  by_cases h : 5 ≤ items.size
  · exact slicePick_upto items 5 h
  · have e : slicePick items none (some 5) none = slicePick items none (some ((items.size : Nat) : Int)) none := by
      have e : sliceBounds none (some 5) none items.size = sliceBounds none (some ((items.size : Nat) : Int)) none items.size := by
        simp only [sliceBounds, Option.getD_none]
        have h1 : ¬ ((5 : Int) < 0) := by decide
        have h2 : ¬ ((items.size : Int) < 0) := by omega
        simp only [h1, h2, if_false, show (1 : Int) > 0 by decide, if_true]
        congr 2
        omega
      unfold slicePick
      rw [e]
    rw [e, slicePick_upto items items.size (Nat.le_refl _), List.take_of_length_le (by simp), List.take_of_length_le (by simp; omega)]
theorem pick_from (items : Array Value) (a : Nat) : slicePick items (some (a : Int)) none none = (items.toList.drop a).toArray := by
  by_cases h : a ≤ items.size
  · exact slicePick_from items a h
  · have e : slicePick items (some (a : Int)) none none = slicePick items (some ((items.size : Nat) : Int)) none none := by
      have e : sliceBounds (some (a : Int)) none none items.size = sliceBounds (some ((items.size : Nat) : Int)) none none items.size := by
        simp only [sliceBounds, Option.getD_none]
        have h1 : ¬ ((a : Int) < 0) := by omega
        have h2 : ¬ ((items.size : Int) < 0) := by omega
        simp only [h1, h2, if_false, show (1 : Int) > 0 by decide, if_true]
        congr 1
        omega
      unfold slicePick
      rw [e]
    rw [e, slicePick_from items items.size (Nat.le_refl _), List.drop_of_length_le (by simp), List.drop_of_length_le (by simp; omega)]
theorem ints_take : ∀ {vs : List Value} {ks : List Int} (n : Nat), IntsAre vs ks → IntsAre (vs.take n) (ks.take n)
  | _, _, 0, _ => .nil
  | _, _, n + 1, .nil => .nil
  | _, _, n + 1, .cons k t h => .cons k t (ints_take n h)
theorem ints_drop : ∀ {vs : List Value} {ks : List Int} (n : Nat), IntsAre vs ks → IntsAre (vs.drop n) (ks.drop n)
  | _, _, 0, h => h
  | _, _, n + 1, .nil => .nil
  | _, _, n + 1, .cons k t h => ints_drop n h
theorem ints_append : ∀ {vs us : List Value} {ks ls : List Int}, IntsAre vs ks → IntsAre us ls → IntsAre (vs ++ us) (ks ++ ls)
  | _, _, _, _, .nil, h => h
  | _, _, _, _, .cons k t h, h' => .cons k t (ints_append h h')
theorem ints_len : ∀ {vs : List Value} {ks : List Int}, IntsAre vs ks → vs.length = ks.length
  | _, _, .nil => rfl
  | _, _, .cons _ _ h => by simp [ints_len h]
/-- the law's first line -/
noncomputable def lawFirst : Stmt := .Assign [.Name "numbers" ⟨176, 4, 176, 11⟩]
  (.BinOp (.Subscript (.Name "script" ⟨176, 14, 176, 20⟩) (.Slice none (some (.Constant (.int 5) 0 ⟨176, 22, 176, 23⟩)) none ⟨176, 21, 176, 23⟩) ⟨176, 14, 176, 24⟩) .Add
    (.Subscript (.List [.Constant (.int 4) 0 ⟨176, 28, 176, 29⟩, .Constant (.int 1) 0 ⟨176, 31, 176, 32⟩, .Constant (.int 1) 0 ⟨176, 34, 176, 35⟩, .Constant (.int 0) 0 ⟨176, 37, 176, 38⟩, .Constant (.int 4) 0 ⟨176, 40, 176, 41⟩] ⟨176, 27, 176, 42⟩)
      (.Slice (some (.Call (.Name "len" ⟨176, 43, 176, 46⟩) [.Name "script" ⟨176, 47, 176, 53⟩] [] ⟨176, 43, 176, 54⟩)) none none ⟨176, 43, 176, 55⟩) ⟨176, 27, 176, 56⟩) ⟨176, 14, 176, 56⟩) ⟨176, 4, 176, 56⟩
theorem body12_cons : stBody (defAt (fnPos 12)) = lawFirst :: toSs lawT 12 body12 := by
  rw [show toSs lawT 12 body12 = (stBody (defAt (fnPos 12))).tail from body12_ok]
  rfl
noncomputable def lawGa (sa : Addr) : Nat → Addr
  | 0 => 64
  | _ => sa
theorem sub_slice {prog : Program} {w : World} {A : Around} {E : Value → Shared → Prop} {s : Shared} {env : Env} {value : Expr} {lower upper : Option Expr} {p pos : Pos} {Q : Value → Shared → Prop}
    (h : wpAny (model prog w) A (eval value env) (fun o s₁ => wpAny (model prog w) A (evalPart lower env) (fun vl s₂ => wpAny (model prog w) A (evalPart upper env) (fun vu s₃ =>
      ∃ l items lo hi, o = .ref l ∧ s₃.heap.IsList l items ∧ items.size ≤ sizeLine ∧ IsPart vl lo ∧ IsPart vu hi ∧
        Q (.ref (s₃.heap.objs.size + 1)) { s₃ with heap := (s₃.heap.push { cls := .type "slice", data := .fields #[vl, vu, .none] }).push { cls := .type "list", data := .seq (slicePick items lo hi none) } }) E s₂) E s₁) E s) :
    wpAny (model prog w) A (eval (.Subscript value (.Slice lower upper none p) pos) env) Q E s := by
  refine Subscript_ (wpAny_mono h (fun o s₁ h₁ => wpAny_Slice (wpAny_mono h₁ (fun vl s₂ h₂ => wpAny_mono h₂ (fun vu s₃ h₃ => ?_) fun _ _ e => e) fun _ _ e => e)) fun _ _ e => e)
  obtain ⟨l, items, lo, hi, rfl, hl, hsz, pl, pu, hQ⟩ := h₃
  rw [evalPart_none]
  refine wpAny_pure (tail_any (hl.push _).typeIs F.slot_list_getitem.lookup (wpAny_getItem_list_slice (hl.push _) (Heap.IsSliceOf.new ..) pl pu .none (by simp) ?_ hsz) rfl)
  rw [Heap.size_push]
  exact hQ
section
variable {C : WC} {env : Env} {S : List Addr} {s : Shared} {A : Around} {E : Value → Shared → Prop}
/-- the five numbers come to stand -/
theorem first_line (O : MOk C lawT) {sa : Addr} (hga : C.ga 1 = sa) {ks : List Int} {vs : List Value} (hL : s.heap.IsList sa vs.toArray) (hI : IntsAre vs ks) (h63 : ks.length ≤ 63) (hι : ∀ i, i < 5 → C.ι i = lawN ks i)
    (H : EnvOk C lawT env eT S A s) (R : Rel C (σ0.new fT) S s) {Q : Flow → Shared → Prop}
    (hq : ∀ S' s' σ', wrVar eT 1 (.ref 3) σT = some σ' → Rel C σ' S' s' → Grow C S s S' s' → Q .next s') : wpAny (model C.prog C.w) A (exec lawFirst env) Q E s := by
  have hvl : vs.length ≤ 63 := by rw [ints_len hI]; exact h63
  have hcap : 63 + 5 ≤ sizeLine := by decide
  unfold lawFirst
  refine wpAny_Assign_Name ?_ rfl
  refine wpAny_BinOp (sub_slice ?_)
  refine ev_var (i := 0) (v := .glob 1) O H R (by decide +kernel) (by rfl) fun u hu => ?_
  have hu : u = .ref (C.ga 1) := hu
  subst hu
  rw [hga]
  refine evalPart_none_step (evalPart_some_step (wpAny_Constant_int ?_))
  refine ⟨sa, vs.toArray, none, some 5, rfl, hL, by simp; omega, .none, .int 5 _, ?_⟩
  rw [pick_to5]
  have e1 : (s.heap.push ({ cls := .type "slice", data := .fields #[.none, .int 5 s.toks, .none] } : Obj)).objs.size = s.heap.objs.size + 1 := Heap.size_push ..
  have hA1 : IsL ((s.heap.push ({ cls := .type "slice", data := .fields #[.none, .int 5 s.toks, .none] } : Obj)).push { cls := .type "list", data := .seq (vs.toArray.toList.take 5).toArray }) (s.heap.objs.size + 1) (vs.toArray.toList.take 5).toArray 0 := by
    rw [← e1]; exact Heap.get?_push_size _ rfl
  have hk1 : ∀ b o, s.heap.get? b = some o → ((s.heap.push ({ cls := .type "slice", data := .fields #[.none, .int 5 s.toks, .none] } : Obj)).push { cls := .type "list", data := .seq (vs.toArray.toList.take 5).toArray }).get? b = some o :=
    fun b o e => Heap.get?_push_of_some _ (Heap.get?_push_of_some _ e)
  show wpAny _ A _ _ E { s with heap := (s.heap.push ({ cls := .type "slice", data := .fields #[.none, .int 5 s.toks, .none] } : Obj)).push { cls := .type "list", data := .seq (vs.toArray.toList.take 5).toArray }, toks := s.toks + 1 }
  generalize (s.heap.push ({ cls := .type "slice", data := .fields #[.none, .int 5 s.toks, .none] } : Obj)).push { cls := .type "list", data := .seq (vs.toArray.toList.take 5).toArray } = h1 at hA1 hk1 ⊢
  generalize s.heap.objs.size + 1 = a1 at hA1 ⊢
  clear e1
  have at_ : ∀ (h2 : Heap) (t2 : Nat), (∀ b o, s.heap.get? b = some o → h2.get? b = some o) → Rel C (σ0.new fT) S { s with heap := h2, toks := t2 } ∧ EnvOk C lawT env eT S A { s with heap := h2, toks := t2 } ∧ Grow C S s S { s with heap := h2, toks := t2 } := by
    intro h2 t2 hk
    obtain ⟨R2, G2⟩ := R.same (h' := h2) (t' := t2) hk
    exact ⟨R2, H.grow G2, G2⟩
  have lst : ∀ (h2 : Heap), (∀ b o, s.heap.get? b = some o → h2.get? b = some o) → h2.IsList sa vs.toArray := fun h2 hk => let ⟨o, ho, r⟩ := hL; ⟨o, hk _ _ ho, r⟩
  refine sub_slice ?_
  refine wpAny_List ?_
  show wpAny _ A (spliced [(false, eval (.Constant (.int 4) 0 ⟨176, 28, 176, 29⟩) env), (false, eval (.Constant (.int 1) 0 ⟨176, 31, 176, 32⟩) env), (false, eval (.Constant (.int 1) 0 ⟨176, 34, 176, 35⟩) env), (false, eval (.Constant (.int 0) 0 ⟨176, 37, 176, 38⟩) env), (false, eval (.Constant (.int 4) 0 ⟨176, 40, 176, 41⟩) env)]) _ _ _
  refine Calls.spliced_cons (wpAny_Constant_int (Calls.spliced_cons (wpAny_Constant_int (Calls.spliced_cons (wpAny_Constant_int (Calls.spliced_cons (wpAny_Constant_int (Calls.spliced_cons (wpAny_Constant_int (Calls.spliced_nil ⟨by show 5 ≤ sizeLine; decide, ?_⟩))))))))))
  generalize hi5 : ([Value.int 4 (s.toks + 1), .int 1 (s.toks + 1 + 1), .int 1 (s.toks + 1 + 1 + 1), .int 0 (s.toks + 1 + 1 + 1 + 1), .int 4 (s.toks + 1 + 1 + 1 + 1 + 1)] : List Value) = l5
  have hI5 : IntsAre l5 [4, 1, 1, 0, 4] := by rw [← hi5]; exact .cons _ _ (.cons _ _ (.cons _ _ (.cons _ _ (.cons _ _ .nil))))
  show wpAny _ A _ _ E { s with heap := h1.push { cls := .type "list", data := .seq l5.toArray }, toks := s.toks + 1 + 1 + 1 + 1 + 1 + 1 }
  have hA2 : IsL (h1.push { cls := .type "list", data := .seq l5.toArray }) h1.objs.size l5.toArray 0 := Heap.get?_push_size _ rfl
  have hA12 : IsL (h1.push { cls := .type "list", data := .seq l5.toArray }) a1 (vs.toArray.toList.take 5).toArray 0 := Heap.get?_push_of_some _ hA1
  have hk2 : ∀ b o, s.heap.get? b = some o → (h1.push { cls := .type "list", data := .seq l5.toArray }).get? b = some o := fun b o e => Heap.get?_push_of_some _ (hk1 b o e)
  show wpAny _ A (evalPart (some (.Call (.Name "len" ⟨176, 43, 176, 46⟩) [.Name "script" ⟨176, 47, 176, 53⟩] [] ⟨176, 43, 176, 54⟩)) env) (fun vl s₂ => wpAny _ A (evalPart none env) (fun vu s₃ =>
      ∃ l items lo hi, Value.ref h1.objs.size = .ref l ∧ s₃.heap.IsList l items ∧ items.size ≤ sizeLine ∧ IsPart vl lo ∧ IsPart vu hi ∧ _) E s₂) E _
  generalize h1.push { cls := .type "list", data := .seq l5.toArray } = h2 at hA2 hA12 hk2 ⊢
  generalize h1.objs.size = a2 at hA2 ⊢
  obtain ⟨R2, H2, G2⟩ := at_ h2 (s.toks + 1 + 1 + 1 + 1 + 1 + 1) hk2
  obtain ⟨g1, g2⟩ := O.bfs .len
  refine evalPart_some_step (Call_Name1 (ev_blt O H2 R2 (by decide +kernel) g1 g2 ?_) rfl)
  refine callWith_builtin rfl (Calls.evalArgs_plain (Calls.spliced_cons (ev_var (i := 0) (v := .glob 1) O H2 R2 (by decide +kernel) (by rfl) fun u hu => ?_)))
  have hu : u = .ref (C.ga 1) := hu
  subst hu
  rw [hga]
  refine Calls.spliced_nil (Calls.call_len_list (lst h2 hk2) (by simp; omega) ?_)
  refine evalPart_none_step ⟨a2, l5.toArray, some ((vs.toArray.size : Nat) : Int), none, rfl, ⟨_, hA2, rfl, 0, rfl⟩, by rw [← hi5]; show 5 ≤ sizeLine; decide, .int _ _, .none, ?_⟩
  rw [pick_from]
  generalize hsl : ({ cls := .type "slice", data := .fields #[.int ((vs.toArray.size : Nat) : Int) (s.toks + 1 + 1 + 1 + 1 + 1 + 1 + 1), .none, .none] } : Obj) = osl
  have hA3 : IsL ((h2.push osl).push { cls := .type "list", data := .seq (l5.toArray.toList.drop vs.toArray.size).toArray }) (h2.objs.size + 1) (l5.toArray.toList.drop vs.toArray.size).toArray 0 := by
    rw [← Heap.size_push h2 osl]; exact Heap.get?_push_size _ rfl
  have hA13 : IsL ((h2.push osl).push { cls := .type "list", data := .seq (l5.toArray.toList.drop vs.toArray.size).toArray }) a1 (vs.toArray.toList.take 5).toArray 0 := Heap.get?_push_of_some _ (Heap.get?_push_of_some _ hA12)
  have hk3 : ∀ b o, s.heap.get? b = some o → ((h2.push osl).push { cls := .type "list", data := .seq (l5.toArray.toList.drop vs.toArray.size).toArray }).get? b = some o := fun b o e => Heap.get?_push_of_some _ (Heap.get?_push_of_some _ (hk2 b o e))
  refine P.add_list (s := { s with heap := (h2.push osl).push { cls := .type "list", data := .seq (l5.toArray.toList.drop vs.toArray.size).toArray }, toks := s.toks + 1 + 1 + 1 + 1 + 1 + 1 + 1 + 1 }) hA13 hA3 ?_ ?_
  · have hints : IntsAre (vs.take 5 ++ l5.drop vs.length) (lawNums ks) := by
      have := ints_append (ints_take 5 hI) (ints_drop ks.length hI5)
      rw [ints_len hI]
      exact this
    have hsz : ((vs.toArray.toList.take 5).toArray ++ (l5.toArray.toList.drop vs.toArray.size).toArray) = (vs.take 5 ++ l5.drop vs.length).toArray := by simp
    rw [hsz]
    generalize (h2.push osl).push { cls := .type "list", data := .seq (l5.toArray.toList.drop vs.toArray.size).toArray } = h3 at hA13 hA3 hk3 ⊢
    obtain ⟨R3, H3, G3⟩ := at_ h3 (s.toks + 1 + 1 + 1 + 1 + 1 + 1 + 1 + 1) hk3
    have hv5 : IntsAre (vs.take 5 ++ l5.drop vs.length) (([.v 0, .v 1, .v 2, .v 3, .v 4] : List IE).map (·.val C.ι)) := by
      have e : (([.v 0, .v 1, .v 2, .v 3, .v 4] : List IE).map (·.val C.ι)) = lawNums ks := by
        rw [lawN_eq]
        show [C.ι 0, C.ι 1, C.ι 2, C.ι 3, C.ι 4] = _
        rw [hι 0 (by decide), hι 1 (by decide), hι 2 (by decide), hι 3 (by decide), hι 4 (by decide)]
      rw [e]; exact hints
    obtain ⟨R4, G4, V4⟩ := R3.alloc (ao := nT) (a := h3.objs.size) (h' := h3.push { cls := .type "list", data := .seq (vs.take 5 ++ l5.drop vs.length).toArray }) (t' := s.toks + 1 + 1 + 1 + 1 + 1 + 1 + 1 + 1) (show 3 < 4096 by decide)
      (fun _ _ e => Heap.get?_push_of_some _ e) (get_size _) ⟨(vs.take 5 ++ l5.drop vs.length).toArray, 0, Heap.get?_push_size _ rfl, by
        have := (ints_rvs (S := S) hv5).mono [h3.objs.size]
        simpa using this⟩
    cases hw : wrVar eT 1 (.ref 3) σT with
    | none => exact absurd hw (by decide +kernel)
    | some σ' =>
      refine st_var (i := 1) (v := .ref 3) O (H3.grow G4) R4 (by decide +kernel) hw V4 fun s5 R5 G5 => ?_
      exact hq _ _ _ hw R5 ((G3.trans G4).trans G5)
  · have : (vs.toArray.toList.take 5).toArray.size + (l5.toArray.toList.drop vs.toArray.size).toArray.size ≤ 10 := by
      have h5 : l5.length = 5 := by rw [← hi5]; rfl
      simp only [List.size_toArray, List.length_take, List.length_drop, List.toList_toArray]
      omega
    omega
end
end Mine

namespace Mine
theorem kT_ok {ι : Nat → Int} {m : Int} (h : ι 0 % 7 = m) : (kT m).Ok ι where
  fi := by
    intro p hp
    simp only [kT, List.mem_cons, List.mem_nil_iff, or_false] at hp
    subst hp
    show (ι 0).fmod 7 = m
    rw [Int.fmod_eq_emod_of_nonneg _ (by decide)]; exact h
  fb := by intro q hq; cases hq
  lb := by intro i b h; simp [kT] at h
  nn := by intro i h; simp [kT] at h
noncomputable def LawEnd (s₁ : Shared) (v : Value) (s' : Shared) : Prop := v = .bool true ∧ s'.os = s₁.os ∧ AllBare s'.gens ∧ (∀ b o, s₁.heap.get? b = some o → b ∉ [44, 37] → s'.heap.get? b = some o) ∧ ∀ b ∈ ([44, 37] : List Addr), ∃ ps, s'.heap.get? b = some (tabObj ps)
theorem law_call {V : Program} {FR : Params → Frag} {L : List Str} {mean : ExcName → Option Value} {prog : Program} {w : World} {s₁ : Shared} {mg mb : Str → Option Value} {E : Value → Shared → Prop}
    (HR : ∀ m r : Nat, 4 ≤ m → m ≤ 10 → r < 9 → OkR m r) (HF : ∀ m : Nat, 4 ≤ m → m ≤ 10 → OkF m) (HV : ∀ m : Nat, 4 ≤ m → m ≤ 10 → OkV m ∧ chkD m (wtab m) = true)
    (HO : HeadOk V FR) (T : Top V L mean mg mb s₁.heap) (Y1 : (FR w.params).In s₁.heap) (hgens : AllBare s₁.gens) {a sa : Addr} (hmg : mg "law" = some (.ref a)) {ks : List Int} {vs : List Value} (hL : s₁.heap.IsList sa vs.toArray) (hI : IntsAre vs ks) (h63 : ks.length ≤ 63) :
    wpAny (model prog w) callerA (call (.ref a) [.ref sa]) (LawEnd s₁) E s₁ := by
  have hT := tabs_at HO T Y1
  -- the world
  have hga : lawGa sa 0 = 64 := rfl
  have OT := mokT (prog := prog) (ι := letT (lawN ks)) (os := s₁.os) HO T Y1 hga
  have hP : PrimOk (topC prog w (ghostOf s₁.heap [(48, 44), (41, 37)]) (lawGa sa) mg mb (letT (lawN ks)) s₁.os) lawT PT3 := prims (prog := prog) (n := lawN ks) (os := s₁.os) HR HF HV HO T Y1 hga
  have R0 : Rel (topC prog w (ghostOf s₁.heap [(48, 44), (41, 37)]) (lawGa sa) mg mb (letT (lawN ks)) s₁.os) σ0 [44, 37] s₁ := by
    have tab0 : s₁.heap.get? 44 = some (tabObj #[]) := (hT (48, 44) (by simp)).2
    have tab1 : s₁.heap.get? 37 = some (tabObj #[]) := (hT (41, 37) (by simp)).2
    refine ⟨fun b o e _ => of_hideAll _ e, fun b o e => ⟨o, of_hideAll _ e⟩, fun i j b x y h1 h2 h3 h4 _ _ => ?_, fun b hb => ⟨hideAll_none _ hb, ?_⟩, rfl, fun j ao e => ?_, hgens, rfl, fun i a e => e⟩
    · match i, j, h1, h2 with
      | 0, 0, _, _ => rfl
      | 1, 1, _, _ => rfl
      | 0, 1, h1, h2 => cases h1; cases h2
      | 1, 0, h1, h2 => cases h1; cases h2
      | i + 2, _, h1, _ => simp at h1
      | _, j + 2, _, h2 => simp at h2
    · rcases List.mem_cons.mp hb with rfl | hb
      · exact ⟨_, tab0⟩
      · rw [List.mem_singleton.mp hb]; exact ⟨_, tab1⟩
    · have e : (Tr.node (some (AObj.tab 61 4 none)) (.node (some (.tab 46 4 none)) .nil .nil) .nil).get j = some ao := e
      rw [Tr.get_node] at e
      by_cases j0 : j = 0
      · subst j0; rw [if_pos rfl] at e; cases e; exact ⟨44, rfl, tab0⟩
      · rw [if_neg j0] at e
        by_cases jm : j % 2 = 1
        · rw [if_pos jm, Tr.get_node] at e
          by_cases j1 : j / 2 = 0
          · rw [if_pos j1] at e; cases e
            have : j = 1 := by omega
            subst this
            exact ⟨37, rfl, tab1⟩
          · rw [if_neg j1] at e
            split at e <;> simp [Tr.get] at e
        · rw [if_neg jm] at e; simp [Tr.get] at e
  -- the def
  obtain ⟨d, hd', e1, e2, e3, e4⟩ := HO.recs 12 (by decide) (by decide)
  obtain ⟨a', o, pm, code, doc, f1, f2, f3, f4⟩ := T.fn d (List.mem_of_getElem? hd')
  rw [e1, e2, e3, e4] at f3
  rw [e1] at f1 f4
  have : a' = a := by
    rw [show lawM.fnm 12 = ("law" : Str) from rfl, hmg] at f1
    cases f1; rfl
  subst this
  have hroom : callerA.depth < recursionLimit := by decide +kernel
  have hlim : s₁.heap.NoLimit := T.nolimit
  refine wpAny_call (codeAny_call_cells (fd := docDef (lawM.fnm 12) (lawM.par 12) (stBody (defAt (fnPos 12))) (lawM.sc 12) pm code doc) (binds := [(("script" : Str), .ref sa)]) hroom f2 f3 hlim f4 rfl rfl rfl
    (fun x hx => .inl (by rw [List.mem_singleton.mp hx]; rfl)) (fun s2 X => ?_) rfl rfl rfl)
  obtain ⟨h', tk, rfl, hkeep⟩ := X.done
  rw [body12_cons]
  generalize henv : callEnvC (docDef (lawM.fnm 12) (lawM.par 12) (lawFirst :: toSs lawT 12 body12) (lawM.sc 12) pm code doc) s₁.heap.objs.size a' = env
  have hns : h'.Ns s₁.heap.objs.size (bindL (fun x => (lawM.sc 12).names.lookup x) [(("script" : Str), .ref sa)] (fun _ => none)) := X.toInCall.ns
  obtain ⟨b1, b2⟩ := bindL_at (fun x => (lawM.sc 12).names.lookup x) [(("script" : Str), Value.ref sa)] (fun _ => none) (by simp)
  have b1 := b1 "script" (.ref sa) (by simp) rfl
  have b2 : ∀ x : Str, x ≠ ("script" : Str) → bindL (fun x => (lawM.sc 12).names.lookup x) [(("script" : Str), Value.ref sa)] (fun _ => none) x = none := fun x hx => b2 x (.inl (by simpa using hx))
  generalize bindL (fun x => (lawM.sc 12).names.lookup x) [(("script" : Str), Value.ref sa)] (fun _ => none) = m at hns b1 b2
  have hoff : ∀ i : Nat, 1 ≤ i → i < 10 → lawM.nm 12 i ≠ ("script" : Str) := by
    intro i h1 h2 e
    have e : (lawM.nm 12 i == ("script" : Str)) = true := by rw [e]; simp
    revert e
    match i, h1, h2 with
    | 1, _, _ | 2, _, _ | 3, _, _ | 4, _, _ | 5, _, _ | 6, _, _ | 7, _, _ | 8, _, _ | 9, _, _ => decide +kernel
  obtain ⟨R1, G1⟩ := R0.same (h' := h') (t' := tk) hkeep
  have hframe : RO (topC prog w (ghostOf s₁.heap [(48, 44), (41, 37)]) (lawGa sa) mg mb (letT (lawN ks)) s₁.os) ([44, 37] ++ [s₁.heap.objs.size]) h' s₁.heap.objs.size fT := by
    refine ⟨by show 10 ≤ (lawM.sc 12).names.length; decide, m, hns, fun i x hi => ?_⟩
    cases i with
    | zero => cases hi; exact ⟨_, b1, rfl⟩
    | succ i =>
      have hi : (blanks 9)[i]? = some x := hi
      have hx := blanks_at _ _ _ hi
      have hlen := (List.getElem?_eq_some_iff.mp hi).1
      rw [blanks_len] at hlen
      subst hx
      exact b2 _ (hoff (i + 1) (by omega) (by omega))
  have R2 := R1.adopt (show 2 < 4096 by decide) (a := s₁.heap.objs.size) (fun hm => by
    rcases List.mem_cons.mp hm with q | hm
    · have := (hT (48, 44) (by simp)).2
      rw [show (44 : Addr) = s₁.heap.objs.size from q.symm, get_size] at this; cases this
    · have := (hT (41, 37) (by simp)).2
      rw [show (37 : Addr) = s₁.heap.objs.size from (List.mem_singleton.mp hm).symm, get_size] at this; cases this) (by
    cases q : (ghostOf s₁.heap [(48, 44), (41, 37)]).get? s₁.heap.objs.size with
    | none => exact q
    | some o => have := of_hideAll _ q; rw [get_size] at this; cases this) hframe
  have H : EnvOk (topC prog w (ghostOf s₁.heap [(48, 44), (41, 37)]) (lawGa sa) mg mb (letT (lawN ks)) s₁.os) lawT env eT ([44, 37] ++ [s₁.heap.objs.size]) (callerA.deeper env) { s₁ with heap := h', toks := tk } := by
    subst henv
    refine ⟨?_, fun q => (by cases q), rfl, rfl, rfl, rfl, fun i x hx => OT.look _ _ _ _ hx, fun i x hx => OT.look _ _ _ _ hx, fun x hx => hx, fun k n hn => (by cases hn), fun i c hc => (by cases hc)⟩
    obtain ⟨o', ho', hd''⟩ := RO.dict_of hframe rfl
    exact Stk.deeper (A := callerA) ⟨[], rfl, fun _ h => by cases h⟩ (a := s₁.heap.objs.size) (o := o') (fun q => by cases q) rfl (by simp) ho' hd''
  have hA : AOk (callerA.deeper env) 0 := ⟨rfl, by show callerA.depth + 1 ≤ 500; decide +kernel, by show callerA.units + 3 ≤ 500; decide +kernel, by decide⟩
  have hL' : ({ s₁ with heap := h', toks := tk } : Shared).heap.IsList sa vs.toArray := let ⟨o, ho, r⟩ := hL; ⟨o, hkeep _ _ ho, r⟩
  refine wpAny_execs_cons (first_line OT rfl hL' hI h63 (fun i hi => ?_) H R2 fun S' s' σ' hw R' G' => ?_)
  · show (if i < 100 then _ else _) = _
    rw [if_pos (by omega)]
  have hm7 : (lawN ks 0 % 7).toNat < 7 := by omega
  obtain ⟨σ2, hrun, ht0, ht1⟩ := okO_at (okT_all _ hm7)
  unfold runT at hrun
  rw [hw] at hrun
  have HK : (kT ((lawN ks 0 % 7).toNat : Nat)).Ok (topC prog w (ghostOf s₁.heap [(48, 44), (41, 37)]) (lawGa sa) mg mb (letT (lawN ks)) s₁.os).ι := kT_ok (by show lawN ks 0 % 7 = _; omega)
  refine (ev_sound HK OT hP 20).ss hrun chk12 (H.grow G') hA R' fun S3 s3 f R3 G3 V3 => ?_
  obtain ⟨u, rfl, hu⟩ := V3
  have hu : u = .bool true := hu
  subst hu
  refine ⟨rfl, R3.os, R3.bare, fun b o e hb => R3.keep b o (ghost_ne e hb) List.not_mem_nil, fun b hb => ?_⟩
  rcases List.mem_cons.mp hb with rfl | hb
  · obtain ⟨x, hx, H0⟩ := R3.objs 0 _ ht0
    have := R3.ta 0 44 rfl
    rw [this] at hx; cases hx; exact H0
  · rw [List.mem_singleton.mp hb]
    obtain ⟨x, hx, H0⟩ := R3.objs 1 _ ht1
    have := R3.ta 1 37 rfl
    rw [this] at hx; cases hx; exact H0
end Mine

namespace Mine
theorem law_walk (HR : ∀ m r : Nat, 4 ≤ m → m ≤ 10 → r < 9 → OkR m r) (HF : ∀ m : Nat, 4 ≤ m → m ≤ 10 → OkF m) (HV : ∀ m : Nat, 4 ≤ m → m ≤ 10 → OkV m ∧ chkD m (wtab m) = true) 
    {V : Program} {FR : Params → Frag} {lo : List Str} {ad : List Addr} {pf : ∀ p, ad = (FR p).map (·.1)} {d : DefRec} {kwd : List (Str × Expr)} (HO : HeadOk V FR) (hname : d.name = ("law" : Str)) :
    WalkO V lo (XL V []) (kmHook FR ad pf [44, 37]).says PySem.Challenge.rw_uq0004_01.row.toRowW d kwd (fun f vs => PySem.call f vs) := by
  intro w s₀ s₁ mg mb G Y a o pm cd doc dV kV ho hdata hcode hdf hmg hgens args vals as hpre hlay hreads hwell hsys
  have Y1 : (FR w.params).In s₁.heap := Y.1
  refine Ground.open G ?_
  intro T B D TE TW
  have hmg' : mg ("law" : Str) = some (.ref a) := hname ▸ hmg
  clear ho hdata hcode hdf hmg Y G TE TW D B
  have hT := tabs_at HO T Y1
  wrow_args hpre hlay hreads hwell hsys
  rename_i ks _ _ _ _ _ _ _ sa vs _ hL _ _ _ hI _ h63 _
  refine wpAny_mono (law_call (E := fun _ _ => False) HR HF HV HO T Y1 (AllBare.of_eq hgens) hmg' hL hI (by omega)) (fun v s' h => ?_) (fun e s' h => h.elim)
  obtain ⟨rfl, hos, hbare, hkeep, htab⟩ := h
  refine ⟨.inl ⟨.bool true, .bool true, [], rfl, fun _ => rfl, .bool true, ?_, fun _ => ⟨List.nodup_nil, fun x hx => by cases hx⟩⟩, ⟨fun b o e => ?_, fun b o e => ?_⟩, hos, hbare⟩
  · have h1 : WShape.has PySem.Challenge.rw_uq0004_01.row.records (.bool true) .bool = true := by first | rfl | decide +kernel | (unfold WShape.has; rfl)
    have h2 : (WTm.eq .res (.lit (.bool true))).value PySem.Challenge.rw_uq0004_01.row.records { args := [ofPy (PyData.list (ks.map PyData.int))], res := some (.bool true), after := [ofPy (PyData.list (ks.map PyData.int))] } = some (.bool (true == true)) :=
      w_eq_bool (w_res rfl) (by simp [WTm.value])
    have h3 : (WTm.eq .res (.lit (.bool true))).holds PySem.Challenge.rw_uq0004_01.row.records { args := [ofPy (PyData.list (ks.map PyData.int))], res := some (.bool true), after := [ofPy (PyData.list (ks.map PyData.int))] } = true := by
      unfold WTm.holds
      rw [h2]
      rfl
    exact Bool.and_eq_true_iff.mpr ⟨h1, h3⟩
  · by_cases hb : b ∈ ([44, 37] : List Addr)
    · obtain ⟨ps, hP⟩ := htab b hb
      have hq : ∃ q ∈ ([(48, 44), (41, 37)] : List (Addr × Addr)), q.2 = b := by
        rcases List.mem_cons.mp hb with rfl | hb
        · exact ⟨(48, 44), by simp, rfl⟩
        · rw [List.mem_singleton.mp hb]; exact ⟨(41, 37), by simp, rfl⟩
      obtain ⟨q, hq, rfl⟩ := hq
      have e2 := (hT q hq).2
      rw [e] at e2
      cases e2
      exact .inr (.inl ⟨((hT q hq).1.tab (hT q hq).2).isCodeTable, rfl, #[], ps, rfl, by rw [Array.empty_append]; exact hP⟩)
    · exact .inl (hkeep b o e hb)
  · by_cases hb : b ∈ ([44, 37] : List Addr)
    · obtain ⟨ps, hP⟩ := htab b hb
      exact ⟨_, hP⟩
    · exact ⟨o, hkeep b o e hb⟩
end Mine

namespace Mine
/-! the head by hand: the view, and the six objects that the proof reads -/
noncomputable def dEnt (P : Params) (x : Str) (t : Nat) (v : Value) : DictEntry := ⟨PyData.keyHash P x, .str x t, v⟩
noncomputable def iEnt (k : Int) (t : Nat) (x : Str) (t' : Nat) : DictEntry := ⟨k, .int k t, .str x t'⟩
noncomputable def oGlob (P : Params) : Obj := { cls := .type "dict", data := .dict #[dEnt P "__name__" 165 (.str "law_uq0004_01" 325), dEnt P "__doc__" 166 .none, dEnt P "__package__" 167 .none,
  dEnt P "__loader__" 168 (.builtin "__main__.__loader__#opaque"), dEnt P "__spec__" 169 .none, dEnt P "__annotations__" 170 (.ref 6), dEnt P "__builtins__" 171 (.ref 4), dEnt P "__file__" 173 (.str "/claim/cut.py" 172),
  dEnt P "__cached__" 174 .none, dEnt P "CHAR_MAX" 190 (.int 127 189), dEnt P "_grouping_intervals" 199 (.ref 21), dEnt P "_DIV_LIMIT" 203 (.int 4000 202), dEnt P "_div2n1n" 220 (.ref 28), dEnt P "_div3n2n" 234 (.ref 35),
  dEnt P "_int2digits" 245 (.ref 42), dEnt P "_digits2int" 256 (.ref 49), dEnt P "_divmod_pos" 271 (.ref 56), dEnt P "int_divmod" 281 (.ref 63), dEnt P "COMPILER_FLAG_NAMES" 314 (.ref 64), dEnt P "pretty_flags" 324 (.ref 71),
  dEnt P "_law_marks" 339 (.ref 78), dEnt P "_law_by_rulers" 363 (.ref 85), dEnt P "_law_by_division" 382 (.ref 92), dEnt P "_law_by_flags" 388 (.ref 97), dEnt P "law" 400 (.ref 104)] 25 }
noncomputable def oCode (x : Str) (t l a b : Nat) : Obj := { cls := .type "code", data := .fields #[.str x t, .str x (t + 1), .str "/claim/cut.py" (t + 2), .int l 0, .int 2 0, .int 0 0, .int 0 0, .int 3 0, .ref a, .bool true, .int 181 0, .ref (a + 1), .none, .ref (a + 2), .ref (a + 3), .ref (a + 4),
  .int b 0, .int l 0, .str "/claim/cut.py" (b + 1)] }
noncomputable def oFun (k c : Nat) : Obj := { cls := .type "function", data := .func { name := lawNm k, qualname := lawNm k, params := stArgs (defAt (fnPos k)), body := .stmts (stBody (defAt (fnPos k))), scope := lawSc k, globals := 3, closure := [], defaults := .none, kwdefaults := .none, pyModule := .str "cpy313._pylong" 200, code := .ref c } }
noncomputable def oFlags : Obj := { cls := .type "dict", data := .dict #[iEnt 1 284 "OPTIMIZED" 285, iEnt 2 286 "NEWLOCALS" 287, iEnt 4 288 "VARARGS" 289, iEnt 8 290 "VARKEYWORDS" 291, iEnt 16 292 "NESTED" 293, iEnt 32 294 "GENERATOR" 295, iEnt 64 296 "NOFREE" 297,
  iEnt 128 298 "COROUTINE" 299, iEnt 256 300 "ITERABLE_COROUTINE" 301, iEnt 512 302 "ASYNC_GENERATOR" 303] 10 }
noncomputable def lawFr (P : Params) : Frag := [(3, oGlob P), (41, oCode "_int2digits" 235 43 36 243), (42, oFun 3 41), (48, oCode "_digits2int" 246 59 43 254), (49, oFun 4 48), (64, oFlags)]
noncomputable def lawV : Program := { PySem.Challenge.pw_uq0004_01 with main := { PySem.Challenge.pw_uq0004_01.main with body := [defAt 1, defAt 2, defAt 4, defAt 5, defAt 6, defAt 7, defAt 8, defAt 9, defAt 10, defAt 12, defAt 13, defAt 15, defAt 16, defAt 17, defAt 18, defAt 19] } }
noncomputable def lawH : Hook := kmHook lawFr [3, 41, 42, 48, 49, 64] (fun _ => rfl) [44, 37]
theorem headOk : HeadOk lawV lawFr := by
  refine ⟨⟨_, rfl, rfl, rfl, rfl, rfl⟩, fun k h0 h => ?_, fun p => ⟨_, _, _, rfl, rfl, fun k hk => ?_, ⟨_, rfl⟩, ⟨_, rfl⟩, rfl, fun b => ?_, rfl, rfl, rfl, rfl, rfl⟩, fun p => ⟨_, rfl, rfl⟩, fun p => ⟨rfl, rfl⟩, ⟨_, rfl⟩, ⟨_, rfl⟩⟩
  · rcases k with _ | _ | _ | _ | _ | _ | _ | _ | _ | _ | _ | _ | _ | k
    · omega
    all_goals first | exact ⟨_, rfl, rfl, rfl, rfl, rfl⟩ | omega
  · rcases k with _ | _ | _ | _ | _ | _ | _ | _ | _ | _ | _ | _ | _ | k
    all_goals first | rfl | omega
  · cases b <;> rfl
end Mine

namespace Mine
theorem said1 : PySem.Challenge.rw_uq0004_01.wellSaid = true := by decide +kernel
theorem left1 : LeftO PySem.Challenge.pw_uq0004_01 lawV ["COMPILER_FLAG_NAMES"] (fun s => xlAt lawV [] s && recOk PySem.Challenge.rw_uq0004_01.row.records s) (Hook.obs lawH) (Hook.val lawH) 1424 := by
  refine LeftO.of_split "special-get-raises" ?_
  intro w
  kernel_rfl
set_option maxHeartbeats 8000000 in
theorem law_holds (HR : ∀ m r : Nat, 4 ≤ m → m ≤ 10 → r < 9 → OkR m r) (HF : ∀ m : Nat, 4 ≤ m → m ≤ 10 → OkF m) (HV : ∀ m : Nat, 4 ≤ m → m ≤ 10 → OkV m ∧ chkD m (wtab m) = true) :
    PySem.Challenge.rw_uq0004_01.Holds := by
  refine holds_law said1 fun said => ?_
  refine holds_open (q := lawV) (loose := ["COMPILER_FLAG_NAMES"]) (Xt := fun s => xlAt lawV [] s && recOk PySem.Challenge.rw_uq0004_01.row.records s) (XP := XL lawV []) (Yf := Hook.obs lawH) (Ya := Hook.val lawH) (YP := Hook.says lawH) (N := 1424)
    left1 (Hook.of lawH) (Hook.keeps lawH) (fun s e => xl_of s (Bool.and_eq_true_iff.mp e).1) XL.keeps (by rfl) (by rfl) (by rfl) (fun s e => recFacts_of (Bool.and_eq_true_iff.mp e).2) (by rfl) (by assumption) (by decide +kernel) ⟨rfl, rfl, rfl, rfl, rfl, by decide +kernel⟩ ?hw ?hc
  case hw => w_witness2
  exact law_walk HR HF HV headOk rfl
end Mine

namespace Mine
theorem kr4a : okRun (wtab 4) (runR 100 ((4 : Nat) : Int) ((0 : Nat) : Int)) = true := by decide +kernel
theorem kr4b : okRun (wtab 4) (runR 100 ((4 : Nat) : Int) ((1 : Nat) : Int)) = true := by decide +kernel
theorem kr4c : okRun (wtab 4) (runR 100 ((4 : Nat) : Int) ((2 : Nat) : Int)) = true := by decide +kernel
theorem kr4d : okRun (wtab 4) (runR 100 ((4 : Nat) : Int) ((3 : Nat) : Int)) = true := by decide +kernel
theorem kr4e : okRun (wtab 4) (runR 100 ((4 : Nat) : Int) ((4 : Nat) : Int)) = true := by decide +kernel
theorem kr4f : okRun (wtab 4) (runR 100 ((4 : Nat) : Int) ((5 : Nat) : Int)) = true := by decide +kernel
theorem kr4g : okRun (wtab 4) (runR 100 ((4 : Nat) : Int) ((6 : Nat) : Int)) = true := by decide +kernel
theorem kr4h : okRun (wtab 4) (runR 100 ((4 : Nat) : Int) ((7 : Nat) : Int)) = true := by decide +kernel
theorem kr4i : okRun (wtab 4) (runR 100 ((4 : Nat) : Int) ((8 : Nat) : Int)) = true := by decide +kernel
theorem kf4 : okRun (wtab 4) (runF 100 ((4 : Nat) : Int)) = true := by decide +kernel
theorem kv4 : okVx (wantD 4) (runD 100 4) = true := by decide +kernel
theorem kc4 : chkD 4 (wtab 4) = true := by decide +kernel
theorem kr5a : okRun (wtab 5) (runR 100 ((5 : Nat) : Int) ((0 : Nat) : Int)) = true := by decide +kernel
theorem kr5b : okRun (wtab 5) (runR 100 ((5 : Nat) : Int) ((1 : Nat) : Int)) = true := by decide +kernel
theorem kr5c : okRun (wtab 5) (runR 100 ((5 : Nat) : Int) ((2 : Nat) : Int)) = true := by decide +kernel
theorem kr5d : okRun (wtab 5) (runR 100 ((5 : Nat) : Int) ((3 : Nat) : Int)) = true := by decide +kernel
theorem kr5e : okRun (wtab 5) (runR 100 ((5 : Nat) : Int) ((4 : Nat) : Int)) = true := by decide +kernel
theorem kr5f : okRun (wtab 5) (runR 100 ((5 : Nat) : Int) ((5 : Nat) : Int)) = true := by decide +kernel
theorem kr5g : okRun (wtab 5) (runR 100 ((5 : Nat) : Int) ((6 : Nat) : Int)) = true := by decide +kernel
theorem kr5h : okRun (wtab 5) (runR 100 ((5 : Nat) : Int) ((7 : Nat) : Int)) = true := by decide +kernel
theorem kr5i : okRun (wtab 5) (runR 100 ((5 : Nat) : Int) ((8 : Nat) : Int)) = true := by decide +kernel
theorem kf5 : okRun (wtab 5) (runF 100 ((5 : Nat) : Int)) = true := by decide +kernel
theorem kv5 : okVx (wantD 5) (runD 100 5) = true := by decide +kernel
theorem kc5 : chkD 5 (wtab 5) = true := by decide +kernel
theorem kr6a : okRun (wtab 6) (runR 100 ((6 : Nat) : Int) ((0 : Nat) : Int)) = true := by decide +kernel
theorem kr6b : okRun (wtab 6) (runR 100 ((6 : Nat) : Int) ((1 : Nat) : Int)) = true := by decide +kernel
theorem kr6c : okRun (wtab 6) (runR 100 ((6 : Nat) : Int) ((2 : Nat) : Int)) = true := by decide +kernel
theorem kr6d : okRun (wtab 6) (runR 100 ((6 : Nat) : Int) ((3 : Nat) : Int)) = true := by decide +kernel
theorem kr6e : okRun (wtab 6) (runR 100 ((6 : Nat) : Int) ((4 : Nat) : Int)) = true := by decide +kernel
theorem kr6f : okRun (wtab 6) (runR 100 ((6 : Nat) : Int) ((5 : Nat) : Int)) = true := by decide +kernel
theorem kr6g : okRun (wtab 6) (runR 100 ((6 : Nat) : Int) ((6 : Nat) : Int)) = true := by decide +kernel
theorem kr6h : okRun (wtab 6) (runR 100 ((6 : Nat) : Int) ((7 : Nat) : Int)) = true := by decide +kernel
theorem kr6i : okRun (wtab 6) (runR 100 ((6 : Nat) : Int) ((8 : Nat) : Int)) = true := by decide +kernel
theorem kf6 : okRun (wtab 6) (runF 100 ((6 : Nat) : Int)) = true := by decide +kernel
theorem kv6 : okVx (wantD 6) (runD 100 6) = true := by decide +kernel
theorem kc6 : chkD 6 (wtab 6) = true := by decide +kernel
theorem kr7a : okRun (wtab 7) (runR 100 ((7 : Nat) : Int) ((0 : Nat) : Int)) = true := by decide +kernel
theorem kr7b : okRun (wtab 7) (runR 100 ((7 : Nat) : Int) ((1 : Nat) : Int)) = true := by decide +kernel
theorem kr7c : okRun (wtab 7) (runR 100 ((7 : Nat) : Int) ((2 : Nat) : Int)) = true := by decide +kernel
theorem kr7d : okRun (wtab 7) (runR 100 ((7 : Nat) : Int) ((3 : Nat) : Int)) = true := by decide +kernel
theorem kr7e : okRun (wtab 7) (runR 100 ((7 : Nat) : Int) ((4 : Nat) : Int)) = true := by decide +kernel
theorem kr7f : okRun (wtab 7) (runR 100 ((7 : Nat) : Int) ((5 : Nat) : Int)) = true := by decide +kernel
theorem kr7g : okRun (wtab 7) (runR 100 ((7 : Nat) : Int) ((6 : Nat) : Int)) = true := by decide +kernel
theorem kr7h : okRun (wtab 7) (runR 100 ((7 : Nat) : Int) ((7 : Nat) : Int)) = true := by decide +kernel
theorem kr7i : okRun (wtab 7) (runR 100 ((7 : Nat) : Int) ((8 : Nat) : Int)) = true := by decide +kernel
theorem kf7 : okRun (wtab 7) (runF 100 ((7 : Nat) : Int)) = true := by decide +kernel
theorem kv7 : okVx (wantD 7) (runD 100 7) = true := by decide +kernel
theorem kc7 : chkD 7 (wtab 7) = true := by decide +kernel
theorem kr8a : okRun (wtab 8) (runR 100 ((8 : Nat) : Int) ((0 : Nat) : Int)) = true := by decide +kernel
theorem kr8b : okRun (wtab 8) (runR 100 ((8 : Nat) : Int) ((1 : Nat) : Int)) = true := by decide +kernel
theorem kr8c : okRun (wtab 8) (runR 100 ((8 : Nat) : Int) ((2 : Nat) : Int)) = true := by decide +kernel
theorem kr8d : okRun (wtab 8) (runR 100 ((8 : Nat) : Int) ((3 : Nat) : Int)) = true := by decide +kernel
theorem kr8e : okRun (wtab 8) (runR 100 ((8 : Nat) : Int) ((4 : Nat) : Int)) = true := by decide +kernel
theorem kr8f : okRun (wtab 8) (runR 100 ((8 : Nat) : Int) ((5 : Nat) : Int)) = true := by decide +kernel
theorem kr8g : okRun (wtab 8) (runR 100 ((8 : Nat) : Int) ((6 : Nat) : Int)) = true := by decide +kernel
theorem kr8h : okRun (wtab 8) (runR 100 ((8 : Nat) : Int) ((7 : Nat) : Int)) = true := by decide +kernel
theorem kr8i : okRun (wtab 8) (runR 100 ((8 : Nat) : Int) ((8 : Nat) : Int)) = true := by decide +kernel
theorem kf8 : okRun (wtab 8) (runF 100 ((8 : Nat) : Int)) = true := by decide +kernel
theorem kv8 : okVx (wantD 8) (runD 100 8) = true := by decide +kernel
theorem kc8 : chkD 8 (wtab 8) = true := by decide +kernel
theorem kr9a : okRun (wtab 9) (runR 100 ((9 : Nat) : Int) ((0 : Nat) : Int)) = true := by decide +kernel
theorem kr9b : okRun (wtab 9) (runR 100 ((9 : Nat) : Int) ((1 : Nat) : Int)) = true := by decide +kernel
theorem kr9c : okRun (wtab 9) (runR 100 ((9 : Nat) : Int) ((2 : Nat) : Int)) = true := by decide +kernel
theorem kr9d : okRun (wtab 9) (runR 100 ((9 : Nat) : Int) ((3 : Nat) : Int)) = true := by decide +kernel
theorem kr9e : okRun (wtab 9) (runR 100 ((9 : Nat) : Int) ((4 : Nat) : Int)) = true := by decide +kernel
theorem kr9f : okRun (wtab 9) (runR 100 ((9 : Nat) : Int) ((5 : Nat) : Int)) = true := by decide +kernel
theorem kr9g : okRun (wtab 9) (runR 100 ((9 : Nat) : Int) ((6 : Nat) : Int)) = true := by decide +kernel
theorem kr9h : okRun (wtab 9) (runR 100 ((9 : Nat) : Int) ((7 : Nat) : Int)) = true := by decide +kernel
theorem kr9i : okRun (wtab 9) (runR 100 ((9 : Nat) : Int) ((8 : Nat) : Int)) = true := by decide +kernel
theorem kf9 : okRun (wtab 9) (runF 100 ((9 : Nat) : Int)) = true := by decide +kernel
theorem kv9 : okVx (wantD 9) (runD 100 9) = true := by decide +kernel
theorem kc9 : chkD 9 (wtab 9) = true := by decide +kernel
theorem kr10a : okRun (wtab 10) (runR 100 ((10 : Nat) : Int) ((0 : Nat) : Int)) = true := by decide +kernel
theorem kr10b : okRun (wtab 10) (runR 100 ((10 : Nat) : Int) ((1 : Nat) : Int)) = true := by decide +kernel
theorem kr10c : okRun (wtab 10) (runR 100 ((10 : Nat) : Int) ((2 : Nat) : Int)) = true := by decide +kernel
theorem kr10d : okRun (wtab 10) (runR 100 ((10 : Nat) : Int) ((3 : Nat) : Int)) = true := by decide +kernel
theorem kr10e : okRun (wtab 10) (runR 100 ((10 : Nat) : Int) ((4 : Nat) : Int)) = true := by decide +kernel
theorem kr10f : okRun (wtab 10) (runR 100 ((10 : Nat) : Int) ((5 : Nat) : Int)) = true := by decide +kernel
theorem kr10g : okRun (wtab 10) (runR 100 ((10 : Nat) : Int) ((6 : Nat) : Int)) = true := by decide +kernel
theorem kr10h : okRun (wtab 10) (runR 100 ((10 : Nat) : Int) ((7 : Nat) : Int)) = true := by decide +kernel
theorem kr10i : okRun (wtab 10) (runR 100 ((10 : Nat) : Int) ((8 : Nat) : Int)) = true := by decide +kernel
theorem kf10 : okRun (wtab 10) (runF 100 ((10 : Nat) : Int)) = true := by decide +kernel
theorem kv10 : okVx (wantD 10) (runD 100 10) = true := by decide +kernel
theorem kc10 : chkD 10 (wtab 10) = true := by decide +kernel
theorem allR (m r : Nat) (h1 : 4 ≤ m) (h2 : m ≤ 10) (h3 : r < 9) : OkR m r := from4 (P := fun m => OkR m r)
  (below9 (P := fun r => OkR 4 r) ⟨_, kr4a⟩ ⟨_, kr4b⟩ ⟨_, kr4c⟩ ⟨_, kr4d⟩ ⟨_, kr4e⟩ ⟨_, kr4f⟩ ⟨_, kr4g⟩ ⟨_, kr4h⟩ ⟨_, kr4i⟩ r h3)
  (below9 (P := fun r => OkR 5 r) ⟨_, kr5a⟩ ⟨_, kr5b⟩ ⟨_, kr5c⟩ ⟨_, kr5d⟩ ⟨_, kr5e⟩ ⟨_, kr5f⟩ ⟨_, kr5g⟩ ⟨_, kr5h⟩ ⟨_, kr5i⟩ r h3)
  (below9 (P := fun r => OkR 6 r) ⟨_, kr6a⟩ ⟨_, kr6b⟩ ⟨_, kr6c⟩ ⟨_, kr6d⟩ ⟨_, kr6e⟩ ⟨_, kr6f⟩ ⟨_, kr6g⟩ ⟨_, kr6h⟩ ⟨_, kr6i⟩ r h3)
  (below9 (P := fun r => OkR 7 r) ⟨_, kr7a⟩ ⟨_, kr7b⟩ ⟨_, kr7c⟩ ⟨_, kr7d⟩ ⟨_, kr7e⟩ ⟨_, kr7f⟩ ⟨_, kr7g⟩ ⟨_, kr7h⟩ ⟨_, kr7i⟩ r h3)
  (below9 (P := fun r => OkR 8 r) ⟨_, kr8a⟩ ⟨_, kr8b⟩ ⟨_, kr8c⟩ ⟨_, kr8d⟩ ⟨_, kr8e⟩ ⟨_, kr8f⟩ ⟨_, kr8g⟩ ⟨_, kr8h⟩ ⟨_, kr8i⟩ r h3)
  (below9 (P := fun r => OkR 9 r) ⟨_, kr9a⟩ ⟨_, kr9b⟩ ⟨_, kr9c⟩ ⟨_, kr9d⟩ ⟨_, kr9e⟩ ⟨_, kr9f⟩ ⟨_, kr9g⟩ ⟨_, kr9h⟩ ⟨_, kr9i⟩ r h3)
  (below9 (P := fun r => OkR 10 r) ⟨_, kr10a⟩ ⟨_, kr10b⟩ ⟨_, kr10c⟩ ⟨_, kr10d⟩ ⟨_, kr10e⟩ ⟨_, kr10f⟩ ⟨_, kr10g⟩ ⟨_, kr10h⟩ ⟨_, kr10i⟩ r h3) m h1 h2
theorem allF (m : Nat) (h1 : 4 ≤ m) (h2 : m ≤ 10) : OkF m := from4 ⟨_, kf4⟩ ⟨_, kf5⟩ ⟨_, kf6⟩ ⟨_, kf7⟩ ⟨_, kf8⟩ ⟨_, kf9⟩ ⟨_, kf10⟩ m h1 h2
theorem allV (m : Nat) (h1 : 4 ≤ m) (h2 : m ≤ 10) : OkV m ∧ chkD m (wtab m) = true := from4 (P := fun m => OkV m ∧ chkD m (wtab m) = true) ⟨⟨_, kv4⟩, kc4⟩ ⟨⟨_, kv5⟩, kc5⟩ ⟨⟨_, kv6⟩, kc6⟩ ⟨⟨_, kv7⟩, kc7⟩ ⟨⟨_, kv8⟩, kc8⟩ ⟨⟨_, kv9⟩, kc9⟩ ⟨⟨_, kv10⟩, kc10⟩ m h1 h2
end Mine
theorem PySem.Challenge.cw_uq0004_01_holds : PySem.Challenge.rw_uq0004_01.Holds :=
  Mine.law_holds Mine.allR Mine.allF Mine.allV
