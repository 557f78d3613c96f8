import PyProof.Rows.All
import Wide.All
import OpenK.AllK
import Wide.FinOn
import Lean
import PySem.Challenge.RW_ph0007_01
set_option Elab.async false
noncomputable section
open PySem PySem.W PyProof.Rows
set_option Elab.async false
set_option autoImplicit false
set_option linter.unusedVariables false
set_option linter.unusedSimpArgs false
namespace Mine
/-- What a value is, read off the heap. -/
inductive D where
  | none
  | bool (b : Bool)
  | int (i : Int)
  | str (x : Str)
  | bytes (b : List UInt8)
  | list (xs : List D)
  | tuple (xs : List D)
  | range (a b c : Int)
  | addr (a : Addr)
mutual
/-- v reads d in h, and every list or tuple met lies at an address that meets P. -/
def Rd (P : Addr → Prop) (h : Heap) : D → Value → Prop
  | .none, v => v = .none
  | .bool b, v => v = .bool b
  | .int i, v => ∃ t, v = .int i t
  | .str x, v => ∃ t, v = .str x t
  | .bytes b, v => ∃ t, v = .bytes b.toArray t
  | .list xs, v => ∃ a vs, v = .ref a ∧ P a ∧ h.IsList a vs.toArray ∧ RdL P h xs vs
  | .tuple xs, v => ∃ a vs, v = .ref a ∧ P a ∧ h.IsTuple a vs.toArray ∧ RdL P h xs vs
  | .range x y z, v => ∃ a t u w, v = .ref a ∧ P a ∧ IsRange h a x y z t u w
  | .addr a, v => v = .ref a
def RdL (P : Addr → Prop) (h : Heap) : List D → List Value → Prop
  | [], vs => vs = []
  | d :: ds, vs => ∃ v r, vs = v :: r ∧ Rd P h d v ∧ RdL P h ds r
end
def Sub (h h' : Heap) : Prop := ∀ b o, h.get? b = some o → h'.get? b = some o
theorem Sub.refl (h : Heap) : Sub h h := fun _ _ e => e
theorem Sub.trans {h h' h'' : Heap} (x : Sub h h') (y : Sub h' h'') : Sub h h'' := fun b o e => y b o (x b o e)
def All (_ : Addr) : Prop := True
theorem isList_sub {h h' : Heap} (k : Sub h h') {a : Addr} {xs : Array Value} (e : h.IsList a xs) : h'.IsList a xs := e.at fun o e => k a o e
theorem isTuple_at {h h' : Heap} {a : Addr} (k : ∀ o, h.get? a = some o → h'.get? a = some o) {xs : Array Value} (e : h.IsTuple a xs) : h'.IsTuple a xs :=
  let ⟨o, e1, e2⟩ := e; ⟨o, k o e1, e2⟩
mutual
theorem Rd.on {P P' : Addr → Prop} {h h' : Heap} (hp : ∀ a, P a → P' a) (k : ∀ a o, P a → h.get? a = some o → h'.get? a = some o) : ∀ {d : D} {v : Value}, Rd P h d v → Rd P' h' d v
  | .none, _, r => by simpa [Rd] using r
  | .bool _, _, r => by simpa [Rd] using r
  | .int _, _, r => by simpa [Rd] using r
  | .str _, _, r => by simpa [Rd] using r
  | .bytes _, _, r => by simpa [Rd] using r
  | .addr _, _, r => by simpa [Rd] using r
  | .list xs, v, r => by
    simp only [Rd] at r ⊢
    obtain ⟨a, vs, e1, e2, e3, e4⟩ := r
    exact ⟨a, vs, e1, hp a e2, e3.at fun o e => k a o e2 e, RdL.on hp k e4⟩
  | .tuple xs, v, r => by
    simp only [Rd] at r ⊢
    obtain ⟨a, vs, e1, e2, e3, e4⟩ := r
    exact ⟨a, vs, e1, hp a e2, isTuple_at (fun o e => k a o e2 e) e3, RdL.on hp k e4⟩
  | .range x y z, v, r => by
    simp only [Rd] at r ⊢
    obtain ⟨a, t, u, w, e1, e2, e3⟩ := r
    exact ⟨a, t, u, w, e1, hp a e2, k a _ e2 e3⟩
theorem RdL.on {P P' : Addr → Prop} {h h' : Heap} (hp : ∀ a, P a → P' a) (k : ∀ a o, P a → h.get? a = some o → h'.get? a = some o) : ∀ {ds : List D} {vs : List Value}, RdL P h ds vs → RdL P' h' ds vs
  | [], _, r => by simpa [RdL] using r
  | d :: ds, vs, r => by
    simp only [RdL] at r ⊢
    obtain ⟨v, q, e1, e2, e3⟩ := r
    exact ⟨v, q, e1, Rd.on hp k e2, RdL.on hp k e3⟩
end
mutual
theorem Rd.dom {P : Addr → Prop} {h : Heap} : ∀ {d : D} {v : Value}, Rd P h d v → Rd (fun b => P b ∧ b < h.objs.size) h d v
  | .none, _, r => by simpa [Rd] using r
  | .bool _, _, r => by simpa [Rd] using r
  | .int _, _, r => by simpa [Rd] using r
  | .str _, _, r => by simpa [Rd] using r
  | .bytes _, _, r => by simpa [Rd] using r
  | .addr _, _, r => by simpa [Rd] using r
  | .list xs, v, r => by
    simp only [Rd] at r ⊢
    obtain ⟨a, vs, e1, e2, e3, e4⟩ := r
    exact ⟨a, vs, e1, ⟨e2, let ⟨_, ho, _⟩ := e3; Heap.lt_size ho⟩, e3, RdL.dom e4⟩
  | .tuple xs, v, r => by
    simp only [Rd] at r ⊢
    obtain ⟨a, vs, e1, e2, e3, e4⟩ := r
    exact ⟨a, vs, e1, ⟨e2, let ⟨_, ho, _⟩ := e3; Heap.lt_size ho⟩, e3, RdL.dom e4⟩
  | .range x y z, v, r => by
    simp only [Rd] at r ⊢
    obtain ⟨a, t, u, w, e1, e2, e3⟩ := r
    exact ⟨a, t, u, w, e1, ⟨e2, Heap.lt_size e3⟩, e3⟩
theorem RdL.dom {P : Addr → Prop} {h : Heap} : ∀ {ds : List D} {vs : List Value}, RdL P h ds vs → RdL (fun b => P b ∧ b < h.objs.size) h ds vs
  | [], _, r => by simpa [RdL] using r
  | d :: ds, vs, r => by
    simp only [RdL] at r ⊢
    obtain ⟨v, q, e1, e2, e3⟩ := r
    exact ⟨v, q, e1, Rd.dom e2, RdL.dom e3⟩
end
theorem Rd.sub {P : Addr → Prop} {h h' : Heap} (k : Sub h h') {d : D} {v : Value} (r : Rd P h d v) : Rd P h' d v := r.on (fun _ e => e) fun a o _ e => k a o e
theorem RdL.sub {P : Addr → Prop} {h h' : Heap} (k : Sub h h') {ds : List D} {vs : List Value} (r : RdL P h ds vs) : RdL P h' ds vs := r.on (fun _ e => e) fun a o _ e => k a o e
theorem Rd.mono {P P' : Addr → Prop} {h : Heap} (k : ∀ a, P a → P' a) {d : D} {v : Value} (r : Rd P h d v) : Rd P' h d v := r.on k fun a o _ e => e
theorem RdL.mono {P P' : Addr → Prop} {h : Heap} (k : ∀ a, P a → P' a) {ds : List D} {vs : List Value} (r : RdL P h ds vs) : RdL P' h ds vs := r.on k fun a o _ e => e
section
variable {P : Addr → Prop} {h : Heap}
theorem rd_none {v : Value} : Rd P h .none v ↔ v = .none := by simp [Rd]
theorem rd_bool {b : Bool} {v : Value} : Rd P h (.bool b) v ↔ v = .bool b := by simp [Rd]
theorem rd_int {i : Int} {v : Value} : Rd P h (.int i) v ↔ ∃ t, v = .int i t := by simp [Rd]
theorem rd_str {x : Str} {v : Value} : Rd P h (.str x) v ↔ ∃ t, v = .str x t := by simp [Rd]
theorem rd_bytes {b : List UInt8} {v : Value} : Rd P h (.bytes b) v ↔ ∃ t, v = .bytes b.toArray t := by simp [Rd]
theorem rd_list {xs : List D} {v : Value} : Rd P h (.list xs) v ↔ ∃ a vs, v = .ref a ∧ P a ∧ h.IsList a vs.toArray ∧ RdL P h xs vs := by simp [Rd]
theorem rd_tuple {xs : List D} {v : Value} : Rd P h (.tuple xs) v ↔ ∃ a vs, v = .ref a ∧ P a ∧ h.IsTuple a vs.toArray ∧ RdL P h xs vs := by simp [Rd]
theorem rd_range {x y z : Int} {v : Value} : Rd P h (.range x y z) v ↔ ∃ a t u w, v = .ref a ∧ P a ∧ IsRange h a x y z t u w := by simp [Rd]
theorem rd_addr {a : Addr} {v : Value} : Rd P h (.addr a) v ↔ v = .ref a := by simp [Rd]
theorem rdL_nil {vs : List Value} : RdL P h [] vs ↔ vs = [] := by simp [RdL]
theorem rdL_cons {d : D} {ds : List D} {vs : List Value} : RdL P h (d :: ds) vs ↔ ∃ v r, vs = v :: r ∧ Rd P h d v ∧ RdL P h ds r := by simp [RdL]
theorem rdL_cons' {d : D} {ds : List D} {v : Value} {vs : List Value} : RdL P h (d :: ds) (v :: vs) ↔ Rd P h d v ∧ RdL P h ds vs := by
  rw [rdL_cons]
  constructor
  · rintro ⟨v', r, e, h1, h2⟩
    cases e
    exact ⟨h1, h2⟩
  · rintro ⟨h1, h2⟩
    exact ⟨v, vs, rfl, h1, h2⟩
theorem RdL.length : ∀ {ds : List D} {vs : List Value}, RdL P h ds vs → vs.length = ds.length
  | [], vs, r => by rw [rdL_nil.mp r]; rfl
  | d :: ds, vs, r => by
    obtain ⟨v, q, rfl, _, h2⟩ := rdL_cons.mp r
    simp [h2.length]
theorem RdL.get : ∀ {ds : List D} {vs : List Value}, RdL P h ds vs → ∀ {i : Nat} {d : D}, ds[i]? = some d → ∃ v, vs[i]? = some v ∧ Rd P h d v
  | [], _, _, i, d, e => by simp at e
  | d :: ds, vs, r, i, d', e => by
    obtain ⟨v, q, rfl, h1, h2⟩ := rdL_cons.mp r
    cases i with
    | zero => simp at e; subst e; exact ⟨v, by simp, h1⟩
    | succ i => simp at e; obtain ⟨v', e', h'⟩ := h2.get e; exact ⟨v', by simpa using e', h'⟩
theorem RdL.append : ∀ {ds : List D} {vs : List Value}, RdL P h ds vs → ∀ {es : List D} {us : List Value}, RdL P h es us → RdL P h (ds ++ es) (vs ++ us)
  | [], vs, r, es, us, q => by rw [rdL_nil.mp r]; exact q
  | d :: ds, vs, r, es, us, q => by
    obtain ⟨v, p, rfl, h1, h2⟩ := rdL_cons.mp r
    exact rdL_cons.mpr ⟨v, p ++ us, rfl, h1, h2.append q⟩
theorem RdL.reverse : ∀ {ds : List D} {vs : List Value}, RdL P h ds vs → RdL P h ds.reverse vs.reverse
  | [], vs, r => by rw [rdL_nil.mp r]; simp [RdL]
  | d :: ds, vs, r => by
    obtain ⟨v, p, rfl, h1, h2⟩ := rdL_cons.mp r
    rw [List.reverse_cons, List.reverse_cons]
    exact h2.reverse.append (rdL_cons.mpr ⟨v, [], rfl, h1, rdL_nil.mpr rfl⟩)
theorem RdL.ints : ∀ {ns : List Int} {vs : List Value}, RdL P h (ns.map D.int) vs → IntsAre vs ns
  | [], vs, r => by rw [rdL_nil.mp r]; exact .nil
  | n :: ns, vs, r => by
    obtain ⟨v, p, rfl, h1, h2⟩ := rdL_cons.mp r
    obtain ⟨t, rfl⟩ := rd_int.mp h1
    exact .cons n t h2.ints
theorem RdL.of_ints : ∀ {vs : List Value} {ns : List Int}, IntsAre vs ns → RdL P h (ns.map D.int) vs
  | _, _, .nil => rdL_nil.mpr rfl
  | _, _, .cons n t r => rdL_cons.mpr ⟨_, _, rfl, rd_int.mpr ⟨t, rfl⟩, RdL.of_ints r⟩
theorem RdL.filterMap_get {ds : List D} {vs : List Value} (r : RdL P h ds vs) : ∀ (l : List Nat), RdL P h (l.filterMap (ds[·]?)) (l.filterMap (vs[·]?))
  | [] => rdL_nil.mpr rfl
  | i :: l => by
    rw [List.filterMap_cons, List.filterMap_cons]
    cases e : ds[i]? with
    | none =>
      have : vs[i]? = none := by
        rw [List.getElem?_eq_none_iff] at e ⊢
        rw [r.length]; exact e
      rw [this]
      exact RdL.filterMap_get r l
    | some d =>
      obtain ⟨v, e', hv⟩ := r.get e
      rw [e']
      exact rdL_cons.mpr ⟨v, _, rfl, hv, RdL.filterMap_get r l⟩
end
/-- The state after is the state before, and more. -/
structure Kp (s s' : Shared) : Prop where
  keep : Sub s.heap s'.heap
  os : s'.os = s.os
  gens : ∀ (g : Nat) (x : GenState), s.gens[g]? = some x → s'.gens[g]? = some x
  bare : AllBare s.gens → AllBare s'.gens
theorem Kp.refl (s : Shared) : Kp s s := ⟨.refl _, rfl, fun _ _ e => e, fun e => e⟩
theorem Kp.trans {s s' s'' : Shared} (x : Kp s s') (y : Kp s' s'') : Kp s s'' :=
  ⟨x.keep.trans y.keep, y.os.trans x.os, fun g z e => y.gens g z (x.gens g z e), fun e => y.bare (x.bare e)⟩
theorem Kp.heap {s : Shared} {h : Heap} {t : Nat} (k : Sub s.heap h) : Kp s { s with heap := h, toks := t } := ⟨k, rfl, fun _ _ e => e, fun e => e⟩
theorem Kp.tok {s : Shared} {t : Nat} : Kp s { s with toks := t } := ⟨.refl _, rfl, fun _ _ e => e, fun e => e⟩
theorem sub_push (h : Heap) (o : Obj) : Sub h (h.push o) := fun _ _ e => Heap.get?_push_of_some _ e
/-- Room around a call: n more calls may stand upon one another. -/
structure OkA (n : Nat) (A : Around) : Prop where
  handled : A.handled = none
  depth : A.depth + n ≤ 900
  units : A.units + 100 * n + 100 ≤ 9000
  guards : A.guards = some []
theorem OkA.deeper {n : Nat} {A : Around} (o : OkA (n + 1) A) (env : Env) : OkA n (A.deeper env) :=
  ⟨o.handled, by have := o.depth; simp only [Around.deeper]; lia, by have := o.units; simp only [Around.deeper_units]; lia, o.guards⟩
theorem OkA.room {n : Nat} {A : Around} (o : OkA n A) : A.depth < recursionLimit := by have := o.depth; unfold recursionLimit; lia
theorem OkA.cl {n : Nat} {A : Around} (o : OkA n A) {k : Nat} (hk : k ≤ 900) : A.units + k < cLine := by have := o.units; unfold cLine; lia
/-- What meets P, or is new since s. -/
def Nw (P : Addr → Prop) (s : Shared) (b : Addr) : Prop := P b ∨ s.heap.get? b = none
theorem none_of_kp {s s' : Shared} (k : Kp s s') {b : Addr} (e : s'.heap.get? b = none) : s.heap.get? b = none := by
  cases q : s.heap.get? b with
  | none => rfl
  | some o => rw [k.keep b o q] at e; cases e
theorem Nw.kp {P : Addr → Prop} {s s' : Shared} (k : Kp s s') {b : Addr} (x : Nw P s' b) : Nw P s b := x.elim .inl fun e => .inr (none_of_kp k e)
theorem Nw.nw {P : Addr → Prop} {s s' : Shared} (k : Kp s s') {b : Addr} (x : Nw (Nw P s) s' b) : Nw P s b := x.elim id fun e => .inr (none_of_kp k e)
theorem get_size (h : Heap) : h.get? h.objs.size = none := by
  cases q : h.get? h.objs.size with
  | none => rfl
  | some o => exact absurd (Heap.lt_size q) (Nat.lt_irrefl _)
section
variable (prog : Program) (w : World)
/-- The tree gives back a value that reads d, at addresses that meet P or are new; nothing old is changed. -/
def Rt (A : Around) (P : Addr → Prop) (t : Sem Value) (d : D) (s : Shared) : Prop :=
  ∀ (Q : Value → Shared → Prop) (E : Value → Shared → Prop), (∀ v s', Kp s s' → Rd (Nw P s) s'.heap d v → Q v s') → wpAny (model prog w) A t Q E s
/-- The expression gives d wherever what is known (h) is known. -/
def Ev (A : Around) (env : Env) (P : Addr → Prop) (h : Heap) (e : Expr) (d : D) : Prop := ∀ s, Sub h s.heap → Rt prog w A P (eval e env) d s
def Tr (A : Around) (env : Env) (h : Heap) (e : Expr) (b : Bool) : Prop :=
  ∀ s, Sub h s.heap → ∀ (Q : Bool → Shared → Prop) (E : Value → Shared → Prop), (∀ s', Kp s s' → Q b s') → wpAny (model prog w) A (isTrue e env (eval e env)) Q E s
def Op1 (A : Around) (f : Value → Sem Value) (d1 d : D) : Prop := ∀ P s v1, Rd P s.heap d1 v1 → Rt prog w A P (f v1) d s
def Op2 (A : Around) (f : Value → Value → Sem Value) (d1 d2 d : D) : Prop := ∀ P s v1 v2, Rd P s.heap d1 v1 → Rd P s.heap d2 v2 → Rt prog w A P (f v1 v2) d s
/-- A call of f with arguments that read ds gives d, where what is known (h) is known. -/
def Ct (A : Around) (h : Heap) (f : Value) (ds : List D) (d : D) : Prop := ∀ P s vs, Sub h s.heap → RdL P s.heap ds vs → Rt prog w A P (call f vs) d s
end
section
variable {prog : Program} {w : World} {A : Around} {env : Env} {P : Addr → Prop} {h : Heap}
theorem ev_int (i : Int) (k : Nat) (pos : Pos) : Ev prog w A env P h (.Constant (.int i) k pos) (.int i) := fun s _ _ _ hQ =>
  wpAny_Constant_int (hQ _ _ Kp.tok (rd_int.mpr ⟨_, rfl⟩))
theorem ev_str (x : Str) (k : Nat) (pos : Pos) : Ev prog w A env P h (.Constant (.str x) k pos) (.str x) := fun s _ _ _ hQ => by
  rw [eval_Constant]
  exact wpAny_mkText (hQ _ _ Kp.tok (rd_str.mpr ⟨_, rfl⟩))
theorem ev_bytes (x : List UInt8) (k : Nat) (pos : Pos) : Ev prog w A env P h (.Constant (.bytes x) k pos) (.bytes x) := fun s _ _ _ hQ => by
  rw [eval_Constant]
  exact wpAny_mkTextBytes (hQ _ _ Kp.tok (rd_bytes.mpr ⟨_, rfl⟩))
theorem ev_bool (b : Bool) (k : Nat) (pos : Pos) : Ev prog w A env P h (.Constant (.bool b) k pos) (.bool b) := fun s _ _ _ hQ => by
  rw [eval_Constant]
  exact wpAny_pure (hQ _ _ (Kp.refl _) (rd_bool.mpr rfl))
theorem ev_none (k : Nat) (pos : Pos) : Ev prog w A env P h (.Constant .none k pos) .none := fun s _ _ _ hQ => by
  rw [eval_Constant]
  exact wpAny_pure (hQ _ _ (Kp.refl _) (rd_none.mpr rfl))
/-- Two parts, one behind the other, and what is done with them. -/
theorem two_go {t1 : Sem Value} {t2 : Value → Sem Value} {f : Value → Value → Sem Value} {d1 d2 d : D} {s : Shared} (hs : Sub h s.heap) (h1 : ∀ s, Sub h s.heap → Rt prog w A P t1 d1 s) (h2 : ∀ v s, Sub h s.heap → Rt prog w A P (t2 v) d2 s) (h3 : ∀ P s v1 v2, Rd P s.heap d1 v1 → Rd P s.heap d2 v2 → Rt prog w A P (f v1 v2) d s)
    (Q E : Value → Shared → Prop) (hQ : ∀ v s', Kp s s' → Rd (Nw P s) s'.heap d v → Q v s') :
    wpAny (model prog w) A t1 (fun v1 s1 => wpAny (model prog w) A (t2 v1) (fun v2 s2 => wpAny (model prog w) A (f v1 v2) Q E s2) E s1) E s :=
  h1 s hs _ _ fun v1 s1 k1 r1 => h2 v1 s1 (hs.trans k1.keep) _ _ fun v2 s2 k2 r2 =>
    h3 (Nw P s) s2 v1 v2 (r1.sub k2.keep) (r2.mono fun _ e => e.kp k1) _ _ fun v s' k q => hQ v s' (k1.trans (k2.trans k)) (q.mono fun _ e => e.nw (k1.trans k2))
theorem ev_bin {l r : Expr} {op : Operator} {pos : Pos} {d1 d2 d : D} (h1 : Ev prog w A env P h l d1) (h2 : Ev prog w A env P h r d2) (h3 : Op2 prog w A (binaryOp op) d1 d2 d) :
    Ev prog w A env P h (.BinOp l op r pos) d := fun s hs Q E hQ => wpAny_BinOp (two_go (t2 := fun _ => eval r env) hs h1 (fun _ => h2) h3 Q E hQ)
theorem ev_cmp {l r : Expr} {op : CmpOp} {pos : Pos} {d1 d2 d : D} (h1 : Ev prog w A env P h l d1) (h2 : Ev prog w A env P h r d2) (h3 : Op2 prog w A (compareOp op) d1 d2 d)
    (hm : behindInMarks op r = false := by with_unfolding_all rfl) : Ev prog w A env P h (.Compare l [op] [r] pos) d := fun s hs Q E hQ =>
  wpAny_Compare1 (two_go (t2 := fun _ => eval r env) hs h1 (fun _ => h2) h3 Q E hQ) hm
theorem tr_cmp {l r : Expr} {op : CmpOp} {pos : Pos} {d1 d2 : D} {b : Bool} (h1 : Ev prog w A env All h l d1) (h2 : Ev prog w A env All h r d2) (h3 : Op2 prog w A (compareOp op) d1 d2 (.bool b))
    (hm : behindInMarks op r = false := by with_unfolding_all rfl) : Tr prog w A env h (.Compare l [op] [r] pos) b := fun s hs _ _ hQ =>
  wpAny_isTrue_Compare1 (two_go (P := All) (t2 := fun _ => eval r env) hs h1 (fun _ => h2) h3 _ _ fun v s' k q => by
      rw [rd_bool.mp q]
      exact wpAny_truthy_bool (hQ s' k)) hm
theorem tr_not {x : Expr} {pos : Pos} {b : Bool} (h1 : Tr prog w A env h x b) : Tr prog w A env h (.UnaryOp .Not x pos) (!b) := fun s hs Q E hQ => by
  show wpAny _ _ (do return !(← isTrue x env (eval x env))) Q E s
  exact wpAny_bind (h1 s hs _ _ fun s' k => wpAny_pure (hQ s' k))
end
end Mine
end
noncomputable section
open PySem PySem.W PyProof.Rows
set_option Elab.async false
set_option autoImplicit false
set_option linter.unusedVariables false
set_option linter.unusedSimpArgs false
namespace Mine
def Looks (env : Env) (h : Heap) (x : Str) (v : Value) : Prop :=
  env.scope.kind = .function ∧ (x == ("__debug__" : Str)) = false ∧
  ((env.kindOf x = some .local ∧ ∃ m, h.Ns env.locals m ∧ m x = some v) ∨
   (env.kindOf x = some .cell ∧ ∃ c, env.cells.lookup x = some c ∧ h.IsCell c (some v)) ∨
   (env.kindOf x = some .free ∧ (x == ("__classdict__" : Str)) = false ∧ ∃ c, env.cells.lookup x = some c ∧ h.IsCell c (some v)) ∨
   (env.kindOf x = some .globalImplicit ∧ ∃ mg, h.Ns env.globals mg ∧ mg x = some v) ∨
   (env.kindOf x = some .globalImplicit ∧ ∃ mg mb, h.Ns env.globals mg ∧ mg x = none ∧ h.Ns env.builtins mb ∧ mb x = some v))
def noStar : Expr → Bool
  | .Starred .. => false
  | _ => true
theorem star_cons {e : Expr} {es : List Expr} {env : Env} (h : noStar e = true) : starEach (e :: es) env = (false, eval e env) :: starEach es env := by
  cases e <;> first | rfl | (cases h)
theorem star_one {e : Expr} {env : Env} (h : noStar e = true) : starEach [e] env = [(false, eval e env)] := star_cons h
theorem backTo_one {e : Expr} {env : Env} {pos : Pos} (h : noStar e = true) : backTo pos (starEach [e] env) = [(false, eval e env)] := by rw [star_one h]; rfl
theorem few_one {e : Expr} {env : Env} {pos : Pos} (h : noStar e = true) : ((backTo pos (starEach [e] env)).all (fun x => !x.1) && (backToKw pos (keywordEach [] env)).all (fun x => x.1.isSome)
      && decide (([e] : List Expr).length + ([] : List Keyword).length + (if ([] : List Keyword).isEmpty then 0 else 1) < 30)) = true := by rw [backTo_one h]; rfl
theorem Looks.sub {env : Env} {h h' : Heap} {x : Str} {v : Value} (k : Sub h h') (l : Looks env h x v) : Looks env h' x v := by
  obtain ⟨h1, h2, l⟩ := l
  refine ⟨h1, h2, ?_⟩
  rcases l with ⟨a, m, n, e⟩ | ⟨a, c, n, e⟩ | ⟨a, b, c, n, e⟩ | ⟨a, mg, n, e⟩ | ⟨a, mg, mb, n, e, n2, e2⟩
  · exact .inl ⟨a, m, n.keeps k, e⟩
  · exact .inr (.inl ⟨a, c, n, e.keeps k⟩)
  · exact .inr (.inr (.inl ⟨a, b, c, n, e.keeps k⟩))
  · exact .inr (.inr (.inr (.inl ⟨a, mg, n.keeps k, e⟩)))
  · exact .inr (.inr (.inr (.inr ⟨a, mg, mb, n.keeps k, e, n2.keeps k, e2⟩)))
section
variable {prog : Program} {w : World} {A : Around} {env : Env} {P : Addr → Prop} {h : Heap}
theorem looks_load {M : Model} {E : Value → Shared → Prop} {x : Str} {v : Value} {s : Shared} {Q : Value → Shared → Prop} (l : Looks env h x v) (hs : Sub h s.heap) (hQ : Q v s) : wpAny M A (loadName env x) Q E s := by
  obtain ⟨h1, h2, l⟩ := l.sub hs
  rcases l with ⟨a, m, n, e⟩ | ⟨a, c, n, e⟩ | ⟨a, b, c, n, e⟩ | ⟨a, mg, n, e⟩ | ⟨a, mg, mb, n, e, n2, e2⟩
  · exact wpAny_loadName_local h1 a n e hQ
  · exact wpAny_loadName_cell h1 a n e hQ
  · exact wpAny_loadName_free h1 a n e hQ b
  · rw [loadName_read h1 a]; exact Calls.loadGlobal_global n e hQ
  · rw [loadName_read h1 a]; exact Calls.loadGlobal_builtin n e n2 e2 hQ
theorem looks_eval {M : Model} {E : Value → Shared → Prop} {x : Str} {pos : Pos} {v : Value} {s : Shared} {Q : Value → Shared → Prop} (l : Looks env h x v) (hs : Sub h s.heap) (hQ : Q v s) : wpAny M A (eval (.Name x pos) env) Q E s :=
  wpAny_Name (looks_load l hs hQ) l.2.1
theorem ev_name {x : Str} {pos : Pos} {v : Value} {d : D} (l : Looks env h x v) (r : Rd P h d v) : Ev prog w A env P h (.Name x pos) d := fun s hs _ _ hQ =>
  looks_eval l hs (hQ v s (Kp.refl _) ((r.sub hs).mono fun _ e => .inl e))
variable (prog w A env P h) in
inductive EvL : List Expr → List D → Prop
  | nil : EvL [] []
  | cons {e : Expr} {es : List Expr} {d : D} {ds : List D} : Ev prog w A env P h e d → EvL es ds → starEach (e :: es) env = (false, eval e env) :: starEach es env → EvL (e :: es) (d :: ds)
theorem EvL.spliced {es : List Expr} {ds : List D} (x : EvL prog w A env P h es ds) {pos : Pos} : ∀ (s : Shared), Sub h s.heap → ∀ (Q : List Value → Shared → Prop) (E : Value → Shared → Prop),
    (∀ vs s', Kp s s' → RdL (Nw P s) s'.heap ds vs → Q vs s') → wpAny (model prog w) A (spliced (backTo pos (starEach es env))) Q E s := by
  induction x with
  | nil => exact fun s _ Q E hQ => wpAny_items_nil (hQ [] s (Kp.refl _) (rdL_nil.mpr rfl))
  | cons a _ e ih =>
    intro s hs Q E hQ
    refine wpAny_items_cons (a s hs _ _ fun v s1 k1 r1 => ih s1 (hs.trans k1.keep) _ _ fun vs s2 k2 r2 => hQ _ _ (k1.trans k2) (rdL_cons'.mpr ⟨r1.sub k2.keep, r2.mono fun _ e => e.kp k1⟩)) e
theorem EvL.plain {es : List Expr} {ds : List D} (x : EvL prog w A env P h es ds) {pos : Pos} : (backTo pos (starEach es env)).any (·.1) = false := by
  induction x with
  | nil => rfl
  | cons a _ e ih =>
    rw [e]
    show (false || (backTo pos (starEach _ env)).any (·.1)) = false
    rw [ih]; rfl
theorem EvL.args {es : List Expr} {ds : List D} (x : EvL prog w A env P h es ds) {f : Value} {pos : Pos} (s : Shared) (hs : Sub h s.heap) (Q : Args → Shared → Prop) (E : Value → Shared → Prop)
    (hQ : ∀ vs s', Kp s s' → RdL (Nw P s) s'.heap ds vs → Q ⟨vs, []⟩ s') : wpAny (model prog w) A (evalArgs f true (backTo pos (starEach es env)) []) Q E s := by
  cases x with
  | nil => exact PySem.evalArgs_none (hQ [] s (Kp.refl _) (rdL_nil.mpr rfl))
  | cons a b e =>
    have z := (EvL.cons a b e).spliced (pos := pos) s hs _ E hQ
    rw [e] at z ⊢
    exact Calls.evalArgs_plain z
theorem ev_call_fn {f : Str} {p pos : Pos} {a : Addr} {o : Obj} {fd : FuncData} {es : List Expr} {ds : List D} {d : D} (l : Looks env h f (.ref a)) (ho : h.get? a = some o) (hf : o.data = .func fd)
    (x : EvL prog w A env P h es ds) (c : Ct prog w A h (.ref a) ds d) : Ev prog w A env P h (.Call (.Name f p) es [] pos) d := fun s hs Q E hQ => by
  refine wpAny_Call_NameR (looks_eval l hs ?_)
  refine Calls.callWith_function (o := o) (fd := fd) (x.args s hs _ _ fun vs s' k r => ⟨⟨k.keep _ _ (hs _ _ ho), hf⟩, ?_⟩)
  exact c _ s' vs (hs.trans k.keep) r _ _ fun v s'' k' r' => hQ v s'' (k.trans k') (r'.mono fun _ e => e.nw k)
theorem ev_call_bi {f : Str} {p pos : Pos} {id : String} {es : List Expr} {ds : List D} {d : D} (l : Looks env h f (.builtin id))
    (x : EvL prog w A env P h es ds) (c : Ct prog w A h (.builtin id) ds d) : Ev prog w A env P h (.Call (.Name f p) es [] pos) d := fun s hs Q E hQ => by
  refine wpAny_Call_NameR (looks_eval l hs ?_)
  refine Calls.callWith_builtin x.plain (x.args s hs _ _ fun vs s' k r => ?_)
  exact c _ s' vs (hs.trans k.keep) r _ _ fun v s'' k' r' => hQ v s'' (k.trans k') (r'.mono fun _ e => e.nw k)
theorem ev_call_ty {f : Str} {p pos : Pos} {T : String} {es : List Expr} {ds : List D} {d : D} (l : Looks env h f (.type T))
    (x : EvL prog w A env P h es ds) (c : Ct prog w A h (.type T) ds d) : Ev prog w A env P h (.Call (.Name f p) es [] pos) d := fun s hs Q E hQ => by
  refine wpAny_Call_NameR (looks_eval l hs ?_)
  refine PySem.callWith_type x.plain (x.args s hs _ _ fun vs s' k r => ?_)
  exact c _ s' vs (hs.trans k.keep) r _ _ fun v s'' k' r' => hQ v s'' (k.trans k') (r'.mono fun _ e => e.nw k)
theorem isList_new (h : Heap) (vs : List Value) (n : Nat) : (h.push { cls := .type "list", data := .seq vs.toArray n }).IsList h.objs.size vs.toArray :=
  ⟨_, Heap.get?_push_size _ rfl, rfl, n, rfl⟩
theorem isTuple_new (h : Heap) (vs : List Value) (n : Nat) : (h.push { cls := .type "tuple", data := .seq vs.toArray n }).IsTuple h.objs.size vs.toArray :=
  ⟨_, Heap.get?_push_size _ rfl, rfl, n, rfl⟩
theorem sizeLine_is : sizeLine = 16777216 := by decide
/-- A new list, pushed. -/
theorem rd_new_list {s : Shared} {ds : List D} {vs : List Value} {n : Nat} (r : RdL P s.heap ds vs) : Rd (Nw P s) (s.heap.push { cls := .type "list", data := .seq vs.toArray n }) (.list ds) (.ref s.heap.objs.size) :=
  rd_list.mpr ⟨_, vs, rfl, .inr (get_size _), isList_new .., (r.sub (sub_push _ _)).mono fun _ e => .inl e⟩
theorem ev_list {es : List Expr} {ds : List D} {pos : Pos} (x : EvL prog w A env P h es ds) (hn : ds.length ≤ 1000 := by first | decide | simp) : Ev prog w A env P h (.List es pos) (.list ds) := fun s hs Q E hQ => by
  refine wpAny_List (x.spliced s hs _ _ fun vs s' k r => ⟨by rw [r.length, sizeLine_is]; lia, hQ _ _ (k.trans (Kp.heap (sub_push _ _))) ((rd_new_list r).mono fun _ e => e.nw k)⟩)
theorem ev_tuple {es : List Expr} {ds : List D} {k : Nat} {pos : Pos} (x : EvL prog w A env P h es ds) (hn : ds.length ≤ 1000 := by first | decide | simp) : Ev prog w A env P h (.Tuple es k pos) (.tuple ds) := fun s hs Q E hQ => by
  refine wpAny_Tuple (x.spliced s hs _ _ fun vs s' k r => ⟨by rw [r.length, sizeLine_is]; lia, hQ _ _ (k.trans (Kp.heap (sub_push _ _))) ?_⟩)
  exact rd_tuple.mpr ⟨_, vs, rfl, .inr (none_of_kp k (get_size _)), isTuple_new .., r.sub (sub_push _ _)⟩
/-- Items by an index: `base[i]`. -/
theorem ev_item {value slice : Expr} {pos : Pos} {d1 d2 d : D} (h1 : Ev prog w A env P h value d1) (h2 : Ev prog w A env P h slice d2)
    (h3 : ∀ (P : Addr → Prop) (s : Shared) (v1 v2 : Value), Rd P s.heap d1 v1 → Rd P s.heap d2 v2 → Rt prog w A P (subscriptTail value slice v1 v2) d s) : Ev prog w A env P h (.Subscript value slice pos) d := fun s hs Q E hQ =>
  Subscript_ (two_go (t2 := fun _ => eval slice env) hs h1 (fun _ => h2) h3 Q E hQ)
theorem item_list_at {value slice : Expr} {xs : List D} {i : Int} {d : D} (h0 : 0 ≤ i) (h63 : i < 2 ^ 63) (hx : xs[i.toNat]? = some d)
    (hs : ∀ v t, subscripted slice false v (.int i t) = operate [v, .int i t] (getItem v (.int i t)) := by intro _ _; with_unfolding_all rfl) (P : Addr → Prop) (s : Shared) (v1 v2 : Value) (r1 : Rd P s.heap (.list xs) v1) (r2 : Rd P s.heap (.int i) v2) :
    Rt prog w A P (subscriptTail value slice v1 v2) d s := fun Q E hQ => by
  obtain ⟨a, vs, rfl, _, l, r⟩ := rd_list.mp r1
  obtain ⟨t, rfl⟩ := rd_int.mp r2
  obtain ⟨v, e, rv⟩ := r.get hx
  exact tail_any l.typeIs slot_list_getitem.lookup (wpAny_getItem_list l h0 h63 (by simpa using e) (hQ v s (Kp.refl _) (rv.mono fun _ e => .inl e))) (hs _ _)
theorem item_list_neg {value slice : Expr} {xs : List D} {i : Int} {d : D} (h0 : i < 0) (h1 : -(xs.length : Int) ≤ i) (h63 : -(2 ^ 63) ≤ i) (hx : xs[(i + xs.length).toNat]? = some d)
    (hs : ∀ v t, subscripted slice false v (.int i t) = operate [v, .int i t] (getItem v (.int i t)) := by intro _ _; with_unfolding_all rfl) (P : Addr → Prop) (s : Shared) (v1 v2 : Value) (r1 : Rd P s.heap (.list xs) v1) (r2 : Rd P s.heap (.int i) v2) :
    Rt prog w A P (subscriptTail value slice v1 v2) d s := fun Q E hQ => by
  obtain ⟨a, vs, rfl, _, l, r⟩ := rd_list.mp r1
  obtain ⟨t, rfl⟩ := rd_int.mp r2
  obtain ⟨v, e, rv⟩ := r.get hx
  have hl : (vs.toArray.size : Int) = xs.length := by simp [r.length]
  exact tail_any l.typeIs slot_list_getitem.lookup (wpAny_getItem_list_neg l h0 (by rw [hl]; exact h1) h63 (by rw [hl]; simpa using e) (hQ v s (Kp.refl _) (rv.mono fun _ e => .inl e))) (hs _ _)
end
end Mine
end
noncomputable section
open PySem PySem.W PyProof.Rows
set_option Elab.async false
set_option autoImplicit false
set_option linter.unusedVariables false
set_option linter.unusedSimpArgs false
namespace Mine
section
variable {prog : Program} {w : World} {A : Around} {env : Env} {h : Heap}
/-! ints -/
theorem op_add (a b : Int) : Op2 prog w A (binaryOp .Add) (.int a) (.int b) (.int (a + b)) := fun P s v1 v2 r1 r2 Q E hQ => by
  obtain ⟨t, rfl⟩ := rd_int.mp r1; obtain ⟨u, rfl⟩ := rd_int.mp r2
  exact PySem.P.add_int (hQ _ _ Kp.tok (rd_int.mpr ⟨_, rfl⟩))
theorem op_sub (a b : Int) : Op2 prog w A (binaryOp .Sub) (.int a) (.int b) (.int (a - b)) := fun P s v1 v2 r1 r2 Q E hQ => by
  obtain ⟨t, rfl⟩ := rd_int.mp r1; obtain ⟨u, rfl⟩ := rd_int.mp r2
  exact PySem.P.sub_int (hQ _ _ Kp.tok (rd_int.mpr ⟨_, rfl⟩))
theorem op_mul (a b : Int) (hm : IntMulOk a b) : Op2 prog w A (binaryOp .Mult) (.int a) (.int b) (.int (a * b)) := fun P s v1 v2 r1 r2 Q E hQ => by
  obtain ⟨t, rfl⟩ := rd_int.mp r1; obtain ⟨u, rfl⟩ := rd_int.mp r2
  exact PySem.P.mul_int (hQ _ _ Kp.tok (rd_int.mpr ⟨_, rfl⟩)) hm
theorem op_mod (a b : Int) (hb : b ≠ 0) : Op2 prog w A (binaryOp .Mod) (.int a) (.int b) (.int (a.fmod b)) := fun P s v1 v2 r1 r2 Q E hQ => by
  obtain ⟨t, rfl⟩ := rd_int.mp r1; obtain ⟨u, rfl⟩ := rd_int.mp r2
  exact mod_int' hb (hQ _ _ Kp.tok (rd_int.mpr ⟨_, rfl⟩))
theorem op_div (a b : Int) (hb : b ≠ 0) (hp : Builtin.divisionGoesByPylong a b = false) : Op2 prog w A (binaryOp .FloorDiv) (.int a) (.int b) (.int (a.fdiv b)) := fun P s v1 v2 r1 r2 Q E hQ => by
  obtain ⟨t, rfl⟩ := rd_int.mp r1; obtain ⟨u, rfl⟩ := rd_int.mp r2
  exact floordiv_int hb (hQ _ _ Kp.tok (rd_int.mpr ⟨_, rfl⟩)) (.inl hp)
theorem op_neg (a : Int) : Op1 prog w A (unaryOp .USub) (.int a) (.int (-a)) := fun P s v1 r1 Q E hQ => by
  obtain ⟨t, rfl⟩ := rd_int.mp r1
  exact PySem.P.neg_int (hQ _ _ Kp.tok (rd_int.mpr ⟨_, rfl⟩))
theorem ev_neg {P : Addr → Prop} {x : Expr} {pos : Pos} {a : Int} (h1 : Ev prog w A env P h x (.int a)) : Ev prog w A env P h (.UnaryOp .USub x pos) (.int (-a)) := fun s hs Q E hQ => by
  show wpAny _ _ (do let v ← eval x env; standAt pos; holding [v] (unaryOp .USub v)) Q E s
  exact wpAny_bind (h1 s hs _ _ fun v s1 k1 r1 => wpAny_bind (wpAny_standAt (wpAny_holding (op_neg a _ s1 v r1 _ _ fun v' s' k r => hQ v' s' (k1.trans k) (r.mono fun _ e => e.nw k1)))))
theorem op_eq (a b : Int) : Op2 prog w A (compareOp .Eq) (.int a) (.int b) (.bool (a == b)) := fun P s v1 v2 r1 r2 Q E hQ => by
  obtain ⟨t, rfl⟩ := rd_int.mp r1; obtain ⟨u, rfl⟩ := rd_int.mp r2
  exact PySem.P.eq_int (hQ _ _ (Kp.refl _) (rd_bool.mpr rfl))
theorem op_ne (a b : Int) : Op2 prog w A (compareOp .NotEq) (.int a) (.int b) (.bool (a != b)) := fun P s v1 v2 r1 r2 Q E hQ => by
  obtain ⟨t, rfl⟩ := rd_int.mp r1; obtain ⟨u, rfl⟩ := rd_int.mp r2
  exact PySem.P.ne_int (hQ _ _ (Kp.refl _) (rd_bool.mpr rfl))
theorem op_lt (a b : Int) : Op2 prog w A (compareOp .Lt) (.int a) (.int b) (.bool (decide (a < b))) := fun P s v1 v2 r1 r2 Q E hQ => by
  obtain ⟨t, rfl⟩ := rd_int.mp r1; obtain ⟨u, rfl⟩ := rd_int.mp r2
  exact PySem.P.lt_int (hQ _ _ (Kp.refl _) (rd_bool.mpr rfl))
theorem op_le (a b : Int) : Op2 prog w A (compareOp .LtE) (.int a) (.int b) (.bool (decide (a ≤ b))) := fun P s v1 v2 r1 r2 Q E hQ => by
  obtain ⟨t, rfl⟩ := rd_int.mp r1; obtain ⟨u, rfl⟩ := rd_int.mp r2
  exact PySem.P.le_int (hQ _ _ (Kp.refl _) (rd_bool.mpr rfl))
theorem op_gt (a b : Int) : Op2 prog w A (compareOp .Gt) (.int a) (.int b) (.bool (decide (a > b))) := fun P s v1 v2 r1 r2 Q E hQ => by
  obtain ⟨t, rfl⟩ := rd_int.mp r1; obtain ⟨u, rfl⟩ := rd_int.mp r2
  exact PySem.P.gt_int (hQ _ _ (Kp.refl _) (rd_bool.mpr rfl))
/-! bytes, texts -/
theorem op_ne_bytes (a b : List UInt8) : Op2 prog w A (compareOp .NotEq) (.bytes a) (.bytes b) (.bool (a != b)) := fun P s v1 v2 r1 r2 Q E hQ => by
  obtain ⟨t, rfl⟩ := rd_bytes.mp r1; obtain ⟨u, rfl⟩ := rd_bytes.mp r2
  exact ne_bytes (hQ _ _ (Kp.refl _) (rd_bool.mpr (by simp)))
/-! what compares as PyData -/
mutual
def D.py : D → PyData
  | .none => .none
  | .bool b => .bool b
  | .int i => .int i
  | .str x => .str x
  | .bytes _ => .none
  | .range _ _ _ => .none
  | .addr _ => .none
  | .list xs => .list (D.pyL xs)
  | .tuple xs => .tuple (D.pyL xs)
def D.pyL : List D → List PyData
  | [] => []
  | d :: ds => d.py :: D.pyL ds
end
mutual
def D.plain : D → Bool
  | .bytes _ => false
  | .range _ _ _ => false
  | .addr _ => false
  | .str x => PyData.strOk x
  | .list xs => D.plainL xs
  | .tuple xs => D.plainL xs
  | _ => true
def D.plainL : List D → Bool
  | [] => true
  | d :: ds => d.plain && D.plainL ds
end
mutual
theorem Rd.reads {P : Addr → Prop} {hh : Heap} : ∀ {d : D} {v : Value}, Rd P hh d v → d.plain = true → ∃ as, Reads hh v d.py as
  | .none, _, r, _ => by rw [rd_none.mp r]; exact ⟨_, .none⟩
  | .bool b, _, r, _ => by rw [rd_bool.mp r]; exact ⟨_, .bool b⟩
  | .int i, _, r, _ => by obtain ⟨t, rfl⟩ := rd_int.mp r; exact ⟨_, .int i t⟩
  | .str x, _, r, _ => by obtain ⟨t, rfl⟩ := rd_str.mp r; exact ⟨_, .str x t⟩
  | .bytes _, _, _, p => by cases p
  | .range _ _ _, _, _, p => by cases p
  | .addr _, _, _, p => by cases p
  | .list xs, v, r, p => by
    obtain ⟨a, vs, rfl, _, ⟨o, h1, h2, n, h3⟩, h4⟩ := rd_list.mp r
    obtain ⟨as, q⟩ := RdL.reads h4 p
    exact ⟨_, .list h1 h2 h3 (by simpa using q)⟩
  | .tuple xs, v, r, p => by
    obtain ⟨a, vs, rfl, _, ⟨o, h1, h2, n, h3⟩, h4⟩ := rd_tuple.mp r
    obtain ⟨as, q⟩ := RdL.reads h4 p
    exact ⟨_, .tuple h1 h2 h3 (by simpa using q)⟩
theorem RdL.reads {P : Addr → Prop} {hh : Heap} : ∀ {ds : List D} {vs : List Value}, RdL P hh ds vs → D.plainL ds = true → ∃ as, ReadsAll hh vs (D.pyL ds) as
  | [], _, r, _ => by rw [rdL_nil.mp r]; exact ⟨_, .nil⟩
  | d :: ds, vs, r, p => by
    obtain ⟨v, q, rfl, h1, h2⟩ := rdL_cons.mp r
    have p' : d.plain = true ∧ D.plainL ds = true := by simpa [D.plainL] using p
    obtain ⟨as, ra⟩ := Rd.reads h1 p'.1
    obtain ⟨bs, rb⟩ := RdL.reads h2 p'.2
    exact ⟨_, .cons ra rb⟩
end
mutual
theorem D.plain_lay : ∀ {d : D}, d.plain = true → d.py.canLay0 = true
  | .none, _ => rfl
  | .bool _, _ => rfl
  | .int _, _ => rfl
  | .str x, p => by simpa [D.py, PyData.canLay0, D.plain] using p
  | .bytes _, p => by cases p
  | .range _ _ _, p => by cases p
  | .addr _, p => by cases p
  | .list xs, p => by simpa [D.py, PyData.canLay0] using D.plain_layL (ds := xs) p
  | .tuple xs, p => by simpa [D.py, PyData.canLay0] using D.plain_layL (ds := xs) p
theorem D.plain_layL : ∀ {ds : List D}, D.plainL ds = true → PyData.canLayAll0 (D.pyL ds) = true
  | [], _ => rfl
  | d :: ds, p => by
    have p' : d.plain = true ∧ D.plainL ds = true := by simpa [D.plainL] using p
    simp [D.pyL, PyData.canLayAll0, D.plain_lay p'.1, D.plain_layL p'.2]
end
theorem pyL_map_int (ns : List Int) : D.pyL (ns.map D.int) = ns.map PyData.int := by
  induction ns with
  | nil => rfl
  | cons n ns ih => simp [D.pyL, D.py, ih]
theorem plainL_map_int (ns : List Int) : D.plainL (ns.map D.int) = true := by
  induction ns with
  | nil => rfl
  | cons n ns ih => simp [D.plainL, D.plain, ih]
theorem eqvAll_ints : ∀ (ns ms : List Int), PyData.eqvAll (ns.map PyData.int) (ms.map PyData.int) = (ns == ms)
  | [], [] => rfl
  | [], _ :: _ => rfl
  | _ :: _, [] => rfl
  | n :: ns, m :: ms => by simp [PyData.eqvAll, PyData.eqv, eqvAll_ints ns ms]
theorem op_eqD {d1 d2 : D} {n : Nat} (oA : OkA n A) (p1 : d1.plain = true) (p2 : d2.plain = true) (hd : d1.py.depth ≤ 64) : Op2 prog w A (compareOp .Eq) d1 d2 (.bool (PyData.eqv d1.py d2.py)) := fun P s v1 v2 r1 r2 Q E hQ => by
  obtain ⟨as, q1⟩ := r1.reads p1; obtain ⟨bs, q2⟩ := r2.reads p2
  exact SeqAt.compareEq_reads q1 q2 (D.plain_lay p1) (D.plain_lay p2) (by have := oA.cl (k := 64) (by lia); lia) (hQ _ _ (Kp.refl _) (rd_bool.mpr rfl))
theorem op_neD {d1 d2 : D} {n : Nat} (oA : OkA n A) (p1 : d1.plain = true) (p2 : d2.plain = true) (hd : d1.py.depth ≤ 64) : Op2 prog w A (compareOp .NotEq) d1 d2 (.bool (!PyData.eqv d1.py d2.py)) := fun P s v1 v2 r1 r2 Q E hQ => by
  obtain ⟨as, q1⟩ := r1.reads p1; obtain ⟨bs, q2⟩ := r2.reads p2
  exact SeqAt.compareNe_reads q1 q2 (D.plain_lay p1) (D.plain_lay p2) (by have := oA.cl (k := 64) (by lia); lia) (hQ _ _ (Kp.refl _) (rd_bool.mpr rfl))
theorem depth_ints (ns : List Int) : (D.list (ns.map D.int)).py.depth ≤ 64 := by
  have : ∀ ms : List Int, PyData.depthAll (ms.map PyData.int) ≤ 1 := by
    intro ms
    induction ms with
    | nil => simp [PyData.depthAll]
    | cons m ms ih => simp [PyData.depthAll, PyData.depth]; lia
  simp only [D.py, pyL_map_int, PyData.depth]
  have := this ns
  lia
theorem op_eq_ints {n : Nat} (oA : OkA n A) (ns ms : List Int) : Op2 prog w A (compareOp .Eq) (.list (ns.map D.int)) (.list (ms.map D.int)) (.bool (ns == ms)) := by
  have := op_eqD (prog := prog) (w := w) oA (d1 := .list (ns.map D.int)) (d2 := .list (ms.map D.int)) (plainL_map_int ns) (plainL_map_int ms) (depth_ints ns)
  simpa [D.py, pyL_map_int, PyData.eqv, eqvAll_ints] using this
theorem op_ne_ints {n : Nat} (oA : OkA n A) (ns ms : List Int) : Op2 prog w A (compareOp .NotEq) (.list (ns.map D.int)) (.list (ms.map D.int)) (.bool (ns != ms)) := by
  have := op_neD (prog := prog) (w := w) oA (d1 := .list (ns.map D.int)) (d2 := .list (ms.map D.int)) (plainL_map_int ns) (plainL_map_int ms) (depth_ints ns)
  simpa [D.py, pyL_map_int, PyData.eqv, eqvAll_ints, bne] using this
end
end Mine
end
noncomputable section
open PySem PySem.W PyProof.Rows
set_option Elab.async false
set_option autoImplicit false
set_option linter.unusedVariables false
set_option linter.unusedSimpArgs false
namespace Mine
/-- What a slice takes out of a list. -/
def pick {α : Type} (xs : List α) (lo hi st : Option Int) : List α :=
  (sliceRange (sliceBounds lo hi st xs.length).1 (sliceBounds lo hi st xs.length).2.1 (sliceBounds lo hi st xs.length).2.2).filterMap (xs[·]?)
theorem pick_plain {α : Type} (xs : List α) (lo hi : Option Int) :
    pick xs lo hi none = (xs.drop (lo.elim 0 (clipAt xs.length))).take (hi.elim xs.length (clipAt xs.length) - lo.elim 0 (clipAt xs.length)) := by
  unfold pick
  rw [sliceBounds_plain]
  have := pick_run xs.toArray (lo.elim 0 (clipAt xs.length)) (hi.elim xs.length (clipAt xs.length) - lo.elim 0 (clipAt xs.length))
  simp only [sliceRange_one]
  simpa using this
theorem clip_nonneg (n : Nat) (i : Int) (h : 0 ≤ i) : clipAt n i = min i.toNat n := by
  obtain ⟨k, rfl⟩ := Int.eq_ofNat_of_zero_le h
  rw [clipAt_nat]; simp
theorem pick_run' {α : Type} (xs : List α) (a b : Int) (ha : 0 ≤ a) (hb : 0 ≤ b) : pick xs (some a) (some b) none = (xs.drop a.toNat).take (b.toNat - a.toNat) := by
  rw [pick_plain]
  simp only [Option.elim_some, clip_nonneg _ _ ha, clip_nonneg _ _ hb]
  by_cases h1 : a.toNat ≤ xs.length
  · rw [Nat.min_eq_left h1]
    by_cases h2 : b.toNat ≤ xs.length
    · rw [Nat.min_eq_left h2]
    · rw [Nat.min_eq_right (by lia), List.take_of_length_le (by simp), List.take_of_length_le (by simp; lia)]
  · have e1 : min a.toNat xs.length = xs.length := Nat.min_eq_right (by lia)
    have e2 : xs.drop a.toNat = [] := List.drop_of_length_le (by lia)
    rw [e1, e2]
    simp
theorem pick_from {α : Type} (xs : List α) (a : Int) (ha : 0 ≤ a) : pick xs (some a) none none = xs.drop a.toNat := by
  rw [pick_plain]
  simp only [Option.elim_some, Option.elim_none, clip_nonneg _ _ ha]
  by_cases h1 : a.toNat ≤ xs.length
  · rw [Nat.min_eq_left h1, List.take_of_length_le (by simp)]
  · have e1 : min a.toNat xs.length = xs.length := Nat.min_eq_right (by lia)
    have e2 : xs.drop a.toNat = [] := List.drop_of_length_le (by lia)
    rw [e1, e2]
    simp
theorem pick_upto {α : Type} (xs : List α) (b : Int) (hb : 0 ≤ b) : pick xs none (some b) none = xs.take b.toNat := by
  rw [pick_plain]
  simp only [Option.elim_some, Option.elim_none, clip_nonneg _ _ hb]
  rw [List.drop_zero, Nat.sub_zero]
  by_cases h2 : b.toNat ≤ xs.length
  · rw [Nat.min_eq_left h2]
  · rw [Nat.min_eq_right (by lia), List.take_of_length_le (by simp), List.take_of_length_le (by lia)]
theorem pick_rev {α : Type} (xs : List α) : pick xs none none (some (-1)) = xs.reverse := by
  unfold pick
  rw [krv_bounds]
  show (sliceRange ((xs.length : Int) - 1) (-1) (-1)).filterMap (xs[·]?) = _
  rw [krv_sliceRange, krv_range, List.filterMap_reverse]
  have := krv_all xs.toArray
  simp only [List.size_toArray, List.getElem?_toArray] at this
  rw [this]
theorem pick_map {α β : Type} (f : α → β) (xs : List α) (lo hi st : Option Int) : pick (xs.map f) lo hi st = (pick xs lo hi st).map f := by
  unfold pick
  rw [List.length_map, List.map_filterMap]
  congr 1
  funext i
  simp
theorem slicePick_list (vs : List Value) (lo hi st : Option Int) : slicePick vs.toArray lo hi st = (pick vs lo hi st).toArray := by
  unfold slicePick pick
  simp
theorem RdL.pick {P : Addr → Prop} {h : Heap} {ds : List D} {vs : List Value} (r : RdL P h ds vs) (lo hi st : Option Int) : RdL P h (Mine.pick ds lo hi st) (Mine.pick vs lo hi st) := by
  unfold Mine.pick
  rw [r.length]
  exact r.filterMap_get _
section
variable {prog : Program} {w : World} {A : Around} {env : Env} {P : Addr → Prop} {h : Heap}
variable (prog w A env P h) in
inductive EvP : Option Expr → Option Int → Prop
  | none : EvP none none
  | some {e : Expr} {i : Int} : Ev prog w A env P h e (.int i) → EvP (some e) (some i)
theorem EvP.go {e : Option Expr} {i : Option Int} (x : EvP prog w A env P h e i) (s : Shared) (hs : Sub h s.heap) (Q : Value → Shared → Prop) (E : Value → Shared → Prop)
    (hQ : ∀ v s', Kp s s' → IsPart v i → Q v s') : wpAny (model prog w) A (evalPart e env) Q E s := by
  cases x with
  | none => rw [evalPart_none]; exact wpAny_pure (hQ _ _ (Kp.refl _) .none)
  | some x =>
    rw [evalPart_some]
    refine x s hs _ _ fun v s' k r => ?_
    obtain ⟨t, rfl⟩ := rd_int.mp r
    exact hQ _ _ k (.int _ t)
theorem ev_slice {value : Expr} {lo hi st : Option Expr} {p pos : Pos} {d1 d : D} {a b c : Option Int} (h1 : Ev prog w A env P h value d1)
    (p1 : EvP prog w A env P h lo a) (p2 : EvP prog w A env P h hi b) (p3 : EvP prog w A env P h st c)
    (h3 : ∀ (P : Addr → Prop) (s : Shared) (v : Value) (i : Addr) (l u z : Value), Rd P s.heap d1 v → s.heap.IsSliceOf i l u z → IsPart l a → IsPart u b → IsPart z c → Rt prog w A P (subscriptTail value (.Slice lo hi st p) v (.ref i)) d s) :
    Ev prog w A env P h (.Subscript value (.Slice lo hi st p) pos) d := fun s hs Q E hQ =>
  Subscript_ (h1 s hs _ _ fun v1 s1 k1 r1 => wpAny_Slice (p1.go s1 (hs.trans k1.keep) _ _ fun l s2 k2 q2 => p2.go s2 (hs.trans (k1.trans k2).keep) _ _ fun u s3 k3 q3 =>
    p3.go s3 (hs.trans (k1.trans (k2.trans k3)).keep) _ _ fun z s4 k4 q4 =>
      h3 (Nw P s) _ v1 _ l u z (r1.sub ((k2.trans (k3.trans k4)).keep.trans (sub_push _ _))) (Heap.IsSliceOf.new _ _ _ _) q2 q3 q4 _ _ fun v s' k q =>
        have kk := k1.trans (k2.trans (k3.trans (k4.trans (Kp.heap (t := s4.toks) (sub_push _ _)))))
        hQ v s' (kk.trans k) (q.mono fun _ e => e.nw kk)))
theorem sub_slice_none (lo hi : Option Expr) (p : Pos) (o i : Value) : subscripted (.Slice lo hi none p) false o i = operate [i, o] (getItem o i) := rfl
theorem sub_slice_some (lo hi : Option Expr) (e : Expr) (p : Pos) (o i : Value) : subscripted (.Slice lo hi (some e) p) false o i = operate [o, i] (getItem o i) := rfl
theorem ev_slice_list {value : Expr} {lo hi st : Option Expr} {p pos : Pos} {xs : List D} {a b c : Option Int} (h1 : Ev prog w A env P h value (.list xs))
    (p1 : EvP prog w A env P h lo a) (p2 : EvP prog w A env P h hi b) (p3 : EvP prog w A env P h st c) (h0 : c ≠ some 0) (hn : xs.length ≤ 1000) :
    Ev prog w A env P h (.Subscript value (.Slice lo hi st p) pos) (.list (pick xs a b c)) := by
  refine ev_slice h1 p1 p2 p3 fun P s v i l u z r hi q1 q2 q3 Q E hQ => ?_
  obtain ⟨ad, vs, rfl, _, hl, r⟩ := rd_list.mp r
  have go : wpAny (model prog w) A (getItem (.ref ad) (.ref i)) Q E s := by
    refine wpAny_getItem_list_slice hl hi q1 q2 q3 h0 (hQ _ _ (Kp.heap (sub_push _ _)) ?_) (by rw [sizeLine_is, List.size_toArray, r.length]; lia)
    rw [slicePick_list]
    exact rd_new_list (r.pick a b c)
  cases st with
  | none => exact tail_any hl.typeIs slot_list_getitem.lookup go (sub_slice_none _ _ _ _ _)
  | some e => exact tail_any hl.typeIs slot_list_getitem.lookup go (sub_slice_some _ _ _ _ _ _)
theorem item_bytes {value slice : Expr} {x : List UInt8} {i : Int} (hn : x.length ≤ 1000) (h0 : 0 ≤ i) (h1 : i < (x.length : Int))
    (hs : ∀ v t, subscripted slice false v (.int i t) = operate [v, .int i t] (getItem v (.int i t)) := by intro _ _; with_unfolding_all rfl) (P : Addr → Prop) (s : Shared) (v1 v2 : Value) (r1 : Rd P s.heap (.bytes x) v1) (r2 : Rd P s.heap (.int i) v2) :
    Rt prog w A P (subscriptTail value slice v1 v2) (.int ((x.getD i.toNat 0).toNat : Int)) s := fun Q E hQ => by
  obtain ⟨t, rfl⟩ := rd_bytes.mp r1
  obtain ⟨u, rfl⟩ := rd_int.mp r2
  exact tail_any (typeIs_bytes _ _ _) FB.slot_bytes_getitem.lookup (getItem_bytes (by lia) h0 h1 (hQ _ _ Kp.tok (rd_int.mpr ⟨_, rfl⟩))) (hs _ _)
theorem ev_slice_bytes {value : Expr} {lo hi : Option Expr} {p pos : Pos} {x : List UInt8} {a b : Option Int} (h1 : Ev prog w A env P h value (.bytes x))
    (p1 : EvP prog w A env P h lo a) (p2 : EvP prog w A env P h hi b) (hn : x.length ≤ 1000) :
    Ev prog w A env P h (.Subscript value (.Slice lo hi none p) pos) (.bytes (pick x a b none)) := by
  refine ev_slice h1 p1 p2 .none fun P s v i l u z r hi q1 q2 q3 Q E hQ => ?_
  obtain ⟨t, rfl⟩ := rd_bytes.mp r
  cases q3
  have e : KBy.picked x.toArray a b = (pick x a b none).toArray := by
    rw [KBc.picked_eq, pick_plain]; simp
  have hle : (KBy.picked x.toArray a b).size ≤ sizeLine := Nat.le_trans (KBc.size_picked_le _ _ _) (by rw [sizeLine_is, List.size_toArray]; lia)
  refine tail_any (typeIs_bytes _ _ _) FB.slot_bytes_getitem.lookup ?_ (sub_slice_none _ _ _ _ _)
  refine getItem_meets (typeIs_bytes _ _ _) (by decide) FB.slot_bytes_getitem FB.entry_bytes_getitem (FB.args_bytes_getitem_2 _ _) (KBc.meets_slice2 x.toArray t i q1 q2) ⟨hi, hle, fun t' k => ?_⟩
  rw [e]
  exact hQ _ _ Kp.tok (rd_bytes.mpr ⟨_, rfl⟩)
/-! lists -/
theorem op_cat (xs ys : List D) (hn : xs.length + ys.length ≤ 1000) : Op2 prog w A (binaryOp .Add) (.list xs) (.list ys) (.list (xs ++ ys)) := fun P s v1 v2 r1 r2 Q E hQ => by
  obtain ⟨l, vs, rfl, _, hl, q1⟩ := rd_list.mp r1
  obtain ⟨b, us, rfl, _, hb, q2⟩ := rd_list.mp r2
  obtain ⟨⟨cls, dd, data, sl⟩, ho, hc, n, hd⟩ := id hl
  obtain ⟨⟨cls2, dd2, data2, sl2⟩, ho2, hc2, n2, hd2⟩ := id hb
  simp only at hc hd hc2 hd2
  subst hc hd hc2 hd2
  have e : vs.toArray ++ us.toArray = (vs ++ us).toArray := by simp
  refine concat_meets ⟨_, ho, rfl⟩ ⟨_, ho2, rfl⟩ noFill_list_add seq_list_add PySem.F.slot_list_add PySem.F.entry_list_add (PySem.F.args_list_add_2 _ _) (list_addW l b vs.toArray us.toArray n n2 dd dd2 sl sl2 (by rw [sizeLine_is, List.size_toArray, List.size_toArray, q1.length, q2.length]; lia)) ⟨ho, ho2, ?_⟩
  rw [e]
  exact hQ _ _ (Kp.heap (sub_push _ _)) (rd_new_list (q1.append q2))
theorem RdL.replicate {hh : Heap} {xs : List D} {vs : List Value} (r : RdL P hh xs vs) : ∀ n, RdL P hh (List.replicate n xs).flatten (List.replicate n vs).flatten
  | 0 => rdL_nil.mpr rfl
  | n + 1 => by
    rw [List.replicate_succ, List.replicate_succ, List.flatten_cons, List.flatten_cons]
    exact r.append (RdL.replicate r n)
theorem op_rep (xs : List D) (x : Int) (hlo : -1000 ≤ x) (hhi : x ≤ 1000) (hn : xs.length * x.toNat ≤ 1000) : Op2 prog w A (binaryOp .Mult) (.list xs) (.int x) (.list (List.replicate x.toNat xs).flatten) := fun P s v1 v2 r1 r2 Q E hQ => by
  obtain ⟨l, vs, rfl, _, hl, q1⟩ := rd_list.mp r1
  obtain ⟨u, rfl⟩ := rd_int.mp r2
  obtain ⟨⟨cls, d, data, sl⟩, ho, hcl, k, hd⟩ := id hl
  simp only at hcl hd
  subst hcl hd
  have hsz' : vs.toArray.size * x.toNat ≤ 1000 := by rw [List.size_toArray, q1.length]; exact hn
  have hsz'' : vs.length * x.toNat ≤ 1000 := by rw [q1.length]; exact hn
  refine wpAny_binaryOp_repeat_ref (T := "list") (U := "int") (by decide) ⟨_, ho, rfl⟩ (fun s' => typeIs_int s' x u) noFill_list_mul F.fills_int_mul F.slot_int_rmul repeat_list F.slot_int_index.lookup
    (call_meets F.slot_int_rmul (typeIs_int s x u) F.entry_int_rmul (F.args_int_rmul_2 _ _) (lm_int_rmul_list_any x u l vs.toArray k d sl)
      ⟨ho, rfl, ⟨_, ho, rfl⟩, call_meets F.slot_list_mul ⟨_, ho, rfl⟩ F.entry_list_mul (F.args_list_mul_2 _ _)
        (lm_list_mul_any l vs.toArray k d sl x u (by simp [Builtin.List.listFitsIndex]; lia) (by lia) (by simp [Builtin.List.listTooLong, sizeLine]; lia))
        ⟨ho, ?_⟩⟩)
  rw [listMul_foldl_if]
  exact hQ _ _ (Kp.heap (sub_push _ _)) (rd_new_list (q1.replicate x.toNat))
theorem ct_len_list (xs : List D) (hn : xs.length ≤ 1000) : Ct prog w A h (.builtin "len") [.list xs] (.int xs.length) := fun P s vs _ r Q E hQ => by
  obtain ⟨v, q, rfl, r1, r2⟩ := rdL_cons.mp r
  rw [rdL_nil.mp r2]
  obtain ⟨l, us, rfl, _, hl, q1⟩ := rd_list.mp r1
  refine Calls.call_len_list hl (by rw [List.size_toArray, q1.length]; lia) ?_
  rw [List.size_toArray, q1.length]
  exact hQ _ _ Kp.tok (rd_int.mpr ⟨_, rfl⟩)
theorem ct_len_bytes (x : List UInt8) (hn : x.length ≤ 1000) : Ct prog w A h (.builtin "len") [.bytes x] (.int x.length) := fun P s vs _ r Q E hQ => by
  obtain ⟨v, q, rfl, r1, r2⟩ := rdL_cons.mp r
  rw [rdL_nil.mp r2]
  obtain ⟨t, rfl⟩ := rd_bytes.mp r1
  refine len_bytes (by rw [List.size_toArray]; lia) ?_
  rw [List.size_toArray]
  exact hQ _ _ Kp.tok (rd_int.mpr ⟨_, rfl⟩)
theorem ints_items : ∀ {vs : List Value} {ns : List Int}, IntsAre vs ns → ∃ xs : List (Int × Tok), vs = xs.map (fun p => Value.int p.1 p.2) ∧ ns = xs.map (·.1)
  | _, _, .nil => ⟨[], rfl, rfl⟩
  | _, _, .cons n t r => by
    obtain ⟨xs, rfl, rfl⟩ := ints_items r
    exact ⟨(n, t) :: xs, rfl, rfl⟩
theorem ct_sum (ns : List Int) (hh : A.handled = none) : Ct prog w A h (.builtin "sum") [.list (ns.map D.int)] (.int ns.sum) := fun P s vs _ r Q E hQ => by
  obtain ⟨v, q, rfl, r1, r2⟩ := rdL_cons.mp r
  rw [rdL_nil.mp r2]
  obtain ⟨l, us, rfl, _, hl, q1⟩ := rd_list.mp r1
  obtain ⟨xs, rfl, rfl⟩ := ints_items q1.ints
  refine sum_intListG (xs := xs.toArray) hh (by simpa [intItems] using hl) fun h' tk t' k => hQ _ _ (Kp.heap k) (rd_int.mpr ⟨t', ?_⟩)
  rw [preSum_eq]
  simp [List.take_of_length_le]
theorem ct_min (ns : List Int) (M : Int) (hh : A.handled = none) (hm : M ∈ ns) (hle : ∀ a ∈ ns, M ≤ a) : Ct prog w A h (.builtin "min") [.list (ns.map D.int)] (.int M) := fun P s vs _ r Q E hQ => by
  obtain ⟨v, q, rfl, r1, r2⟩ := rdL_cons.mp r
  rw [rdL_nil.mp r2]
  obtain ⟨l, us, rfl, _, hl, q1⟩ := rd_list.mp r1
  obtain ⟨xs, rfl, rfl⟩ := ints_items q1.ints
  have hne : 0 < xs.toArray.size := by
    cases xs with
    | nil => simp at hm
    | cons a b => simp
  refine min_intList (xs := xs.toArray) hh (by simpa [intItems] using hl) hne fun v h' tk hv k => ?_
  obtain ⟨t, rfl⟩ := intItems_at hv
  obtain ⟨h1, h2⟩ := argBest_lt (numAt xs.toArray) (xs.toArray.size - 1)
  refine hQ _ _ (Kp.heap k) (rd_int.mpr ⟨t, ?_⟩)
  congr 1
  apply Int.le_antisymm
  · obtain ⟨j, hj, rfl⟩ := mem_getD hm
    have := h2 j (by simp at hj ⊢; lia)
    rw [numAt_eq xs.toArray j] at this
    simpa using this
  · apply hle
    rw [numAt_eq]
    simpa using PySem.getD_mem (l := xs.map (·.1)) (by simp at h1 hne ⊢; lia)
end
end Mine
end
noncomputable section
open PySem PySem.W PyProof.Rows
set_option Elab.async false
set_option autoImplicit false
set_option linter.unusedVariables false
set_option linter.unusedSimpArgs false
namespace Mine
/-- All but the objects at X are kept. -/
structure Kx (X : Addr → Prop) (s s' : Shared) : Prop where
  keep : ∀ b o, ¬ X b → s.heap.get? b = some o → s'.heap.get? b = some o
  live : ∀ b, s'.heap.get? b = none → s.heap.get? b = none
  os : s'.os = s.os
  gens : ∀ (g : Nat) (x : GenState), s.gens[g]? = some x → s'.gens[g]? = some x
  bare : AllBare s.gens → AllBare s'.gens
theorem Kx.refl (X : Addr → Prop) (s : Shared) : Kx X s s := ⟨fun _ _ _ e => e, fun _ e => e, rfl, fun _ _ e => e, fun e => e⟩
theorem Kx.trans {X : Addr → Prop} {s s' s'' : Shared} (x : Kx X s s') (y : Kx X s' s'') : Kx X s s'' :=
  ⟨fun b o n e => y.keep b o n (x.keep b o n e), fun b e => x.live b (y.live b e), y.os.trans x.os, fun g z e => y.gens g z (x.gens g z e), fun e => y.bare (x.bare e)⟩
theorem Kx.mono {X Y : Addr → Prop} {s s' : Shared} (x : Kx X s s') (h : ∀ b, X b → Y b) : Kx Y s s' := ⟨fun b o n e => x.keep b o (fun q => n (h b q)) e, x.live, x.os, x.gens, x.bare⟩
theorem Kp.kx {X : Addr → Prop} {s s' : Shared} (k : Kp s s') : Kx X s s' := ⟨fun b o _ e => k.keep b o e, fun b e => none_of_kp k e, k.os, k.gens, k.bare⟩
theorem live_same {h h' : Heap} {a : Addr} {o : Obj} (hs : Heap.SameBut a h h') (ho : h'.get? a = some o) : ∀ b, h'.get? b = none → h.get? b = none := fun b e => by
  by_cases q : b = a
  · subst q; rw [ho] at e; cases e
  · rw [← hs.2 b q]; exact e
theorem Kx.same {s : Shared} {h : Heap} {tk : Nat} {a : Addr} {o : Obj} {X : Addr → Prop} (hs : Heap.SameBut a s.heap h) (ho : h.get? a = some o) (hx : X a) : Kx X s { s with heap := h, toks := tk } :=
  ⟨fun b o n e => (hs.2 b (fun q => n (q ▸ hx))).trans e, live_same hs ho, rfl, fun _ _ e => e, fun e => e⟩
/-- The same, of the objects alone: nothing is said of what lies at X. -/
structure Kw (X : Addr → Prop) (s s' : Shared) : Prop where
  keep : ∀ b o, ¬ X b → s.heap.get? b = some o → s'.heap.get? b = some o
  os : s'.os = s.os
  gens : ∀ (g : Nat) (x : GenState), s.gens[g]? = some x → s'.gens[g]? = some x
  bare : AllBare s.gens → AllBare s'.gens
theorem Kx.kw {X : Addr → Prop} {s s' : Shared} (x : Kx X s s') : Kw X s s' := ⟨x.keep, x.os, x.gens, x.bare⟩
theorem Kw.trans {X : Addr → Prop} {s s' s'' : Shared} (x : Kw X s s') (y : Kw X s' s'') : Kw X s s'' :=
  ⟨fun b o n e => y.keep b o n (x.keep b o n e), y.os.trans x.os, fun g z e => y.gens g z (x.gens g z e), fun e => y.bare (x.bare e)⟩
/-- The frame's own addresses. -/
def FrA (env : Env) (b : Addr) : Prop := b = env.locals ∨ ∃ n, (n, b) ∈ env.cells
/-- A function's frame: its names hold what ρ says; what stood in hb stands. -/
structure Fs (hb : Heap) (env : Env) (ρ : Str → Option Value) (h : Heap) : Prop where
  kind : env.scope.kind = .function
  keep : Sub hb h
  ns : ∃ m, h.Ns env.locals m ∧ ∀ x, env.kindOf x = some .local → m x = ρ x
  cl : ∀ x c, env.kindOf x = some .cell → env.cells.lookup x = some c → h.IsCell c (ρ x)
  has : ∀ x, env.kindOf x = some .cell → (env.cells.lookup x).isSome = true
  apart : env.cells.Pairwise fun x y => x.2 ≠ y.2
  newL : hb.get? env.locals = none
  newC : ∀ n c, (n, c) ∈ env.cells → hb.get? c = none ∧ c ≠ env.locals
theorem Ns.some {h : Heap} {a : Addr} {m : Str → Option Value} (n : h.Ns a m) : ∃ o, h.get? a = some o := let ⟨o, _, _, e, _⟩ := n; ⟨o, e⟩
section
variable {hb : Heap} {env : Env} {ρ : Str → Option Value} {h h' : Heap}
theorem Fs.on (F : Fs hb env ρ h) (k : ∀ b o, (FrA env b ∨ hb.get? b = some o) → h.get? b = some o → h'.get? b = some o) : Fs hb env ρ h' := by
  refine ⟨F.kind, fun b o e => k b o (.inr e) (F.keep b o e), ?_, fun x c hk hc => ?_, F.has, F.apart, F.newL, F.newC⟩
  · obtain ⟨m, n, e⟩ := F.ns
    exact ⟨m, n.at' fun o e => k _ o (.inl (.inl rfl)) e, e⟩
  · obtain ⟨o, ho, hd⟩ := F.cl x c hk hc
    exact ⟨o, k c o (.inl (.inr ⟨x, mem_of_lookup hc⟩)) ho, hd⟩
theorem Fs.sub (F : Fs hb env ρ h) (k : Sub h h') : Fs hb env ρ h' := F.on fun b o _ e => k b o e
theorem Fs.looks (F : Fs hb env ρ h) {x : Str} {v : Value} (hk : env.kindOf x = some .local ∨ env.kindOf x = some .cell) (hv : ρ x = some v) (hd : (x == ("__debug__" : Str)) = false) : Looks env h x v := by
  refine ⟨F.kind, hd, ?_⟩
  rcases hk with hk | hk
  · obtain ⟨m, n, e⟩ := F.ns
    exact .inl ⟨hk, m, n, by rw [e x hk, hv]⟩
  · obtain ⟨c, hc⟩ := Option.isSome_iff_exists.mp (F.has x hk)
    exact .inr (.inl ⟨hk, c, hc, hv ▸ F.cl x c hk hc⟩)
theorem fs_store {M : Model} {A : Around} {E : Value → Shared → Prop} {s : Shared} {x : Str} {v : Value} {Q : Unit → Shared → Prop} (F : Fs hb env ρ s.heap)
    (hk : env.kindOf x = some .local ∨ env.kindOf x = some .cell)
    (hQ : ∀ s', Kx (FrA env) s s' → Fs hb env (fun y => if y = x then some v else ρ y) s'.heap → Q () s') : wpAny M A (storeName env x v) Q E s := by
  have hp : (env.scope.kind == .class || (env.scope.kind == .module && env.locals != env.globals)) = false := by rw [F.kind]; rfl
  rcases hk with hk | hk
  · obtain ⟨m, n, e⟩ := F.ns
    refine wpAny_storeName_local hk n (fun h' hn hs => ?_) hp
    obtain ⟨o, ho⟩ := Ns.some hn
    refine hQ _ (Kx.same hs ho (.inl rfl)) ⟨F.kind, fun b o e => (hs.2 b (fun q => by subst q; rw [F.newL] at e; cases e)).trans (F.keep b o e), ⟨_, hn, fun y hy => ?_⟩, fun y c hy hc => ?_, F.has, F.apart, F.newL, F.newC⟩
    · by_cases q : y = x
      · simp [q]
      · simp [q, e y hy]
    · have : y ≠ x := fun q => by subst q; rw [hk] at hy; cases hy
      simp only [this, if_false]
      exact (F.cl y c hy hc).sameBut hs (F.newC y c (mem_of_lookup hc)).2
  · obtain ⟨c, hc⟩ := Option.isSome_iff_exists.mp (F.has x hk)
    have hcm := mem_of_lookup hc
    refine wpAny_storeName_cell F.kind hk hc (F.cl x c hk hc) fun h' hv hs => ?_
    obtain ⟨o, ho, hd⟩ := id hv
    obtain ⟨m, n, e⟩ := F.ns
    refine hQ { s with heap := h' } (Kx.same (tk := s.toks) hs ho (.inr ⟨x, hcm⟩)) ⟨F.kind, fun b o e => (hs.2 b (fun q => by subst q; rw [(F.newC _ _ hcm).1] at e; cases e)).trans (F.keep b o e), ⟨m, n.sameBut hs (Ne.symm (F.newC _ _ hcm).2), fun y hy => ?_⟩, fun y c' hy hc' => ?_, F.has, F.apart, F.newL, F.newC⟩
    · have : y ≠ x := fun q => by subst q; rw [hk] at hy; cases hy
      simp only [this, if_false]
      exact e y hy
    · by_cases q : y = x
      · subst q
        rw [hc] at hc'; cases hc'
        simpa using hv
      · simp only [q, if_false]
        exact (F.cl y c' hy hc').sameBut hs fun z => q (name_of_addr F.apart (mem_of_lookup hc') (z ▸ hcm))
end
/-- What an iterable hands out. -/
def rangeL (a c : Int) (n : Nat) : List Int := (List.range n).map fun (i : Nat) => a + i * c
section
variable {prog : Program} {w : World} {A : Around} {env : Env} {P : Addr → Prop} {h : Heap}
variable (prog w A P) in
/-- v can be walked: it hands out values that read ds. -/
def Src (s : Shared) (v : Value) (ds : List D) : Prop :=
  ∃ oI fp n Pv St, (∀ (Q : Value → Shared → Prop) (E : Value → Shared → Prop), Q (.ref s.heap.objs.size) { s with heap := s.heap.push oI } → wpAny (model prog w) A (pyIter v) Q E s) ∧
    Walks prog w A s.heap.objs.size fp [s.heap.objs.size] n Pv St ∧ St 0 (s.heap.push oI) ∧ oI.isFreed = false ∧ n = ds.length ∧
    (∀ i h, St i h → ∃ o, h.get? s.heap.objs.size = some o) ∧ (∀ b ∈ fp, b = s.heap.objs.size ∨ P b ∧ b < s.heap.objs.size) ∧ (∀ i x d, Pv i x → ds[i]? = some d → Rd P s.heap d x)
theorem src_list {s : Shared} {v : Value} {ds : List D} (hh : A.handled = none) (r : Rd P s.heap (.list ds) v) : Src prog w A P s v ds := by
  obtain ⟨a, vs, rfl, hp, hl, r⟩ := rd_list.mp r
  obtain ⟨o, ho, _⟩ := id hl
  have hlt := Heap.lt_size ho
  refine ⟨{ cls := .type "list_iterator", data := .fields #[.ref a, .int 0 0] }, _, _, _, _, fun Q E hQ => wpAny_pyIter_list hl hQ, Walks.list hh _ a (Nat.ne_of_lt hlt) vs.toArray, ⟨⟨_, Heap.get?_push_size _ rfl, rfl, rfl⟩, isList_sub (sub_push _ _) hl⟩, rfl, by simp [r.length], fun i h st => let ⟨o, ho, _⟩ := st.1; ⟨o, ho⟩, fun b hb => ?_, fun i x d hx hd => ?_⟩
  · rcases List.mem_cons.mp hb with e | hb
    · exact .inl e
    · rw [List.mem_singleton.mp hb]; exact .inr ⟨hp, hlt⟩
  · obtain ⟨v, e, rv⟩ := r.get hd
    have : vs[i]? = some x := by simpa using hx
    rw [e] at this; cases this; exact rv
theorem src_range {s : Shared} {v : Value} {a b c : Int} {n : Nat} (hh : A.handled = none) (hsm : Builtin.Range.small a b c = true) (hn : Builtin.Range.rangeSize a b c = n) (r : Rd P s.heap (.range a b c) v) : Src prog w A P s v ((rangeL a c n).map D.int) := by
  obtain ⟨r, t, u, z, rfl, hp, hr⟩ := rd_range.mp r
  refine ⟨{ cls := .type "range_iterator", data := .fields #[rawInt a, rawInt (Builtin.Range.rangeSize a b c), rawInt c] }, [s.heap.objs.size], n, _, _, fun Q E hQ => wpAny_pyIter_range hr hsm hQ, Walks.range hh _ a c n, ?_, rfl, by simp [rangeL], fun i h st => ⟨_, st⟩, fun b hb => .inl (List.mem_singleton.mp hb), fun i x d hx hd => ?_⟩
  · rw [hn]
    have e := Heap.get?_push_size s.heap (o := { cls := .type "range_iterator", data := .fields #[rawInt a, rawInt (n : Int), rawInt c] }) rfl
    simpa using e
  · obtain ⟨t, rfl⟩ := hx
    simp only [rangeL, List.map_map, List.getElem?_map, Option.map_eq_some_iff] at hd
    obtain ⟨j, hj, rfl⟩ := hd
    rw [List.getElem?_eq_some_iff] at hj
    obtain ⟨_, hj⟩ := hj
    simp at hj
    subst hj
    exact rd_int.mpr ⟨t, rfl⟩
theorem ct_range1 {n : Int} : Ct prog w A h (.type "range") [.int n] (.range 0 n 1) := fun P s vs _ r Q E hQ => by
  obtain ⟨v, q, rfl, r1, r2⟩ := rdL_cons.mp r
  rw [rdL_nil.mp r2]
  obtain ⟨t, rfl⟩ := rd_int.mp r1
  exact call_range_1 (hQ _ _ (Kp.heap (sub_push _ _)) (rd_range.mpr ⟨_, _, _, _, rfl, .inr (get_size _), IsRange.new _ _ _ _ _ _ _⟩))
theorem ct_range3 {a b c : Int} (hc : c ≠ 0) (hp : Builtin.divisionGoesByPylong (b - a) c = false) : Ct prog w A h (.type "range") [.int a, .int b, .int c] (.range a b c) := fun P s vs _ r Q E hQ => by
  obtain ⟨v, q, rfl, r1, r⟩ := rdL_cons.mp r
  obtain ⟨v2, q2, rfl, r2, r⟩ := rdL_cons.mp r
  obtain ⟨v3, q3, rfl, r3, r⟩ := rdL_cons.mp r
  rw [rdL_nil.mp r]
  obtain ⟨t, rfl⟩ := rd_int.mp r1
  obtain ⟨u, rfl⟩ := rd_int.mp r2
  obtain ⟨z, rfl⟩ := rd_int.mp r3
  exact call_range_3 hc (hQ _ _ (Kp.heap (sub_push _ _)) (rd_range.mpr ⟨_, _, _, _, rfl, .inr (get_size _), IsRange.new _ _ _ _ _ _ _⟩)) (.inl hp)
def loopE (prog : Program) (w : World) (A : Around) (env : Env) (E : Value → Shared → Prop) : Value → Shared → Prop :=
  notedBy (model prog w) A env fun e s' => cameBackBy (model prog w) A env E e s'
/-- A for over what can be walked. J I i: what holds ahead of turn i, I being the iterator. -/
theorem st_for {x : Str} {px pos : Pos} {iter : Expr} {body : List Stmt} {d : D} {ds : List D} {s : Shared} {Q : Flow → Shared → Prop} {E : Value → Shared → Prop} (X : Addr → Prop) (J : Addr → Nat → Shared → Prop)
    (h1 : Ev prog w A env P s.heap iter d) (src : ∀ (P : Addr → Prop) (s : Shared) (v : Value), Rd P s.heap d v → Src prog w A P s v ds)
    (hX : ∀ b, P b → ¬ X b) (hXd : ∀ b, X b → ∃ o, s.heap.get? b = some o)
    (J0 : ∀ I s', Kp s s' → s.heap.get? I = none → (∃ o, s'.heap.get? I = some o) → J I 0 s')
    (hJ : ∀ I i s1 s2, s.heap.get? I = none → J I i s1 → Kx (· = I) s1 s2 → J I i s2)
    (turn : ∀ I i di s1 v, s.heap.get? I = none → (∃ o, s1.heap.get? I = some o) → Kx X s s1 → ds[i]? = some di → J I i s1 → Rd (fun b => (P b ∨ s.heap.get? b = none) ∧ b ≠ I ∧ ¬ X b) s1.heap di v →
      wpAny (model prog w) A (storeName env x v) (fun _ s2 => wpAny (model prog w) A (execs body env) (fun f s3 => match f with
        | .next | .cont => Kx X s1 s3 ∧ J I (i + 1) s3
        | .brk => Q .next s3
        | .ret v => Q (.ret v) s3) (loopE prog w A env E) s2) (loopE prog w A env E) s1)
    (done : ∀ I s1 s2, s.heap.get? I = none → Kx X s s2 → J I ds.length s1 → Kw (· = I) s1 s2 → Q .next s2)
    (hs : ∀ x, foldedSetIterable iter env x = pure x := by intro _; rfl) (ht : ∀ it v, letOwnedTupleGo (.Name x px) it v = pure () := by intro _ _; rfl) :
    wpAny (model prog w) A (exec (.For (.Name x px) iter body [] pos) env) Q E s := by
  refine wpAny_For (h1 s (.refl _) _ _ fun v s1 k1 r1 => ?_) hs
  obtain ⟨oI, fp, n, Pv, St, hit, W, st, hfr, hn, hlv, hfp, hrd⟩ := src _ s1 v r1
  refine hit _ _ ?_
  have hI : s.heap.get? s1.heap.objs.size = none := none_of_kp k1 (get_size _)
  have k2 : Kp s { s1 with heap := s1.heap.push oI } := k1.trans (Kp.heap (t := s1.toks) (sub_push _ _))
  have hnx : ∀ b, (P b ∨ s.heap.get? b = none) → ¬ X b := fun b e q => by
    rcases e with e | e
    · exact hX b e q
    · obtain ⟨o, ho⟩ := hXd b q; rw [e] at ho; cases ho
  have hIX : ¬ X s1.heap.objs.size := fun q => by obtain ⟨o, ho⟩ := hXd _ q; rw [hI] at ho; cases ho
  have kxs : ∀ s' : Shared, Kx (fun b => X b ∨ b = s1.heap.objs.size) { s1 with heap := s1.heap.push oI } s' → Kx X s s' := fun s' kx =>
    ⟨fun b o n e => kx.keep b o (fun q => by rcases q with q | q; exact n q; rw [q, hI] at e; cases e) (k2.keep b o e), fun b e => none_of_kp k2 (kx.live b e), kx.os.trans k2.os, fun g z e => kx.gens g z (k2.gens g z e), fun e => kx.bare (k2.bare e)⟩
  refine codeAny_forLoop_any (I := fun k s' => ∃ i, k = n + 1 - i ∧ i ≤ n ∧ Kx (fun b => X b ∨ b = s1.heap.objs.size) { s1 with heap := s1.heap.push oI } s' ∧ St i s'.heap ∧ J s1.heap.objs.size i s') (fun k s2 hk => ?_) (n + 1)
    ⟨0, rfl, Nat.zero_le _, Kx.refl _ _, st, J0 _ _ k2 hI ⟨_, Heap.get?_push_size _ hfr⟩⟩
  obtain ⟨i, rfl, hi, kx, st2, j2⟩ := hk
  by_cases hlt : i < n
  · refine W.item i s2 _ _ hlt st2 fun u h' tk pv st3 hkeep => ?_
    refine wpAny_of_eq (ht _ _) (wpAny_assign_Name ?_)
    have hkeep' : ∀ b o, b ≠ s1.heap.objs.size → s2.heap.get? b = some o → h'.get? b = some o := fun b o q e => hkeep b o (by simpa using q) e
    have live3 : ∀ b, h'.get? b = none → s2.heap.get? b = none := fun b e => by
      by_cases q : b = s1.heap.objs.size
      · subst q
        obtain ⟨o, ho⟩ := hlv _ _ st3
        rw [ho] at e; cases e
      · cases z : s2.heap.get? b with
        | none => rfl
        | some o => rw [hkeep' b o q z] at e; cases e
    have kw : Kx (fun b => b = s1.heap.objs.size) s2 { s2 with heap := h', toks := tk } := ⟨hkeep', live3, rfl, fun _ _ e => e, fun e => e⟩
    have kx3 := kx.trans (kw.mono (Y := fun b => X b ∨ b = s1.heap.objs.size) fun b e => .inr e)
    have hdi : ∃ di, ds[i]? = some di := ⟨ds[i]'(by lia), by simp⟩
    obtain ⟨di, hdi⟩ := hdi
    have rdu := hrd i u di pv hdi
    have rdu' : Rd (fun b => (P b ∨ s.heap.get? b = none) ∧ b ≠ s1.heap.objs.size ∧ ¬ X b) ({ s2 with heap := h', toks := tk } : Shared).heap di u := by
      have z1 : Rd (fun b => (P b ∨ s.heap.get? b = none) ∧ b < s1.heap.objs.size) s1.heap di u := rdu.dom
      refine z1.on (fun a e => ⟨e.1, Nat.ne_of_lt e.2, hnx a e.1⟩) fun a o e q => kx3.keep a o (fun z => ?_) (Heap.get?_push_of_some _ q)
      rcases z with z | z
      · exact hnx a e.1 z
      · exact absurd e.2 (by rw [z]; exact Nat.lt_irrefl _)
    refine wpAny_mono (turn s1.heap.objs.size i di { s2 with heap := h', toks := tk } u hI (hlv _ _ st3) (kxs _ kx3) hdi (hJ _ _ _ _ hI j2 kw) rdu') (fun _ s4 q => ?_) fun _ _ e => e
    refine wpAny_mono q (fun f s5 q => ?_) fun _ _ e => e
    have fin : Kx X { s2 with heap := h', toks := tk } s5 ∧ J s1.heap.objs.size (i + 1) s5 → ∃ m, m < n + 1 - i ∧ ∃ i, m = n + 1 - i ∧ i ≤ n ∧ Kx (fun b => X b ∨ b = s1.heap.objs.size) { s1 with heap := s1.heap.push oI } s5 ∧ St i s5.heap ∧ J s1.heap.objs.size i s5 := by
      rintro ⟨k5, j5⟩
      refine ⟨n + 1 - (i + 1), by lia, i + 1, rfl, hlt, kx3.trans (k5.mono fun b e => .inl e), W.frame _ _ _ st3 fun b hb o e => k5.keep b o ?_ e, j5⟩
      rcases hfp b hb with e | ⟨e, _⟩
      · rw [e]; exact hIX
      · exact hnx b (e.elim .inl .inr)
    cases f with
    | next => exact fin q
    | cont => exact fin q
    | brk => exact q
    | ret v => exact q
  · have hin : i = n := by lia
    subst hin
    refine W.done s2 _ _ st2 fun h' tk hkeep => ?_
    have hkeep' : ∀ b o, b ≠ s1.heap.objs.size → s2.heap.get? b = some o → h'.get? b = some o := fun b o q e => hkeep b o (by simpa using q) e
    refine wpAny_execs_nil ?_
    have j3 := j2
    rw [hn] at j3
    have k3 := kxs s2 kx
    refine done _ s2 { s2 with heap := h', toks := tk } hI ⟨fun b o n e => hkeep' b o (fun q => by rw [q, hI] at e; cases e) (k3.keep b o n e), fun b e => ?_, k3.os, k3.gens, k3.bare⟩ j3 ⟨hkeep', rfl, fun _ _ e => e, fun e => e⟩
    by_cases q : b = s1.heap.objs.size
    · rw [q]; exact hI
    · cases z : s2.heap.get? b with
      | none => exact k3.live b z
      | some o => rw [hkeep' b o q z] at e; cases e
end
end Mine
end
noncomputable section
open PySem PySem.W PyProof.Rows
set_option Elab.async false
set_option autoImplicit false
set_option linter.unusedVariables false
set_option linter.unusedSimpArgs false
namespace Mine
def Dom (h : Heap) (b : Addr) : Prop := ∃ o, h.get? b = some o
/-- A name of the module's or a built-in one. -/
def GL (env : Env) (h : Heap) (x : Str) (v : Value) : Prop :=
  (∃ mg, h.Ns env.globals mg ∧ mg x = some v) ∨ (∃ mg mb, h.Ns env.globals mg ∧ mg x = none ∧ h.Ns env.builtins mb ∧ mb x = some v)
theorem GL.looks {env : Env} {h : Heap} {x : Str} {v : Value} (g : GL env h x v) (hf : env.scope.kind = .function) (hk : env.kindOf x = some .globalImplicit) (hd : (x == ("__debug__" : Str)) = false) : Looks env h x v := by
  refine ⟨hf, hd, ?_⟩
  rcases g with g | g
  · exact .inr (.inr (.inr (.inl ⟨hk, g⟩)))
  · exact .inr (.inr (.inr (.inr ⟨hk, g⟩)))
/-- The cells that a comprehension's block takes from around it. -/
def closOf (cells : List (Str × Addr)) : List (Str × NameKind) → List (Str × Addr) → List (Str × Addr)
  | [], acc => acc
  | (n, k) :: r, acc => if k == .free then closOf cells r ((n, (cells.lookup n).getD 0) :: acc) else closOf cells r acc
theorem closureFor_go {env : Env} : ∀ (names : List (Str × NameKind)) (acc : List (Str × Addr)), (∀ n k, (n, k) ∈ names → k = .free → (env.cells.lookup n).isSome = true) →
    (forIn names acc fun (x : Str × NameKind) (cs : List (Str × Addr)) => (match x with | (name, kind) => if kind == .free then do let a ← cellOf env name; pure (ForInStep.yield ((name, a) :: cs)) else pure (ForInStep.yield cs) : Sem (ForInStep (List (Str × Addr))))) = pure (closOf env.cells names acc)
  | [], acc, _ => rfl
  | (n, k) :: r, acc, h => by
    rw [List.forIn_cons]
    have ih := fun acc => closureFor_go (env := env) r acc fun n k hm => h n k (List.mem_cons_of_mem _ hm)
    by_cases hk : (k == NameKind.free) = true
    · have hl := h n k List.mem_cons_self (by simpa using hk)
      obtain ⟨c, hc⟩ := Option.isSome_iff_exists.mp hl
      simp only [hk, if_true, cellOf, hc, pure_bind, closOf, Option.getD_some]
      exact ih _
    · simp only [hk, Bool.false_eq_true, if_false, pure_bind, closOf]
      exact ih _
theorem closureFor_is {scope : Scope} {env : Env} (h : ∀ n k, (n, k) ∈ scope.names → k = .free → (env.cells.lookup n).isSome = true) : closureFor scope env = pure (closOf env.cells scope.names []) := by
  unfold closureFor
  have := closureFor_go (env := env) scope.names [] h
  simp only [pure_bind] at this ⊢
  rw [this]
  rfl
/-- The block of a comprehension. -/
def CE (scope : Scope) (env : Env) (C : Addr) : Env :=
  { scope := relabel scope env, locals := C, globals := env.globals, cells := cellsFrom (C + 1) scope.names (closOf env.cells scope.names []), qual := env.qual, func := none, code := env.code, frame := env.frame, builtins := env.builtins }
theorem lookup_map_key {α β : Type} (f : Str → α → β) : ∀ (l : List (Str × α)) (x : Str), (l.map fun p => (p.1, f p.1 p.2)).lookup x = (l.lookup x).map (f x)
  | [], _ => rfl
  | (n, k) :: r, x => by
    rw [List.map_cons, List.lookup_cons, List.lookup_cons]
    cases hx : x == n with
    | true => simp [beq_iff_eq.mp hx]
    | false => exact lookup_map_key f r x
theorem relabel_lookup (scope : Scope) (env : Env) (x : Str) : (relabel scope env).names.lookup x = (scope.names.lookup x).map fun k => if (k == NameKind.free && env.scope.kind == .function && env.kindOf x == some .cell) then .cell else k := by
  have := lookup_map_key (fun n k => if (k == NameKind.free && env.scope.kind == .function && env.kindOf n == some .cell) then NameKind.cell else k) scope.names x
  rw [← this]
  unfold relabel
  congr 1
  apply List.map_congr_left
  rintro ⟨n, k⟩ _
  dsimp only
  split <;> rfl
theorem cellsFrom_lookup : ∀ (names : List (Str × NameKind)) (n : Nat) (acc : List (Str × Addr)) (y : Str), (∀ k, (y, k) ∈ names → k ≠ .cell) → (cellsFrom n names acc).lookup y = acc.lookup y
  | [], _, _, _, _ => rfl
  | (m, k) :: r, n, acc, y, h => by
    unfold cellsFrom
    have hr : ∀ k, (y, k) ∈ r → k ≠ .cell := fun k hk => h k (List.mem_cons_of_mem _ hk)
    split
    · rename_i hk
      rw [cellsFrom_lookup r _ _ y hr, List.lookup_cons]
      cases hy : y == m with
      | false => rfl
      | true => exact absurd (by simpa using hk) (h k (by rw [beq_iff_eq.mp hy]; exact List.mem_cons_self))
    · exact cellsFrom_lookup r _ _ y hr
theorem closOf_lookup (cells : List (Str × Addr)) : ∀ (names : List (Str × NameKind)) (acc : List (Str × Addr)) (y : Str) (c : Addr), cells.lookup y = some c → ((y, NameKind.free) ∈ names ∨ acc.lookup y = some c) → (closOf cells names acc).lookup y = some c
  | [], acc, y, c, _, h => by rcases h with h | h; cases h; exact h
  | (n, k) :: r, acc, y, c, hc, h => by
    unfold closOf
    have step : ∀ acc', ((y, NameKind.free) ∈ r ∨ acc'.lookup y = some c) → (closOf cells r acc').lookup y = some c := fun acc' h' => closOf_lookup cells r acc' y c hc h'
    split
    · rename_i hk
      apply step
      by_cases hy : y = n
      · right; subst hy; simp [hc]
      · rcases h with h | h
        · left
          rcases List.mem_cons.mp h with e | h
          · exact absurd (Prod.mk.inj e).1 hy
          · exact h
        · right
          rw [List.lookup_cons]
          have : (y == n) = false := by simpa using hy
          rw [this]; exact h
    · rename_i hk
      apply step
      rcases h with h | h
      · left
        rcases List.mem_cons.mp h with e | h
        · exact absurd (by rw [← (Prod.mk.inj e).2]; rfl) hk
        · exact h
      · right; exact h
/-- What the tables of names must say, decided at once. -/
structure ScOk (scope : Scope) (env : Env) (x : Str) : Prop where
  fn : scope.kind = .function
  efn : env.scope.kind = .function
  once : (scope.names.map (·.1)).Nodup
  frees : ∀ n k, (n, k) ∈ scope.names → k = .free → env.kindOf n = some .cell ∧ (env.cells.lookup n).isSome = true
  var : scope.names.lookup x = some .local ∨ scope.names.lookup x = some .cell
  dbg : (x == ("__debug__" : Str)) = false
theorem mem_lookup {α : Type} : ∀ {l : List (Str × α)} {n : Str} {k : α}, (l.map (·.1)).Nodup → (n, k) ∈ l → l.lookup n = some k
  | (m, j) :: r, n, k, hn, hm => by
    rw [List.lookup_cons]
    rw [List.map_cons, List.nodup_cons] at hn
    rcases List.mem_cons.mp hm with e | hm'
    · cases e; simp
    · have : (n == m) = false := by
        simp only [beq_eq_false_iff_ne]
        intro e
        exact hn.1 (List.mem_map.mpr ⟨_, hm', e⟩)
      rw [this]; exact mem_lookup hn.2 hm'
section
variable {scope : Scope} {env : Env} {x : Str} {C : Addr} {h : Heap}
theorem ScOk.free (K : ScOk scope env x) {y : Str} {u : Value} (hy : scope.names.lookup y = some .free) (l : Looks env h y u) : Looks (CE scope env C) h y u := by
  have hm := mem_of_lookup hy
  obtain ⟨hk, hs⟩ := K.frees y .free hm rfl
  obtain ⟨h1, h2, l⟩ := l
  rcases l with ⟨a, _⟩ | ⟨a, c, n, e⟩ | ⟨a, _⟩ | ⟨a, _⟩ | ⟨a, _⟩
  · rw [hk] at a; cases a
  · refine ⟨K.fn, h2, .inr (.inl ⟨?_, c, ?_, e⟩)⟩
    · show (relabel scope env).names.lookup y = _
      rw [relabel_lookup, hy, Option.map_some]
      simp [K.efn, hk]
    · show (cellsFrom (C + 1) scope.names (closOf env.cells scope.names [])).lookup y = _
      rw [cellsFrom_lookup _ _ _ _ (fun k hk' => ?_)]
      · exact closOf_lookup _ _ _ _ _ n (.inl hm)
      · have := mem_lookup K.once hk'
        rw [hy] at this; cases this; decide
  · rw [hk] at a; cases a
  · rw [hk] at a; cases a
  · rw [hk] at a; cases a
theorem ScOk.glob (K : ScOk scope env x) {y : Str} {u : Value} (hy : scope.names.lookup y = some .globalImplicit) (g : GL env h y u) (hd : (y == ("__debug__" : Str)) = false) : Looks (CE scope env C) h y u := by
  refine GL.looks (env := CE scope env C) g K.fn ?_ hd
  show (relabel scope env).names.lookup y = _
  rw [relabel_lookup, hy, Option.map_some]
  rfl
theorem ScOk.kindVar (K : ScOk scope env x) : (CE scope env C).kindOf x = scope.names.lookup x := by
  show (relabel scope env).names.lookup x = _
  rw [relabel_lookup]
  rcases K.var with e | e <;> rw [e] <;> rfl
end
end Mine
end
noncomputable section
open PySem PySem.W PyProof.Rows
set_option Elab.async false
set_option autoImplicit false
set_option linter.unusedVariables false
set_option linter.unusedSimpArgs false
namespace Mine
theorem cellsFrom_own : ∀ (names : List (Str × NameKind)) (h : Heap) (acc : List (Str × Addr)) (x : Str), (names.map (·.1)).Nodup → (x, NameKind.cell) ∈ names →
    ∃ c, (cellsFrom h.objs.size names acc).lookup x = some c ∧ (pushCells h names).IsCell c none ∧ h.objs.size ≤ c
  | (n, k) :: r, h, acc, x, hn, hm => by
    rw [List.map_cons, List.nodup_cons] at hn
    unfold cellsFrom pushCells
    rcases List.mem_cons.mp hm with e | hm'
    · cases e
      simp only [beq_self_eq_true, if_true]
      refine ⟨h.objs.size, ?_, ⟨_, pushCells_keeps _ _ _ _ (Heap.get?_push_size _ rfl), rfl⟩, Nat.le_refl _⟩
      rw [cellsFrom_lookup _ _ _ _ (fun k hk => absurd (List.mem_map.mpr ⟨_, hk, rfl⟩) hn.1)]
      simp
    · split
      · have := cellsFrom_own r (h.push { cls := .type "cell", data := .cell none }) ((n, h.objs.size) :: acc) x hn.2 hm'
        rw [Heap.size_push] at this
        obtain ⟨c, h1, h2, h3⟩ := this
        exact ⟨c, h1, h2, by lia⟩
      · exact cellsFrom_own r h acc x hn.2 hm'
section
variable {M : Model} {A : Around} {E : Value → Shared → Prop} {s : Shared}
theorem ce_new {scope : Scope} {env : Env} {cl : List (Str × Addr)} {Q : Env → Shared → Prop}
    (hQ : Q { scope, locals := s.heap.objs.size, globals := env.globals, cells := cellsFrom (s.heap.objs.size + 1) scope.names cl, qual := env.qual, func := none, code := env.code, frame := env.frame, builtins := env.builtins }
      { s with heap := pushCells (s.heap.push { cls := .type "dict", data := .dict #[] }) scope.names }) :
    wpAny M A (newFunctionEnv scope env.globals cl [] env.qual none .none (some env)) Q E s := by
  simp only [newFunctionEnv, Option.isSome_some, if_true]
  refine wpAny_bind (wpAny_alloc ?_)
  refine wpAny_bind (wpAny_layCells _ (fun name kind cells => by cases hkc : kind == NameKind.cell <;> simp [hkc]) _ _ _ _ ?_)
  rw [show ({ s with heap := s.heap.push { cls := .type "dict", data := .dict #[] } } : Shared).heap.objs.size = s.heap.objs.size + 1 from Heap.size_push ..]
  refine wpAny_bind ?_
  rw [List.forIn_nil]
  exact wpAny_pure (wpAny_pure hQ)
def VA (scope : Scope) (env : Env) (x : Str) (C b : Addr) : Prop := b = C ∨ (scope.names.lookup x = some .cell ∧ (CE scope env C).cells.lookup x = some b)
/-- The block's table and its variable's cell stand. -/
structure CeOk (scope : Scope) (env : Env) (x : Str) (C : Addr) (h : Heap) : Prop where
  ns : ∃ m, h.Ns C m
  cell : scope.names.lookup x = some .cell → ∃ c u, (CE scope env C).cells.lookup x = some c ∧ h.IsCell c u ∧ c ≠ C
theorem CeOk.on {scope : Scope} {env : Env} {x : Str} {C : Addr} {h h' : Heap} (K : CeOk scope env x C h) (k : ∀ b o, VA scope env x C b → h.get? b = some o → h'.get? b = some o) : CeOk scope env x C h' := by
  obtain ⟨m, n⟩ := K.ns
  refine ⟨⟨m, n.at' fun o e => k _ o (.inl rfl) e⟩, fun hx => ?_⟩
  obtain ⟨c, u, h1, ⟨o, ho, hd⟩, h3⟩ := K.cell hx
  exact ⟨c, u, h1, ⟨o, k c o (.inr ⟨hx, h1⟩) ho, hd⟩, h3⟩
theorem ce_store {scope : Scope} {env : Env} {x : Str} {C : Addr} {v : Value} {Q : Unit → Shared → Prop} (K : ScOk scope env x) (O : CeOk scope env x C s.heap)
    (hQ : ∀ s', Kx (VA scope env x C) s s' → CeOk scope env x C s'.heap → Looks (CE scope env C) s'.heap x v → Q () s') : wpAny M A (storeName (CE scope env C) x v) Q E s := by
  have hf : (CE scope env C).scope.kind = .function := K.fn
  have hp : ((CE scope env C).scope.kind == .class || ((CE scope env C).scope.kind == .module && (CE scope env C).locals != (CE scope env C).globals)) = false := by rw [hf]; rfl
  obtain ⟨m, n⟩ := O.ns
  rcases K.var with hx | hx
  · have hk : (CE scope env C).kindOf x = some .local := by rw [K.kindVar, hx]
    refine wpAny_storeName_local hk n (fun h' hn hs => ?_) hp
    obtain ⟨o, ho⟩ := Ns.some hn
    refine hQ _ (Kx.same hs ho (.inl rfl)) ⟨⟨_, hn⟩, fun q => by rw [hx] at q; cases q⟩ ⟨hf, K.dbg, .inl ⟨hk, _, hn, by simp⟩⟩
  · have hk : (CE scope env C).kindOf x = some .cell := by rw [K.kindVar, hx]
    obtain ⟨c, u, hc, hcell, hne⟩ := O.cell hx
    refine wpAny_storeName_cell hf hk hc hcell fun h' hv hs => ?_
    obtain ⟨o, ho, hd⟩ := id hv
    refine hQ { s with heap := h' } (Kx.same (tk := s.toks) hs ho (.inr ⟨hx, hc⟩)) ⟨⟨m, n.sameBut hs (Ne.symm hne)⟩, fun _ => ⟨c, _, hc, hv, hne⟩⟩ ⟨hf, K.dbg, .inr (.inl ⟨hk, c, hc, hv⟩)⟩
end
section
variable {prog : Program} {w : World} {A : Around} {env : Env} {P : Addr → Prop} {h : Heap}
variable (prog w A env h) in
def TrL (ifs : List Expr) (b : Bool) : Prop := ∀ s, Sub h s.heap → ∀ (Q : Bool → Shared → Prop) (E : Value → Shared → Prop), (∀ s', Kp s s' → Q b s') →
  wpAny (model prog w) A (forIn ifs true fun c r => if r = true then do let ok ← isTrue c env (eval c env); pure (ForInStep.yield ok) else pure (ForInStep.yield r)) Q E s
theorem trL_nil : TrL prog w A env h [] true := fun s _ Q E hQ => by rw [List.forIn_nil]; exact wpAny_pure (hQ s (Kp.refl _))
theorem trL_one {c : Expr} {b : Bool} (x : Tr prog w A env h c b) : TrL prog w A env h [c] b := fun s hs Q E hQ => by
  rw [List.forIn_cons]
  simp only [if_true]
  refine wpAny_bind (wpAny_bind (x s hs _ _ fun s' k => wpAny_pure ?_))
  show wpAny _ _ (forIn [] b _) Q E s'
  rw [List.forIn_nil]
  exact wpAny_pure (hQ s' k)
theorem Ev.mono {P' : Addr → Prop} {e : Expr} {d : D} (x : Ev prog w A env P h e d) (k : ∀ b, P b → P' b) : Ev prog w A env P' h e d := fun s hs Q E hQ =>
  x s hs Q E fun v s' kp r => hQ v s' kp (r.mono fun b e => e.elim (fun e => .inl (k b e)) .inr)
/-- The turns of a comprehension: what the block has handed out so far lies in its list. -/
theorem comp_turns {elt iter : Expr} {x : Str} {px pos : Pos} {ifs : List Expr} {scope : Scope} {C I L : Addr} {ds : List D} {s s4 : Shared} {R : Result → Shared → Prop}
    {fp : List Addr} {Pv : Nat → Value → Prop} {St : Nat → Heap → Prop} (K : ScOk scope env x) (p : Nat → Bool) (f : Nat → D)
    (hs : Sub h s.heap) (hP : ∀ b, P b → Dom h b) (k4 : Kp s s4)
    (W : Walks prog w A I fp [I] ds.length Pv St) (st : St 0 s4.heap) (hlv : ∀ i h, St i h → ∃ o, h.get? I = some o)
    (hI : s.heap.get? I = none) (hL : s.heap.get? L = none) (hVA : ∀ b, VA scope env x C b → s.heap.get? b = none) (hIL : I ≠ L) (hLV : ¬ VA scope env x C L) (hIV : ¬ VA scope env x C I)
    (hfp : ∀ b ∈ fp, b ≠ L ∧ ¬ VA scope env x C b)
    (hsafe : ∀ i y d, Pv i y → ds[i]? = some d → Rd (fun b => Nw P s b ∧ ¬ (b = I ∨ b = L ∨ VA scope env x C b)) s4.heap d y)
    (O : CeOk scope env x C s4.heap) (hacc : s4.heap.PlainList L #[]) (hn : ds.length ≤ 1000)
    (body : ∀ (h' : Heap) (i : Nat) (di : D) (v : Value), Sub h h' → Looks (CE scope env C) h' x v → ds[i]? = some di → Rd (fun b => Nw P s b ∧ ¬ (b = I ∨ b = L ∨ VA scope env x C b)) h' di v →
      TrL prog w A (CE scope env C) h' ifs (p i) ∧ (p i = true → Ev prog w A (CE scope env C) P h' elt (f i)))
    (hR : ∀ s', Kp s s' → CeOk scope env x C s'.heap → Rd (fun b => Nw P s b ∧ b ≠ I ∧ ¬ VA scope env x C b) s'.heap (.list (((List.range ds.length).filter p).map f)) (.ref L) → R (.ok .next) s') :
    codeAny (model prog w) A (.compLoop (.ListComp elt [⟨.Name x px, iter, ifs, 0⟩] scope pos) 0 (.ref I) (.ref L) (CE scope env C)) R s4 := by
  let Y : Addr → Prop := fun b => b = I ∨ b = L ∨ VA scope env x C b
  let G : Addr → Prop := fun b => Nw P s b ∧ ¬ Y b
  have hYs : ∀ b, Y b → s.heap.get? b = none := fun b e => by
    rcases e with e | e | e
    · rw [e]; exact hI
    · rw [e]; exact hL
    · exact hVA b e
  have subY : ∀ s' : Shared, (∀ b o, ¬ Y b → s4.heap.get? b = some o → s'.heap.get? b = some o) → Sub s.heap s'.heap := fun s' kk b o e =>
    kk b o (fun q => by rw [hYs b q] at e; cases e) (k4.keep b o e)
  refine codeAny_compLoop_tests (fun k s' => ∃ i ys, k = ds.length + 1 - i ∧ i ≤ ds.length ∧ Kx Y s4 s' ∧ St i s'.heap ∧ CeOk scope env x C s'.heap ∧ s'.heap.PlainList L ys ∧ RdL G s'.heap (((List.range i).filter p).map f) ys.toList) ?_ (ds.length + 1)
    ⟨0, #[], rfl, Nat.zero_le _, Kx.refl _ _, st, O, hacc, rdL_nil.mpr rfl⟩
  rintro k s2 ⟨i, ys, rfl, hi, kx, st2, O2, hacc2, rl⟩
  have hys : ys.size ≤ sizeLine := by
    have e1 := rl.length
    have e2 : (((List.range i).filter p).map f).length ≤ i := by rw [List.length_map]; exact Nat.le_trans (List.length_filter_le _ _) (by simp)
    have e4 : ys.toList.length = ys.size := by simp
    rw [sizeLine_is]; lia
  by_cases hlt : i < ds.length
  · refine W.item i s2 _ _ hlt st2 fun v h' tk pv st3 hkeep => ?_
    have hkeep' : ∀ b o, b ≠ I → s2.heap.get? b = some o → h'.get? b = some o := fun b o q e => hkeep b o (by simpa using q) e
    have live3 : ∀ b, h'.get? b = none → s2.heap.get? b = none := fun b e => by
      by_cases q : b = I
      · subst q
        obtain ⟨o, ho⟩ := hlv _ _ st3
        rw [ho] at e; cases e
      · cases z : s2.heap.get? b with
        | none => rfl
        | some o => rw [hkeep' b o q z] at e; cases e
    have kx3 : Kx (fun b => b = I) s2 { s2 with heap := h', toks := tk } := ⟨hkeep', live3, rfl, fun _ _ e => e, fun e => e⟩
    refine wpAny_assign_Name (ce_store K (O2.on fun b o hb e => hkeep' b o (fun q => hIV (q ▸ hb)) e) fun s5 k5 O5 lk => ?_)
    have kx5 : Kx Y s4 s5 := (kx.trans (kx3.mono fun b e => .inl e)).trans (k5.mono fun b e => .inr (.inr e))
    have hdi : ∃ di, ds[i]? = some di := ⟨ds[i]'(by lia), by simp⟩
    obtain ⟨di, hdi⟩ := hdi
    have rdv : Rd G s5.heap di v := (hsafe i v di pv hdi).on (fun a e => e) fun a o e q => kx5.keep a o e.2 q
    obtain ⟨bt, be⟩ := body s5.heap i di v (hs.trans (subY s5 kx5.keep)) lk hdi rdv
    have st5 : St (i + 1) s5.heap := W.frame _ _ _ st3 fun b hb o e => k5.keep b o (hfp b hb).2 e
    have acc5 : s5.heap.PlainList L ys := (hacc2.at fun o e => hkeep' _ o (Ne.symm hIL) e).at fun o e => k5.keep _ o hLV e
    have rl5 : RdL G s5.heap (((List.range i).filter p).map f) ys.toList := rl.on (fun a e => e) fun a o e q => k5.keep a o (fun z => e.2 (.inr (.inr z))) (hkeep' a o (fun z => e.2 (.inl z)) q)
    refine bt s5 (.refl _) _ _ fun s6 k6 => ?_
    have st6 : St (i + 1) s6.heap := W.frame _ _ _ st5 fun b _ o e => k6.keep b o e
    have kx6 : Kx Y s4 s6 := kx5.trans k6.kx
    have hsuc : ((List.range (i + 1)).filter p) = ((List.range i).filter p) ++ (if p i then [i] else []) := by
      rw [List.range_succ, List.filter_append]
      cases hp : p i <;> simp [hp]
    cases hp : p i with
    | false =>
      simp only [Bool.false_eq_true, if_false]
      refine ⟨ds.length + 1 - (i + 1), by lia, i + 1, ys, rfl, hlt, kx6, st6, O5.on fun b o _ e => k6.keep b o e, acc5.at fun o e => k6.keep _ o e, ?_⟩
      rw [hsuc, hp]
      simpa using rl5.sub k6.keep
    | true =>
      simp only [if_true]
      refine be hp s6 k6.keep _ _ fun y s7 k7 ry => ?_
      have hYlive : ∀ b, Y b → ∃ o, s6.heap.get? b = some o := fun b e => by
        rcases e with e | e | e
        · rw [e]; exact hlv _ _ st6
        · rw [e]; obtain ⟨n, z⟩ := acc5; exact ⟨_, k6.keep _ _ z⟩
        · rcases e with e | ⟨e, e2⟩
          · rw [e]; obtain ⟨m, n⟩ := O5.ns; obtain ⟨o, ho⟩ := Ns.some n; exact ⟨o, k6.keep _ _ ho⟩
          · obtain ⟨c, u, h1, ⟨o, ho, _⟩, _⟩ := O5.cell e
            rw [h1] at e2; cases e2
            exact ⟨o, k6.keep _ _ ho⟩
      have ry' : Rd G s7.heap (f i) y := ry.mono fun b e => by
        rcases e with e | e
        · refine ⟨.inl e, fun q => ?_⟩
          obtain ⟨o, ho⟩ := hP b e
          have := hs b o ho
          rw [hYs b q] at this; cases this
        · refine ⟨.inr (none_of_kp k4 (kx6.live b e)), fun q => ?_⟩
          obtain ⟨o, ho⟩ := hYlive b q
          rw [e] at ho; cases ho
      refine wpAny_list_append_plain (hsz := hys) ((acc5.at fun o e => k6.keep _ o e).at fun o e => k7.keep _ o e) fun h8 acc8 hs8 => ?_
      have kx8 : Kx Y s7 { s7 with heap := h8 } := by
        obtain ⟨n, z⟩ := id acc8
        exact Kx.same (tk := s7.toks) hs8 z (.inr (.inl rfl))
      have hk8 : ∀ b o, b ≠ L → s7.heap.get? b = some o → h8.get? b = some o := fun b o q e => (hs8.2 b q).trans e
      refine ⟨ds.length + 1 - (i + 1), by lia, i + 1, ys.push y, rfl, hlt, (kx6.trans k7.kx).trans kx8, W.frame _ _ _ st6 fun b hb o e => hk8 b o (hfp b hb).1 (k7.keep b o e), O5.on fun b o hb e => hk8 b o (fun q => hLV (q ▸ hb)) (k7.keep b o (k6.keep b o e)), acc8, ?_⟩
      rw [hsuc, hp]
      simp only [if_true, List.map_append, List.map_cons, List.map_nil, Array.toList_push]
      refine RdL.append ?_ (rdL_cons'.mpr ⟨?_, rdL_nil.mpr rfl⟩)
      · exact rl5.on (fun a e => e) fun a o e q => hk8 a o (fun z => e.2 (.inr (.inl z))) (k7.keep a o (k6.keep a o q))
      · exact ry'.on (fun a e => e) fun a o e q => hk8 a o (fun z => e.2 (.inr (.inl z))) q
  · have hin : i = ds.length := by lia
    subst hin
    refine W.done s2 _ _ st2 fun h' tk hkeep => ?_
    have hkeep' : ∀ b o, b ≠ I → s2.heap.get? b = some o → h'.get? b = some o := fun b o q e => hkeep b o (by simpa using q) e
    have ksub : Sub s.heap h' := fun b o e => hkeep' b o (fun q => by rw [q, hI] at e; cases e) (subY s2 kx.keep b o e)
    refine hR { s2 with heap := h', toks := tk } ⟨ksub, kx.os.trans k4.os, fun g z e => kx.gens g z (k4.gens g z e), fun e => kx.bare (k4.bare e)⟩ (O2.on fun b o hb e => hkeep' b o (fun q => hIV (q ▸ hb)) e) ?_
    refine rd_list.mpr ⟨L, ys.toList, rfl, ⟨.inr hL, Ne.symm hIL, hLV⟩, ?_, ?_⟩
    · have := (hacc2.at (h' := h') fun o e => hkeep' _ o (Ne.symm hIL) e).isList
      simpa using this
    · exact rl.on (fun a e => ⟨e.1, fun z => e.2 (.inl z), fun z => e.2 (.inr (.inr z))⟩) fun a o e q => hkeep' a o (fun z => e.2 (.inl z)) q
end
end Mine
end
noncomputable section
open PySem PySem.W PyProof.Rows
set_option Elab.async false
set_option autoImplicit false
set_option linter.unusedVariables false
set_option linter.unusedSimpArgs false
namespace Mine
/-- No address in it. -/
def D.flat : D → Bool
  | .list _ => false
  | .tuple _ => false
  | .range _ _ _ => false
  | _ => true
theorem Rd.flat {P P' : Addr → Prop} {h h' : Heap} {d : D} {v : Value} (hf : d.flat = true) (r : Rd P h d v) : Rd P' h' d v := by
  cases d <;> simp_all [Rd, D.flat]
section
variable {prog : Program} {w : World} {A : Around} {env : Env} {P : Addr → Prop} {h : Heap}
theorem Ev.flat {P' : Addr → Prop} {e : Expr} {d : D} (x : Ev prog w A env P' h e d) (hf : d.flat = true) : Ev prog w A env P h e d := fun s hs Q E hQ =>
  x s hs Q E fun v s' kp r => hQ v s' kp (r.flat hf)
theorem Heap.get_none_le {h : Heap} {b : Addr} (hb : h.objs.size ≤ b) : h.get? b = none := by
  cases q : h.get? b with
  | none => rfl
  | some o => exact absurd (Heap.lt_size q) (Nat.not_lt.mpr hb)
theorem ce_addr {scope : Scope} {x : Str} {C c : Addr} (K : ScOk scope env x) (hx : scope.names.lookup x = some .cell) (hc : (CE scope env C).cells.lookup x = some c) : C < c := by
  have : ∀ (names : List (Str × NameKind)) (n : Nat) (acc : List (Str × Addr)), (names.map (·.1)).Nodup → (x, NameKind.cell) ∈ names → ∃ c, (cellsFrom n names acc).lookup x = some c ∧ n ≤ c := by
    intro names
    induction names with
    | nil => intro n acc _ h; cases h
    | cons y r ih =>
      intro n acc hn hm
      obtain ⟨m, k⟩ := y
      rw [List.map_cons, List.nodup_cons] at hn
      unfold cellsFrom
      rcases List.mem_cons.mp hm with e | hm'
      · cases e
        simp only [beq_self_eq_true, if_true]
        refine ⟨n, ?_, Nat.le_refl _⟩
        rw [cellsFrom_lookup _ _ _ _ (fun k hk => absurd (List.mem_map.mpr ⟨_, hk, rfl⟩) hn.1)]
        simp
      · split
        · obtain ⟨c, h1, h2⟩ := ih (n + 1) ((m, n) :: acc) hn.2 hm'
          exact ⟨c, h1, by lia⟩
        · exact ih n acc hn.2 hm'
  obtain ⟨c', h1, h2⟩ := this scope.names (C + 1) (closOf env.cells scope.names []) K.once (mem_of_lookup hx)
  have e : (CE scope env C).cells.lookup x = some c' := h1
  rw [e] at hc; cases hc
  exact h2
/-- A comprehension of one clause. -/
theorem comp_go {elt iter : Expr} {x : Str} {px pos pos' : Pos} {ifs : List Expr} {scope : Scope} {d : D} {ds : List D} {s : Shared} {use : Option (Value → Sem Unit)} {Q : Value → Shared → Prop} {E : Value → Shared → Prop}
    (K : ScOk scope env x) (p : Nat → Bool) (f : Nat → D) (h1 : Ev prog w A env P h iter d) (src : ∀ (P : Addr → Prop) (s : Shared) (v : Value), Rd P s.heap d v → Src prog w A P s v ds)
    (hP : ∀ b, P b → Dom h b) (hn : ds.length ≤ 1000) (hs : Sub h s.heap)
    (body : ScOk scope env x → ∀ (C : Addr) (h' : Heap) (i : Nat) (di : D) (v : Value), Sub h h' → Looks (CE scope env C) h' x v → ds[i]? = some di → Rd All h' di v →
      TrL prog w A (CE scope env C) h' ifs (p i) ∧ (p i = true → Ev prog w A (CE scope env C) P h' elt (f i)))
    (hQ : ∀ s' L C, Kp s s' → (∃ m, s'.heap.Ns C m) → s.heap.get? C = none → Rd (fun b => Nw P s b ∧ b ≠ C) s'.heap (.list (((List.range ds.length).filter p).map f)) (.ref L) → compPost (model prog w) A E use Q (.ref L) C (.ok .next) s')
    (hfs : ∀ y, foldedSetIterable iter env y = pure y) :
    wpAny (model prog w) A (comprehension (.ListComp elt [⟨.Name x px, iter, ifs, 0⟩] scope pos) scope env pos' (newList []) false (eval iter env) use) Q E s := by
  have hcl : closureFor scope env = pure (closOf env.cells scope.names []) := closureFor_is fun n k hm hk => (K.frees n k hm hk).2
  refine wpAny_comprehension_free (g := ⟨.Name x px, iter, ifs, 0⟩) (gs := []) rfl hfs hcl K.fn (fun y hy hl => mem_lookup K.once (by rw [← hl]; exact hy)) ?_
  refine h1 s hs _ _ fun v s1 k1 r1 => ?_
  obtain ⟨oI, fp, n, Pv, St, hit, W, st, hfr, hnn, hlv, hfp, hrd⟩ := src _ s1 v r1
  refine hit _ _ ?_
  refine wpAny_newObj_type ?_
  refine ce_new ?_
  dsimp only
  generalize hI : s1.heap.objs.size = I at *
  generalize hH1 : s1.heap.push oI = H1 at *
  have sI : H1.objs.size = I + 1 := by rw [← hH1, Heap.size_push, hI]
  generalize hH2 : H1.push { cls := .type "list", dict := none, data := .seq ([] : List Value).toArray } = H2 at *
  have sL : H2.objs.size = I + 2 := by rw [← hH2, Heap.size_push, sI]
  rw [sI, sL]
  generalize hH3 : H2.push { cls := .type "dict", data := .dict #[] } = H3 at *
  have sC : H3.objs.size = I + 3 := by rw [← hH3, Heap.size_push, sL]
  have k01 : Sub s1.heap H1 := by rw [← hH1]; exact sub_push _ _
  have k12 : Sub H1 H2 := by rw [← hH2]; exact sub_push _ _
  have k23 : Sub H2 H3 := by rw [← hH3]; exact sub_push _ _
  have k34 : Sub H3 (pushCells H3 scope.names) := fun b o e => pushCells_keeps _ _ _ _ e
  have kk : Sub s1.heap (pushCells H3 scope.names) := ((k01.trans k12).trans k23).trans k34
  have kp : Kp s { s1 with heap := pushCells H3 scope.names } := k1.trans (Kp.heap (t := s1.toks) kk)
  have fresh : ∀ b, I ≤ b → s.heap.get? b = none := fun b hb => none_of_kp k1 (Heap.get_none_le (by lia))
  have va : ∀ b, VA scope env x (I + 2) b → I + 2 ≤ b := fun b e => by
    rcases e with rfl | ⟨e1, e2⟩
    · exact Nat.le_refl _
    · exact Nat.le_of_lt (ce_addr K e1 e2)
  have hO : CeOk scope env x (I + 2) (pushCells H3 scope.names) := by
    refine ⟨⟨fun _ => none, ?_⟩, fun hx => ?_⟩
    · have : H3.Ns (I + 2) (fun _ => none) := by rw [← hH3, ← sL]; exact Heap.Ns.new _ _
      exact this.keeps k34
    · obtain ⟨c, e1, e2, e3⟩ := cellsFrom_own scope.names H3 (closOf env.cells scope.names []) x K.once (mem_of_lookup hx)
      rw [sC] at e1 e3
      exact ⟨c, none, e1, e2, Nat.ne_of_gt (by lia)⟩
  have hst : St 0 (pushCells H3 scope.names) := W.frame _ _ _ st fun b _ o e => ((k12.trans k23).trans k34) b o e
  have hacc : (pushCells H3 scope.names).PlainList (I + 1) #[] := ⟨_, (k23.trans k34) _ _ (by rw [← hH2, ← sI]; exact Heap.get?_push_size _ rfl)⟩
  have loop : codeAny (model prog w) A (.compLoop (.ListComp elt [⟨.Name x px, iter, ifs, 0⟩] scope pos) 0 (.ref I) (.ref (I + 1)) (CE scope env (I + 2))) (compPost (model prog w) A E use Q (.ref (I + 1)) (I + 2)) { s1 with heap := pushCells H3 scope.names } := by
    refine comp_turns (P := P) (h := h) (s := s) (ds := ds) K p f hs hP kp (hnn ▸ W) hst hlv (fresh _ (Nat.le_refl _)) (fresh _ (by lia)) (fun b e => fresh b (by have := va b e; lia)) (Nat.ne_of_lt (by lia))
      (fun e => by have := va _ e; lia) (fun e => by have := va _ e; lia) (fun b hb => ?_) (fun i y di hy hdi => ?_) hO hacc hn (fun h' i di v a b c e => body K _ h' i di v a b c (e.mono fun _ _ => trivial)) fun s' k' O' r' => ?_
    · have : @LE.le Nat _ b I := by
        rcases hfp b hb with e | e
        · exact Nat.le_of_eq e
        · exact Nat.le_of_lt e.2
      exact ⟨Nat.ne_of_lt (by lia), fun e => by have := va _ e; lia⟩
    · have z := (hrd i y di hy hdi).dom
      refine (z.sub kk).mono fun b e => ⟨e.1, fun q => ?_⟩
      have hlt : @LT.lt Nat _ b I := Nat.lt_of_lt_of_eq e.2 hI
      rcases q with q | q | q
      · exact Nat.ne_of_lt hlt q
      · exact Nat.ne_of_lt (Nat.lt_succ_of_lt hlt) q
      · have := va _ q; lia
    · refine hQ s' _ _ k' O'.ns (fresh _ (by lia)) (r'.mono fun b e => ⟨e.1, fun q => e.2.2 (.inl q)⟩)
  exact codeAny_compStart_list loop (W.self 0 _ _ _ hst loop)
theorem ev_comp {elt iter : Expr} {x : Str} {px pos : Pos} {ifs : List Expr} {scope : Scope} {d : D} {ds : List D}
    (K : ScOk scope env x) (p : Nat → Bool) (f : Nat → D) (h1 : Ev prog w A env P h iter d) (src : ∀ (P : Addr → Prop) (s : Shared) (v : Value), Rd P s.heap d v → Src prog w A P s v ds)
    (hP : ∀ b, P b → Dom h b) (hn : ds.length ≤ 1000)
    (body : ScOk scope env x → ∀ (C : Addr) (h' : Heap) (i : Nat) (di : D) (v : Value), Sub h h' → Looks (CE scope env C) h' x v → ds[i]? = some di → Rd All h' di v →
      TrL prog w A (CE scope env C) h' ifs (p i) ∧ (p i = true → Ev prog w A (CE scope env C) P h' elt (f i)))
    (hfs : ∀ y, foldedSetIterable iter env y = pure y := by intro _; rfl) :
    Ev prog w A env P h (.ListComp elt [⟨.Name x px, iter, ifs, 0⟩] scope pos) (.list (((List.range ds.length).filter p).map f)) := fun s hs Q E hQ => by
  rw [eval_ListComp]
  refine comp_go (use := none) K p f h1 src hP hn hs body (fun s' L C k hm hC r => ?_) hfs
  obtain ⟨m, hm⟩ := hm
  refine ⟨m, hm, fun h' hsb => hQ _ { s' with heap := h' } ⟨fun b o e => (hsb.2 b (fun q => by rw [q, hC] at e; cases e)).trans (k.keep b o e), k.os, k.gens, k.bare⟩ ?_⟩
  exact r.on (fun a e => e.1) fun a o e q => (hsb.2 a e.2).trans q
end
end Mine
end
noncomputable section
open PySem PySem.W PyProof.Rows
set_option Elab.async false
set_option autoImplicit false
set_option linter.unusedVariables false
set_option linter.unusedSimpArgs false
namespace Mine
mutual
theorem Rd.there {P : Addr → Prop} {h : Heap} : ∀ {d : D} {v : Value}, Rd P h d v → Rd (fun b => P b ∧ Dom h b) h d v
  | .none, _, r => by simpa [Rd] using r
  | .bool _, _, r => by simpa [Rd] using r
  | .int _, _, r => by simpa [Rd] using r
  | .str _, _, r => by simpa [Rd] using r
  | .bytes _, _, r => by simpa [Rd] using r
  | .addr _, _, r => by simpa [Rd] using r
  | .list xs, v, r => by
    simp only [Rd] at r ⊢
    obtain ⟨a, vs, e1, e2, e3, e4⟩ := r
    exact ⟨a, vs, e1, ⟨e2, let ⟨o, ho, _⟩ := e3; ⟨o, ho⟩⟩, e3, RdL.there e4⟩
  | .tuple xs, v, r => by
    simp only [Rd] at r ⊢
    obtain ⟨a, vs, e1, e2, e3, e4⟩ := r
    exact ⟨a, vs, e1, ⟨e2, let ⟨o, ho, _⟩ := e3; ⟨o, ho⟩⟩, e3, RdL.there e4⟩
  | .range x y z, v, r => by
    simp only [Rd] at r ⊢
    obtain ⟨a, t, u, w, e1, e2, e3⟩ := r
    exact ⟨a, t, u, w, e1, ⟨e2, ⟨_, e3⟩⟩, e3⟩
theorem RdL.there {P : Addr → Prop} {h : Heap} : ∀ {ds : List D} {vs : List Value}, RdL P h ds vs → RdL (fun b => P b ∧ Dom h b) h ds vs
  | [], _, r => by simpa [RdL] using r
  | d :: ds, vs, r => by
    simp only [RdL] at r ⊢
    obtain ⟨v, q, e1, e2, e3⟩ := r
    exact ⟨v, q, e1, Rd.there e2, RdL.there e3⟩
end
/-- The name x holds d. -/
def Has (env : Env) (P : Addr → Prop) (h : Heap) (x : Str) (d : D) : Prop := ∃ v, Looks env h x v ∧ Rd P h d v
theorem Has.sub {env : Env} {P : Addr → Prop} {h h' : Heap} {x : Str} {d : D} (H : Has env P h x d) (k : Sub h h') : Has env P h' x d :=
  let ⟨v, l, r⟩ := H; ⟨v, l.sub k, r.sub k⟩
theorem Has.free {scope : Scope} {env : Env} {x y : Str} {C : Addr} {h : Heap} {P : Addr → Prop} {d : D} (K : ScOk scope env x) (H : Has env P h y d) (hy : scope.names.lookup y = some .free := by with_unfolding_all rfl) : Has (CE scope env C) P h y d :=
  let ⟨v, l, r⟩ := H; ⟨v, K.free hy l, r⟩
/-- What may change while a frame runs: its own names, and X. -/
def XX (env : Env) (X : Addr → Prop) (b : Addr) : Prop := FrA env b ∨ X b
/-- What a frame's values are made of. -/
def PP (G : Addr → Prop) (env : Env) (X : Addr → Prop) (h : Heap) (b : Addr) : Prop := (¬ XX env X b ∧ G b) ∧ Dom h b
/-- A frame at work: begun in sb, looked at from sa on. Its values lie within G. -/
structure Sta (sb : Shared) (G : Addr → Prop) (env : Env) (X : Addr → Prop) (sa : Shared) (vars : List (Str × D)) (s : Shared) : Prop where
  kx : Kx (XX env X) sa s
  fs : ∃ ρ, Fs sb.heap env ρ s.heap ∧ ∀ x d, vars.lookup x = some d → (env.kindOf x = some .local ∨ env.kindOf x = some .cell) ∧ (x == ("__debug__" : Str)) = false ∧ ∃ v, ρ x = some v ∧ Rd (fun b => ¬ XX env X b ∧ G b) s.heap d v
  live : ∀ b, XX env X b → Dom s.heap b
  new : ∀ b, XX env X b → sb.heap.get? b = none
  fresh : ∀ b, s.heap.get? b = none → G b
section
variable {sb : Shared} {G : Addr → Prop} {env : Env} {X : Addr → Prop} {sa s : Shared} {vars : List (Str × D)}
theorem Sta.has (S : Sta sb G env X sa vars s) {x : Str} {d : D} (hx : vars.lookup x = some d) : Has env (PP G env X s.heap) s.heap x d := by
  obtain ⟨ρ, F, hv⟩ := S.fs
  obtain ⟨hk, hd, v, e, r⟩ := hv x d hx
  exact ⟨v, F.looks hk e hd, r.there⟩
theorem Sta.keep (S : Sta sb G env X sa vars s) : Sub sb.heap s.heap := let ⟨_, F, _⟩ := S.fs; F.keep
theorem Sta.weak {vars' : List (Str × D)} (S : Sta sb G env X sa vars s) (h : ∀ p ∈ vars', vars.lookup p.1 = some p.2) : Sta sb G env X sa vars' s :=
  ⟨S.kx, let ⟨ρ, F, hv⟩ := S.fs; ⟨ρ, F, fun x d e => hv x d (h (x, d) (mem_of_lookup e))⟩, S.live, S.new, S.fresh⟩
theorem Sta.base {sa' : Shared} (S : Sta sb G env X sa vars s) (k : Kx (XX env X) sa' sa) : Sta sb G env X sa' vars s := ⟨k.trans S.kx, S.fs, S.live, S.new, S.fresh⟩
theorem Sta.here (S : Sta sb G env X sa vars s) : Sta sb G env X s vars s := ⟨Kx.refl _ _, S.fs, S.live, S.new, S.fresh⟩
theorem Sta.old (S : Sta sb G env X sa vars s) {b : Addr} (e : s.heap.get? b = none) : sb.heap.get? b = none := by
  cases q : sb.heap.get? b with
  | none => rfl
  | some o => have := S.keep b o q; rw [e] at this; cases this
theorem Sta.notX (S : Sta sb G env X sa vars s) {b : Addr} (e : s.heap.get? b = none) : ¬ XX env X b := fun q => by obtain ⟨o, ho⟩ := S.live b q; rw [e] at ho; cases ho
theorem Kx.dom {Y : Addr → Prop} {s s' : Shared} (k : Kx Y s s') {b : Addr} (e : Dom s.heap b) : Dom s'.heap b := by
  cases q : s'.heap.get? b with
  | some o => exact ⟨o, q⟩
  | none => obtain ⟨o, ho⟩ := e; rw [k.live b q] at ho; cases ho
/-- On to a state that keeps all but what may change here, and the frame. -/
theorem Sta.on {s' : Shared} {Y : Addr → Prop} (S : Sta sb G env X sa vars s) (k : Kx Y s s') (hY : ∀ b, Y b → X b ∧ ¬ FrA env b) : Sta sb G env X sa vars s' := by
  obtain ⟨ρ, F, hv⟩ := S.fs
  refine ⟨S.kx.trans (k.mono fun b e => .inr (hY b e).1), ⟨ρ, F.on fun b o e q => k.keep b o (fun z => ?_) q, fun x d e => ?_⟩, fun b e => k.dom (S.live b e), S.new, fun b e => S.fresh b (k.live b e)⟩
  · rcases e with e | e
    · exact (hY b z).2 e
    · rw [S.new b (.inr (hY b z).1)] at e; cases e
  · obtain ⟨h1, h2, v, h3, h4⟩ := hv x d e
    exact ⟨h1, h2, v, h3, h4.on (fun _ e => e) fun a o e q => k.keep a o (fun z => e.1 (.inr (hY a z).1)) q⟩
theorem Sta.kp {s' : Shared} (S : Sta sb G env X sa vars s) (k : Kp s s') : Sta sb G env X sa vars s' := S.on (Y := fun _ => False) k.kx fun _ e => e.elim
/-- What an expression gave may be kept. -/
theorem Sta.good (S : Sta sb G env X sa vars s) {b : Addr} (e : Nw (PP G env X s.heap) s b) : ¬ XX env X b ∧ G b := by
  rcases e with e | e
  · exact e.1
  · exact ⟨S.notX e, S.fresh b e⟩
theorem Sta.val (S : Sta sb G env X sa vars s) {s' : Shared} {d : D} {v : Value} (r : Rd (Nw (PP G env X s.heap) s) s'.heap d v) : Rd (fun b => ¬ XX env X b ∧ G b) s'.heap d v :=
  r.mono fun b e => S.good e
/-- A new object may change from now on. -/
theorem Sta.grow {s' : Shared} {C : Addr} (S : Sta sb G env X sa vars s) (k : Kp s s') (hC : s.heap.get? C = none) (hD : Dom s'.heap C) : Sta sb G env (fun b => X b ∨ b = C) sa vars s' := by
  have S' := S.kp k
  obtain ⟨ρ, F, hv⟩ := S.fs
  refine ⟨S'.kx.mono fun b e => e.elim .inl fun e => .inr (.inl e), ⟨ρ, F.sub k.keep, fun x d e => ?_⟩, fun b e => ?_, fun b e => ?_, S'.fresh⟩
  · obtain ⟨h1, h2, v, h3, h4⟩ := hv x d e
    refine ⟨h1, h2, v, h3, (h4.there.sub k.keep).mono fun b e => ⟨fun q => ?_, e.1.2⟩⟩
    rcases q with q | q | q
    · exact e.1.1 (.inl q)
    · exact e.1.1 (.inr q)
    · obtain ⟨o, ho⟩ := e.2; rw [q, hC] at ho; cases ho
  · rcases e with e | e | e
    · exact S'.live b (.inl e)
    · exact S'.live b (.inr e)
    · rw [e]; exact hD
  · rcases e with e | e | e
    · exact S.new b (.inl e)
    · exact S.new b (.inr e)
    · rw [e]; exact S.old hC
/-- It has changed for the last time. -/
theorem Sta.shut {C : Addr} (S : Sta sb G env (fun b => X b ∨ b = C) sa vars s) (hsa : sa.heap.get? C = none) : Sta sb G env X sa vars s := by
  obtain ⟨ρ, F, hv⟩ := S.fs
  have into : ∀ b, XX env X b → XX env (fun b => X b ∨ b = C) b := fun b e => e.elim .inl fun e => .inr (.inl e)
  refine ⟨⟨fun b o n e => S.kx.keep b o (fun z => ?_) e, S.kx.live, S.kx.os, S.kx.gens, S.kx.bare⟩, ⟨ρ, F, fun x d e => ?_⟩, fun b e => S.live b (into b e), fun b e => S.new b (into b e), S.fresh⟩
  · rcases z with z | z | z
    · exact n (.inl z)
    · exact n (.inr z)
    · rw [z, hsa] at e; cases e
  · obtain ⟨h1, h2, v, h3, h4⟩ := hv x d e
    exact ⟨h1, h2, v, h3, h4.mono fun b e => ⟨fun q => e.1 (into b q), e.2⟩⟩
/-- A new object that the frame's values keep clear of. -/
theorem Sta.avoid {s' : Shared} {C : Addr} (S : Sta sb G env X sa vars s) (k : Kp s s') (hC : s.heap.get? C = none) (hD : Dom s'.heap C) : Sta sb (fun b => G b ∧ b ≠ C) env X sa vars s' := by
  have S' := S.kp k
  obtain ⟨ρ, F, hv⟩ := S.fs
  refine ⟨S'.kx, ⟨ρ, F.sub k.keep, fun x d e => ?_⟩, S'.live, S'.new, fun b e => ⟨S'.fresh b e, fun q => ?_⟩⟩
  · obtain ⟨h1, h2, v, h3, h4⟩ := hv x d e
    refine ⟨h1, h2, v, h3, (h4.there.sub k.keep).mono fun b e => ⟨e.1.1, e.1.2, fun q => ?_⟩⟩
    obtain ⟨o, ho⟩ := e.2; rw [q, hC] at ho; cases ho
  · obtain ⟨o, ho⟩ := hD; rw [q, ho] at e; cases e
/-- It changes. -/
theorem Sta.turn {s' : Shared} {C : Addr} (S : Sta sb (fun b => G b ∧ b ≠ C) env X sa vars s) (k : Kx (· = C) s s') (hx : ¬ XX env X C) (hsa : sa.heap.get? C = none) (hsb : sb.heap.get? C = none) : Sta sb (fun b => G b ∧ b ≠ C) env X sa vars s' := by
  obtain ⟨ρ, F, hv⟩ := S.fs
  refine ⟨⟨fun b o n e => k.keep b o (fun z => by rw [z, hsa] at e; cases e) (S.kx.keep b o n e), fun b e => S.kx.live b (k.live b e), k.os.trans S.kx.os, fun g z e => k.gens g z (S.kx.gens g z e), fun e => k.bare (S.kx.bare e)⟩,
    ⟨ρ, F.on fun b o e q => k.keep b o (fun z => ?_) q, fun x d e => ?_⟩, fun b e => k.dom (S.live b e), S.new, fun b e => S.fresh b (k.live b e)⟩
  · rcases e with e | e
    · exact hx (.inl (z ▸ e))
    · rw [z, hsb] at e; cases e
  · obtain ⟨h1, h2, v, h3, h4⟩ := hv x d e
    exact ⟨h1, h2, v, h3, h4.on (fun _ e => e) fun a o e q => k.keep a o e.2.2 q⟩
/-- It is let go. -/
theorem Sta.drop {s' : Shared} {C : Addr} (S : Sta sb (fun b => G b ∧ b ≠ C) env X sa vars s) (k : Kw (· = C) s s') (hx : ¬ XX env X C) (hsa : sa.heap.get? C = none) (hsb : sb.heap.get? C = none) (hG : G C) : Sta sb G env X sa vars s' := by
  obtain ⟨ρ, F, hv⟩ := S.fs
  have lv : ∀ b, b ≠ C → s'.heap.get? b = none → s.heap.get? b = none := fun b q e => by
    cases z : s.heap.get? b with
    | none => rfl
    | some o => rw [k.keep b o q z] at e; cases e
  refine ⟨⟨fun b o n e => k.keep b o (fun z => by rw [z, hsa] at e; cases e) (S.kx.keep b o n e), fun b e => ?_, k.os.trans S.kx.os, fun g z e => k.gens g z (S.kx.gens g z e), fun e => k.bare (S.kx.bare e)⟩,
    ⟨ρ, F.on fun b o e q => k.keep b o (fun z => ?_) q, fun x d e => ?_⟩, fun b e => ?_, S.new, fun b e => ?_⟩
  · by_cases q : b = C
    · rw [q]; exact hsa
    · exact S.kx.live b (lv b q e)
  · rcases e with e | e
    · exact hx (.inl (z ▸ e))
    · rw [z, hsb] at e; cases e
  · obtain ⟨h1, h2, v, h3, h4⟩ := hv x d e
    exact ⟨h1, h2, v, h3, h4.on (fun _ e => ⟨e.1, e.2.1⟩) fun a o e q => k.keep a o e.2.2 q⟩
  · obtain ⟨o, ho⟩ := S.live b e
    exact ⟨o, k.keep b o (fun q => hx (q ▸ e)) ho⟩
  · by_cases q : b = C
    · rw [q]; exact hG
    · exact (S.fresh b (lv b q e)).1
theorem Kw.same {s : Shared} {h : Heap} {tk : Nat} {a : Addr} (hs : Heap.SameBut a s.heap h) : Kw (· = a) s { s with heap := h, toks := tk } := ⟨fun b o n e => (hs.2 b n).trans e, rfl, fun _ _ e => e, fun e => e⟩
variable {prog : Program} {w : World} {A : Around}
/-- A name takes a value. -/
theorem Sta.store {E : Value → Shared → Prop} {x : Str} {d : D} {v : Value} {Q : Unit → Shared → Prop} (S : Sta sb G env X sa vars s) (r : Rd (fun b => ¬ XX env X b ∧ G b) s.heap d v)
    (hk : env.kindOf x = some .local ∨ env.kindOf x = some .cell) (hd : (x == ("__debug__" : Str)) = false)
    (hQ : ∀ s', Kx (FrA env) s s' → Sta sb G env X sa ((x, d) :: vars) s' → Q () s') : wpAny (model prog w) A (storeName env x v) Q E s := by
  obtain ⟨ρ, F, hv⟩ := S.fs
  refine fs_store F hk fun s' k F' => hQ s' k ⟨S.kx.trans (k.mono fun b e => .inl e), ⟨_, F', fun y dy e => ?_⟩, fun b e => k.dom (S.live b e), S.new, fun b e => S.fresh b (k.live b e)⟩
  rw [List.lookup_cons] at e
  by_cases q : y = x
  · subst q
    simp only [beq_self_eq_true] at e
    cases e
    exact ⟨hk, hd, v, by simp, r.on (fun _ e => e) fun a o e q => k.keep a o (fun z => e.1 (.inl z)) q⟩
  · have : (y == x) = false := by simpa using q
    rw [this] at e
    obtain ⟨h1, h2, v', h3, h4⟩ := hv y dy e
    exact ⟨h1, h2, v', by simp [q, h3], h4.on (fun _ e => e) fun a o e q => k.keep a o (fun z => e.1 (.inl z)) q⟩
theorem st_assign {E : Value → Shared → Prop} {x : Str} {px pos : Pos} {value : Expr} {d : D} {Q : Flow → Shared → Prop} (S : Sta sb G env X sa vars s) (hv : Ev prog w A env (PP G env X s.heap) s.heap value d)
    (hQ : ∀ s', Kx (FrA env) s s' → Sta sb G env X sa ((x, d) :: vars) s' → Q .next s')
    (hk : env.kindOf x = some .local ∨ env.kindOf x = some .cell := by first | exact Or.inl (by with_unfolding_all rfl) | exact Or.inr (by with_unfolding_all rfl)) (hd : (x == ("__debug__" : Str)) = false := by decide)
    (hs : swapsWith value (some (.Name x px)) pos.line env = pure false := by with_unfolding_all rfl) : wpAny (model prog w) A (exec (.Assign [.Name x px] value pos) env) Q E s := by
  refine wpAny_Assign_Name (hv s (.refl _) _ _ fun v s1 k1 r1 => ?_) hs
  exact (S.kp k1).store (S.val r1) hk hd fun s' k S' => hQ s' (k1.kx.trans k) S'
/-- The same for a comprehension that is laid into a local name. -/
theorem st_assign_comp {E : Value → Shared → Prop} {y : Str} {py spos : Pos} {Q : Flow → Shared → Prop} {elt iter : Expr} {x : Str} {px pos : Pos} {ifs : List Expr} {scope : Scope} {d : D} {ds : List D}
    (S : Sta sb G env X sa vars s) (K : ScOk scope env x) (p : Nat → Bool) (f : Nat → D) (h1 : Ev prog w A env (PP G env X s.heap) s.heap iter d) (src : ∀ (P : Addr → Prop) (s : Shared) (v : Value), Rd P s.heap d v → Src prog w A P s v ds)
    (hn : ds.length ≤ 1000)
    (body : ScOk scope env x → ∀ (C : Addr) (h' : Heap) (i : Nat) (di : D) (v : Value), Sub s.heap h' → Looks (CE scope env C) h' x v → ds[i]? = some di → Rd All h' di v →
      TrL prog w A (CE scope env C) h' ifs (p i) ∧ (p i = true → Ev prog w A (CE scope env C) (PP G env X s.heap) h' elt (f i)))
    (hQ : ∀ s', Kx (FrA env) s s' → Sta sb G env X sa ((y, .list (((List.range ds.length).filter p).map f)) :: vars) s' → Q .next s')
    (hk : env.kindOf y = some .local ∨ env.kindOf y = some .cell := by first | exact Or.inl (by with_unfolding_all rfl) | exact Or.inr (by with_unfolding_all rfl)) (hd : (y == ("__debug__" : Str)) = false := by decide)
    (hs : swapsWith (.ListComp elt [⟨.Name x px, iter, ifs, 0⟩] scope pos) (some (.Name y py)) spos.line env = pure true := by with_unfolding_all rfl)
    (hfs : ∀ y, foldedSetIterable iter env y = pure y := by intro _; rfl) :
    wpAny (model prog w) A (exec (.Assign [.Name y py] (.ListComp elt [⟨.Name x px, iter, ifs, 0⟩] scope pos) spos) env) Q E s := by
  rw [exec_Assign_Name_used _ _ _ _ hs]
  refine wpAny_bind (wpAny_standAt (wpAny_bind ?_))
  show wpAny _ A (do let _ ← comprehension (.ListComp elt [⟨.Name x px, iter, ifs, 0⟩] scope pos) scope env _ (newList []) false (eval iter env) (some (assign (.Name y py) env))) _ _ s
  refine wpAny_bind (wpAny_mono (comp_go (use := some (assign (.Name y py) env)) (Q := fun _ s' => Q .next s') K p f h1 src (fun b e => e.2) hn (.refl _) body (fun s' L C k hm hC r => ?_) hfs) (fun _ s' hq => wpAny_pure (wpAny_pure hq)) fun _ _ e => e)
  have hCX : ¬ XX env X C := S.notX hC
  show wpAny _ A (assign (.Name y py) env (.ref L)) _ _ s'
  obtain ⟨m, hm⟩ := hm
  have hsa : sa.heap.get? C = none := S.kx.live C hC
  have rv : Rd (fun b => ¬ XX env X b ∧ G b ∧ b ≠ C) s'.heap (.list (((List.range ds.length).filter p).map f)) (.ref L) :=
    Rd.mono (fun b e => ⟨(S.good e.1).1, (S.good e.1).2, e.2⟩) r
  refine wpAny_assign_Name ((S.avoid k hC (Ns.some hm)).store (d := .list (((List.range ds.length).filter p).map f)) rv hk hd fun s2 k2 S2 => ?_)
  refine ⟨m, hm.at' fun o e => k2.keep C o (fun z => hCX (.inl z)) e, fun h' hsb => ?_⟩
  refine hQ _ ⟨fun b o n e => (hsb.2 b (fun q => by rw [q, hC] at e; cases e)).trans (k2.keep b o n (k.keep b o e)), fun b e => ?_, k2.os.trans k.os, fun g z e => k2.gens g z (k.gens g z e), fun e => k2.bare (k.bare e)⟩ (S2.drop (Kw.same (tk := s2.toks) hsb) hCX hsa (S.old hC) (S.fresh C hC))
  by_cases q : b = C
  · rw [q]; exact hC
  · refine none_of_kp k (k2.live b ?_)
    rw [← hsb.2 b q]; exact e
end
end Mine
end
noncomputable section
open PySem PySem.W PyProof.Rows
set_option Elab.async false
set_option autoImplicit false
set_option linter.unusedVariables false
set_option linter.unusedSimpArgs false
namespace Mine
section
variable {sb : Shared} {G : Addr → Prop} {env : Env} {X : Addr → Prop} {sa s : Shared} {vars : List (Str × D)}
variable {prog : Program} {w : World} {A : Around}
def LoopPost (sb : Shared) (G : Addr → Prop) (env : Env) (X : Addr → Prop) (s1 : Shared) (V : List (Str × D)) (J : Shared → Prop) (Q : Flow → Shared → Prop) (f : Flow) (s3 : Shared) : Prop := match f with
  | .next | .cont => Sta sb G env X s1 V s3 ∧ J s3
  | .brk => Q .next s3
  | .ret v => Q (.ret v) s3
/-- A for loop, over a frame. -/
theorem sta_for {x : Str} {px pos : Pos} {iter : Expr} {body : List Stmt} {d : D} {ds : List D} {Q : Flow → Shared → Prop} {E : Value → Shared → Prop} (V : Nat → List (Str × D)) (Jx : Nat → Shared → Prop)
    (S : Sta sb G env X sa vars s) (h1 : Ev prog w A env (PP G env X s.heap) s.heap iter d) (src : ∀ (P : Addr → Prop) (s : Shared) (v : Value), Rd P s.heap d v → Src prog w A P s v ds)
    (V0 : ∀ p ∈ V 0, vars.lookup p.1 = some p.2) (J0 : ∀ s', Kp s s' → Jx 0 s') (hJ : ∀ I i s1 s2, ¬ XX env X I → Jx i s1 → Kw (· = I) s1 s2 → Jx i s2) (hJf : ∀ i s1 s2, Jx i s1 → Kx (FrA env) s1 s2 → Jx i s2)
    (turn : ∀ G' i di s1, ds[i]? = some di → (∀ b, G' b → G b) → Kx (XX env X) sa s1 → Sta sb G' env X s1 ((x, di) :: V i) s1 → Jx i s1 →
      wpAny (model prog w) A (execs body env) (LoopPost sb G' env X s1 (V (i + 1)) (Jx (i + 1)) Q) (loopE prog w A env E) s1)
    (done : ∀ s', Sta sb G env X sa (V ds.length) s' → Jx ds.length s' → Q .next s')
    (hk : env.kindOf x = some .local ∨ env.kindOf x = some .cell := by first | exact Or.inl (by with_unfolding_all rfl) | exact Or.inr (by with_unfolding_all rfl)) (hd : (x == ("__debug__" : Str)) = false := by decide)
    (hs : ∀ x, foldedSetIterable iter env x = pure x := by intro _; rfl) (ht : ∀ it v, letOwnedTupleGo (.Name x px) it v = pure () := by intro _ _; rfl) :
    wpAny (model prog w) A (exec (.For (.Name x px) iter body [] pos) env) Q E s := by
  have hnI : ∀ I, s.heap.get? I = none → ¬ XX env X I := fun I e => S.notX e
  refine st_for (X := XX env X) (ds := ds) (J := fun I i s1 => Sta sb (fun b => G b ∧ b ≠ I) env X sa (V i) s1 ∧ Jx i s1) h1 src (fun b e => e.1.1) S.live
    (fun I s' k hI hl => ⟨(S.weak V0).avoid k hI hl, J0 s' k⟩)
    (fun I i s1 s2 hI j k => ⟨j.1.turn k (hnI I hI) (S.kx.live I hI) (S.old hI), hJ I i s1 s2 (hnI I hI) j.2 k.kw⟩)
    (fun I i di s1 v hI hl kx hdi j r => ?_) (fun I s1 s2 hI kx j kw => ?_) hs ht
  · have rv : Rd (fun b => ¬ XX env X b ∧ G b ∧ b ≠ I) s1.heap di v := r.mono fun b e => ⟨e.2.2, (S.good e.1).2, e.2.1⟩
    refine j.1.here.store rv hk hd fun s2 k2 S2 => ?_
    refine wpAny_mono (turn _ i di s2 hdi (fun b e => e.1) ((S.kx.trans kx).trans (k2.mono fun b e => .inl e)) S2.here (hJf i s1 s2 j.2 k2)) (fun f s3 q => ?_) fun _ _ e => e
    have fin : Sta sb (fun b => G b ∧ b ≠ I) env X s2 (V (i + 1)) s3 ∧ Jx (i + 1) s3 → Kx (XX env X) s1 s3 ∧ Sta sb (fun b => G b ∧ b ≠ I) env X sa (V (i + 1)) s3 ∧ Jx (i + 1) s3 := fun q =>
      ⟨(k2.mono fun b e => .inl e).trans q.1.kx, (q.1.base (k2.mono fun b e => .inl e)).base j.1.kx, q.2⟩
    cases f with
    | next => exact fin q
    | cont => exact fin q
    | brk => exact q
    | ret v => exact q
  · exact done s2 (j.1.drop kw (hnI I hI) (S.kx.live I hI) (S.old hI) (S.fresh I hI)) (hJ I _ s1 s2 (hnI I hI) j.2 kw)
end
end Mine
end
noncomputable section
open PySem PySem.W PyProof.Rows
set_option Elab.async false
set_option autoImplicit false
set_option linter.unusedVariables false
set_option linter.unusedSimpArgs false
namespace Mine
section
variable {sb : Shared} {G : Addr → Prop} {env : Env} {X : Addr → Prop} {sa s : Shared} {vars : List (Str × D)}
variable {prog : Program} {w : World} {A : Around}
/-- What a call gives back. -/
def Ret (sb : Shared) (P0 : Addr → Prop) (d : D) (f : Flow) (s' : Shared) : Prop := Kp sb s' ∧ Rd (Nw P0 sb) s'.heap d (match f with | .ret v => v | _ => .none)
theorem Sta.sbKp (S : Sta sb G env X sa vars s) (k : Kp sb sa) : Kp sb s :=
  ⟨S.keep, S.kx.os.trans k.os, fun g z e => S.kx.gens g z (k.gens g z e), fun e => S.kx.bare (k.bare e)⟩
theorem st_return {E : Value → Shared → Prop} {P0 : Addr → Prop} {e : Expr} {pos : Pos} {d : D} {Q : Flow → Shared → Prop} (S : Sta sb G env X sa vars s) (k : Kp sb sa) (hG : ∀ b, G b → Nw P0 sb b)
    (h1 : Ev prog w A env (PP G env X s.heap) s.heap e d) (hQ : ∀ v s', Ret sb P0 d (.ret v) s' → Q (.ret v) s') : wpAny (model prog w) A (exec (.Return (some e) pos) env) Q E s :=
  wpAny_Return_some (h1 s (.refl _) _ _ fun v s' k' r => hQ v s' ⟨(S.sbKp k).trans k', (S.val r).mono fun b e => hG b e.2⟩)
theorem st_if {E : Value → Shared → Prop} {test : Expr} {body orelse : List Stmt} {pos : Pos} {b : Bool} {Q : Flow → Shared → Prop} (ht : Tr prog w A env s.heap test b)
    (h1 : ∀ s', Kp s s' → b = true → wpAny (model prog w) A (execs body env) Q E s') (h2 : ∀ s', Kp s s' → b = false → wpAny (model prog w) A (execs orelse env) Q E s') :
    wpAny (model prog w) A (exec (.If test body orelse pos) env) Q E s :=
  wpAny_If (ht s (.refl _) _ _ fun s' k => by cases b with | true => exact h1 s' k rfl | false => exact h2 s' k rfl)
theorem ev_ifexp {P : Addr → Prop} {h : Heap} {test body orelse : Expr} {pos : Pos} {b : Bool} {d : D} (ht : Tr prog w A env h test b) (h1 : b = true → Ev prog w A env P h body d) (h2 : b = false → Ev prog w A env P h orelse d) :
    Ev prog w A env P h (.IfExp test body orelse pos) d := fun s hs Q E hQ =>
  wpAny_IfExp (ht s hs _ _ fun s' k => by
    cases b with
    | true => exact h1 rfl s' (hs.trans k.keep) _ _ fun v s2 k2 r => hQ v s2 (k.trans k2) (r.mono fun _ e => e.kp k)
    | false => exact h2 rfl s' (hs.trans k.keep) _ _ fun v s2 k2 r => hQ v s2 (k.trans k2) (r.mono fun _ e => e.kp k))
/-- A while loop over a frame. -/
theorem sta_while {α : Type} {test : Expr} {body : List Stmt} {pos : Pos} {Q : Flow → Shared → Prop} {E : Value → Shared → Prop} (V : α → List (Str × D)) (μ : α → Nat) (c : α → Bool) (ok : α → Prop) (a0 : α)
    (S : Sta sb G env X sa vars s) (V0 : ∀ p ∈ V a0, vars.lookup p.1 = some p.2) (ok0 : ok a0)
    (test_ : ∀ a s1, ok a → Sta sb G env X sa (V a) s1 → Tr prog w A env s1.heap test (c a))
    (turn : ∀ a s1, ok a → Sta sb G env X sa (V a) s1 → c a = true → wpAny (model prog w) A (execs body env) (fun f s3 => match f with
        | .next | .cont => ∃ a', μ a' < μ a ∧ ok a' ∧ Sta sb G env X sa (V a') s3
        | .brk => Q .next s3
        | .ret v => Q (.ret v) s3) (loopE prog w A env E) s1)
    (done : ∀ a s', ok a → c a = false → Sta sb G env X sa (V a) s' → Q .next s') :
    wpAny (model prog w) A (exec (.While test body [] pos) env) Q E s := by
  refine wpAny_While (codeAny_whileLoop (fun n s1 => ∃ a, n = μ a ∧ ok a ∧ Sta sb G env X sa (V a) s1) (fun n s1 hn => ?_) (μ a0) ⟨a0, rfl, ok0, S.weak V0⟩)
  obtain ⟨a, rfl, hok, S1⟩ := hn
  refine test_ a s1 hok S1 s1 (.refl _) _ _ fun s2 k => ?_
  have S2 := S1.kp k
  cases hc : c a with
  | true =>
    refine wpAny_mono (turn a s2 hok S2 hc) (fun f s3 q => ?_) fun _ _ e => e
    cases f with
    | next => obtain ⟨a', h1, h2, h3⟩ := q; exact ⟨_, h1, a', rfl, h2, h3⟩
    | cont => obtain ⟨a', h1, h2, h3⟩ := q; exact ⟨_, h1, a', rfl, h2, h3⟩
    | brk => exact q
    | ret v => exact q
  | false => exact wpAny_execs_nil (done a s2 hok hc S2)
end
/-! A call of a function of the module's. -/
theorem bindL_at {kindOf : Str → Option NameKind} {x : Str} (hx : kindOf x = some .local) : ∀ (binds : List (Str × Value)) (m : Str → Option Value), (binds.map (·.1)).Nodup → bindL kindOf binds m x = (binds.lookup x).or (m x)
  | [], m, _ => rfl
  | (n, v) :: r, m, hn => by
    rw [List.map_cons, List.nodup_cons] at hn
    rw [bindL, bindL_at hx r _ hn.2, List.lookup_cons]
    by_cases q : x = n
    · subst q
      have : r.lookup x = none := by
        cases z : r.lookup x with
        | none => rfl
        | some v' => exact absurd (List.mem_map.mpr ⟨_, mem_of_lookup z, rfl⟩) hn.1
      simp [this, hx]
    · have : (x == n) = false := by simpa using q
      rw [this]
      split <;> simp [q]
theorem bindC_at {kindOf : Str → Option NameKind} {x : Str} (hx : kindOf x ≠ some .local) : ∀ (binds : List (Str × Value)) (m : Str → Option Value), (binds.map (·.1)).Nodup → bindC kindOf binds m x = (binds.lookup x).or (m x)
  | [], m, _ => rfl
  | (n, v) :: r, m, hn => by
    rw [List.map_cons, List.nodup_cons] at hn
    rw [bindC, bindC_at hx r _ hn.2, List.lookup_cons]
    by_cases q : x = n
    · subst q
      have : r.lookup x = none := by
        cases z : r.lookup x with
        | none => rfl
        | some v' => exact absurd (List.mem_map.mpr ⟨_, mem_of_lookup z, rfl⟩) hn.1
      simp [this, hx]
    · have : (x == n) = false := by simpa using q
      rw [this]
      split <;> simp [q]
theorem RdL.zip {P : Addr → Prop} {h : Heap} {x : Str} {d : D} : ∀ {names : List Str} {ds : List D} {vs : List Value}, RdL P h ds vs → (names.zip ds).lookup x = some d → ∃ v, (names.zip vs).lookup x = some v ∧ Rd P h d v
  | [], _, _, _, e => by simp at e
  | n :: ns, [], _, _, e => by simp at e
  | n :: ns, d' :: ds, vs, r, e => by
    obtain ⟨v, q, rfl, h1, h2⟩ := rdL_cons.mp r
    rw [List.zip_cons_cons, List.lookup_cons] at e ⊢
    cases z : x == n with
    | true => rw [z] at e; cases e; exact ⟨v, rfl, h1⟩
    | false => rw [z] at e; exact RdL.zip h2 e
theorem cellsFrom_isSome {x : Str} : ∀ (names : List (Str × NameKind)) (n : Nat) (acc : List (Str × Addr)), ((x, NameKind.cell) ∈ names ∨ (acc.lookup x).isSome = true) → ((cellsFrom n names acc).lookup x).isSome = true
  | [], n, acc, h => by rcases h with h | h; cases h; exact h
  | (m, k) :: r, n, acc, h => by
    unfold cellsFrom
    split
    · refine cellsFrom_isSome r _ _ ?_
      by_cases q : x = m
      · right; subst q; simp
      · rcases h with h | h
        · rcases List.mem_cons.mp h with e | h
          · cases e; exact absurd rfl q
          · exact .inl h
        · right
          have : (x == m) = false := by simpa using q
          rw [List.lookup_cons, this]; exact h
    · rename_i hk
      refine cellsFrom_isSome r _ _ ?_
      rcases h with h | h
      · rcases List.mem_cons.mp h with e | h
        · cases e; exact absurd rfl hk
        · exact .inl h
      · exact .inr h
structure FnAt (h : Heap) (a : Addr) (d : DefRec) (cd : Value) : Prop where
  obj : ∃ o pm doc, h.get? a = some o ∧ o.data = .func (Calls.docDef d.name d.params d.body d.scope pm cd doc)
  code : h.CodeRec cd d.name
  lim : h.NoLimit
theorem FnAt.sub {h h' : Heap} {a : Addr} {d : DefRec} {cd : Value} (F : FnAt h a d cd) (k : Sub h h') : FnAt h' a d cd :=
  ⟨let ⟨o, pm, doc, h1, h2⟩ := F.obj; ⟨o, pm, doc, k _ _ h1, h2⟩, F.code.keeps k, F.lim.keeps k⟩
/-- What is plain of a function's head. -/
structure FnOk (d : DefRec) (names : List Str) : Prop where
  bind : ∀ (pm cd doc : Value) (vs : List Value), vs.length = names.length → bindArgs (Calls.docDef d.name d.params d.body d.scope pm cd doc) ⟨vs, []⟩ = pure (names.zip vs)
  once : names.Nodup
  kinds : ∀ x ∈ names, (d.scope.names.lookup x = some .local ∨ d.scope.names.lookup x = some .cell) ∧ (x == ("__debug__" : Str)) = false
  co : d.scope.isCoroutine = false
  fn : d.scope.kind = .function
  cells : ((cellsFrom 0 d.scope.names []).map (·.1)).Nodup
section
variable {prog : Program} {w : World} {A : Around} {h : Heap}
theorem fn_start {d : DefRec} {names : List Str} {ds : List D} {a : Addr} {cd : Value} {P0 : Addr → Prop} {sb : Shared} {vs : List Value} (K : FnOk d names) (hl : ds.length = names.length) (r : RdL P0 sb.heap ds vs)
    {h₁ : Heap} {tk : Nat} (F : Fr sb.heap sb.heap.objs.size h₁ (bindL (envOfC d.name d.scope sb.heap.objs.size a cd).kindOf (names.zip vs) fun _ => none))
    (C : Cl sb.heap.objs.size (cellsFrom (sb.heap.objs.size + 1) d.scope.names []) h₁ (bindC (envOfC d.name d.scope sb.heap.objs.size a cd).kindOf (names.zip vs) fun _ => none)) :
    Sta sb (Nw P0 sb) (envOfC d.name d.scope sb.heap.objs.size a cd) (fun _ => False) { sb with heap := h₁, toks := tk } (names.zip ds) { sb with heap := h₁, toks := tk } := by
  have hnd : ((names.zip vs).map (·.1)).Nodup := by
    rw [List.map_fst_zip (by rw [r.length, hl]; exact Nat.le_refl _)]; exact K.once
  have hfr : ∀ b, FrA (envOfC d.name d.scope sb.heap.objs.size a cd) b → sb.heap.objs.size ≤ b := fun b e => by
    rcases e with e | ⟨n, hn⟩
    · rw [e]; exact Nat.le_refl _
    · exact Nat.le_of_lt (C.above n b hn)
  have hnone : ∀ b, sb.heap.objs.size ≤ b → sb.heap.get? b = none := fun b hb => Heap.get_none_le hb
  refine ⟨Kx.refl _ _, ⟨fun x => if (envOfC d.name d.scope sb.heap.objs.size a cd).kindOf x = some .local then bindL (envOfC d.name d.scope sb.heap.objs.size a cd).kindOf (names.zip vs) (fun _ => none) x else bindC (envOfC d.name d.scope sb.heap.objs.size a cd).kindOf (names.zip vs) (fun _ => none) x, ⟨K.fn, F.keep, ⟨_, F.ns, fun x hx => by simp [hx]⟩, fun x c hx hc => ?_, fun x hx => ?_, C.apart, hnone _ (Nat.le_refl _), fun n c hm => ⟨hnone c (Nat.le_of_lt (C.above n c hm)), Nat.ne_of_gt (C.above n c hm)⟩⟩, fun x dx hx => ?_⟩, fun b e => ?_, fun b e => ?_, fun b e => .inr ?_⟩
  · have := C.cell x c hc
    simpa [hx] using this
  · exact cellsFrom_isSome _ _ _ (.inl (mem_of_lookup hx))
  · obtain ⟨v, hv, rv⟩ := r.zip hx
    have hm : x ∈ names := by
      have := mem_of_lookup hx
      exact (List.of_mem_zip this).1
    obtain ⟨hk, hd⟩ := K.kinds x hm
    refine ⟨hk, hd, v, ?_, ?_⟩
    · dsimp only
      split
      · rename_i hl; rw [bindL_at hl _ _ hnd, hv]; rfl
      · rename_i hl; rw [bindC_at hl _ _ hnd, hv]; rfl
    · refine (rv.dom.sub F.keep).mono fun b e => ⟨fun q => ?_, .inl e.1⟩
      rcases q with q | q
      · exact absurd e.2 (Nat.not_lt.mpr (hfr b q))
      · exact q
  · rcases e with e | e
    · rcases e with e | ⟨n, hn⟩
      · rw [e]; exact Ns.some F.ns
      · have hlk : (cellsFrom (sb.heap.objs.size + 1) d.scope.names []).lookup n = some b := lookup_of_mem_nodup (cellsFrom_names d.scope.names 0 (sb.heap.objs.size + 1) [] [] rfl ▸ K.cells) hn
        obtain ⟨o, ho, _⟩ := C.cell n b hlk
        exact ⟨o, ho⟩
    · exact e.elim
  · rcases e with e | e
    · exact hnone b (hfr b e)
    · exact e.elim
  · cases q : sb.heap.get? b with
    | none => rfl
    | some o => rw [F.keep b o q] at e; cases e
/-- A function's contract. -/
theorem ct_fn {n : Nat} {d : DefRec} {names : List Str} {ds : List D} {dr : D} {a : Addr} {cd : Value} (oA : OkA (n + 1) A) (F : FnAt h a d cd) (K : FnOk d names) (hl : ds.length = names.length) (hgen : d.scope.isGenerator = false)
    (body : ∀ (sb : Shared) (P0 : Addr → Prop) (L : Addr) (s0 : Shared), Sub h sb.heap → Kp sb s0 → Sta sb (Nw P0 sb) (envOfC d.name d.scope L a cd) (fun _ => False) s0 (names.zip ds) s0 →
      wpAny (model prog w) (A.deeper (envOfC d.name d.scope L a cd)) (execs d.body (envOfC d.name d.scope L a cd)) (Ret sb P0 dr) (fun _ _ => False) s0) :
    Ct prog w A h (.ref a) ds dr := fun P0 sb vs hs r Q E hQ => by
  obtain ⟨o, pm, doc, ho, hd⟩ := F.obj
  refine wpAny_call (call_cells_ret oA.room (hs _ _ ho) hd (F.lim.keeps hs) (F.code.keeps hs) (K.bind pm cd doc vs (by rw [r.length, hl])) (fun x hx => ?_) (fun h₁ tk Fr C => ?_) K.co hgen K.fn)
  · have hm : x.1 ∈ names := (List.of_mem_zip (a := x.1) (b := x.2) hx).1
    rcases (K.kinds x.1 hm).1 with e | e
    · exact .inl e
    · exact .inr ⟨e, cellsFrom_isSome _ _ _ (.inl (mem_of_lookup e))⟩
  · refine wpAny_mono (body sb P0 _ _ hs (Kp.heap Fr.keep) (fn_start K hl r Fr C)) (fun f s' q => ?_) fun _ _ e => e
    exact hQ _ s' q.1 q.2
end
end Mine
end
noncomputable section
open PySem PySem.W PyProof.Rows
set_option Elab.async false
set_option autoImplicit false
set_option linter.unusedVariables false
set_option linter.unusedSimpArgs false
namespace Mine
theorem one_of {vs : List Value} (h : vs.length = 1) : ∃ a, vs = [a] := List.length_eq_one_iff.mp h
theorem two_of {vs : List Value} (h : vs.length = 2) : ∃ a b, vs = [a, b] := by
  cases vs with
  | nil => cases h
  | cons a r =>
    obtain ⟨b, rfl⟩ := one_of (vs := r) (Nat.succ.inj h)
    exact ⟨a, b, rfl⟩
def pw : Program := PySem.Challenge.pw_ph0007_01
/-- What the module's names are. -/
structure Gd (mg mb : Str → Option Value) (h : Heap) : Prop where
  g : h.Ns mainGlobals mg
  b : h.Ns builtinsNs mb
  lim : h.NoLimit
  fn : ∀ d ∈ recsOf pw, ∃ a cd, mg d.name = some (.ref a) ∧ FnAt h a d cd
  free : ∀ x ∈ (["sum", "len", "range", "min", "sorted", "set", "list", "bytes", "bytearray", "str", "isinstance", "ValueError", "IndexError"] : List Str), mg x = none
  bi : ∀ x : Str, x ≠ "__name__" → mb x = bootBuiltins x
  cmax : ∃ t, mg "CHAR_MAX" = some (.int 127 t)
theorem Gd.sub {mg mb : Str → Option Value} {h h' : Heap} (D : Gd mg mb h) (k : Sub h h') : Gd mg mb h' :=
  ⟨D.g.keeps k, D.b.keeps k, D.lim.keeps k, fun d hd => let ⟨a, cd, h1, h2⟩ := D.fn d hd; ⟨a, cd, h1, h2.sub k⟩, D.free, D.bi, D.cmax⟩
def theDef (i : Nat) : DefRec := (recsOf pw).getD i ⟨"", ⟨[], [], none, [], [], none, []⟩, [], ⟨.function, [], false, false, []⟩, ⟨0, 0, 0, 0⟩⟩
theorem recs_len : (recsOf pw).length = 10 := by with_unfolding_all rfl
theorem theDef_mem {i : Nat} (hi : i < 10) : theDef i ∈ recsOf pw := by
  unfold theDef
  have hl : i < (recsOf pw).length := by rw [recs_len]; exact hi
  rw [List.getD_eq_getElem?_getD, List.getElem?_eq_getElem hl]
  exact List.getElem_mem hl
theorem Gd.at {mg mb : Str → Option Value} {h : Heap} (D : Gd mg mb h) {i : Nat} (hi : i < 10 := by decide) : ∃ a cd, mg (theDef i).name = some (.ref a) ∧ FnAt h a (theDef i) cd := D.fn _ (theDef_mem hi)
section
variable {mg mb : Str → Option Value} {h : Heap} {env : Env}
theorem Gd.blt (D : Gd mg mb h) {x : Str} {v : Value} (hb : bootBuiltins x = some v) (hx : x ∈ (["sum", "len", "range", "min", "sorted", "set", "list", "bytes", "bytearray", "str", "isinstance", "ValueError", "IndexError"] : List Str) := by decide)
    (hg : env.globals = mainGlobals := by rfl) (he : env.builtins = builtinsNs := by rfl) : GL env h x v :=
  .inr ⟨mg, mb, hg ▸ D.g, D.free x hx, he ▸ D.b, by
    rw [D.bi x (by
      intro e; subst e; revert hx; decide)]
    exact hb⟩
theorem Gd.glob (D : Gd mg mb h) {x : Str} {v : Value} (hx : mg x = some v) (hg : env.globals = mainGlobals := by rfl) : GL env h x v := .inl ⟨mg, hg ▸ D.g, hx⟩
theorem GL.lk {x : Str} {v : Value} (g : GL env h x v) (hf : env.scope.kind = .function := by with_unfolding_all rfl) (hk : env.kindOf x = some .globalImplicit := by with_unfolding_all rfl) (hd : (x == ("__debug__" : Str)) = false := by decide) : Looks env h x v := g.looks hf hk hd
end
theorem ok4 : FnOk (theDef 4) ["line", "sizes"] :=
  ⟨fun pm cd doc vs hl => by
    obtain ⟨a, b, rfl⟩ := two_of hl
    with_unfolding_all rfl, by decide, by with_unfolding_all decide, by with_unfolding_all rfl, by with_unfolding_all rfl, by with_unfolding_all decide⟩
end Mine
end
noncomputable section
open PySem PySem.W PyProof.Rows
set_option Elab.async false
set_option autoImplicit false
set_option linter.unusedVariables false
set_option linter.unusedSimpArgs false
set_option maxRecDepth 4000
namespace Mine
section
variable {prog : Program} {w : World} {A : Around} {env : Env} {P : Addr → Prop} {h : Heap}
theorem ev_has {x : Str} {pos : Pos} {d : D} (H : Has env P h x d) : Ev prog w A env P h (.Name x pos) d := let ⟨v, l, r⟩ := H; ev_name l r
theorem evl_cons {e : Expr} {es : List Expr} {d : D} {ds : List D} (a : Ev prog w A env P h e d) (b : EvL prog w A env P h es ds) (hs : starEach (e :: es) env = (false, eval e env) :: starEach es env := by first | exact star_cons rfl | with_unfolding_all rfl) : EvL prog w A env P h (e :: es) (d :: ds) := .cons a b hs
theorem evl_one {e : Expr} {d : D} (a : Ev prog w A env P h e d) (hs : starEach [e] env = [(false, eval e env)] := by first | exact star_one rfl | with_unfolding_all rfl) : EvL prog w A env P h [e] [d] := .cons a .nil hs
theorem ev_len_list {f : Str} {p pos : Pos} {e : Expr} {xs : List D} {m : Nat} (l : Looks env h f (.builtin "len")) (a : Ev prog w A env P h e (.list xs)) (hm : xs.length = m) (hn : m ≤ 1000) (hs : starEach [e] env = [(false, eval e env)] := by first | exact star_one rfl | with_unfolding_all rfl) :
    Ev prog w A env P h (.Call (.Name f p) [e] [] pos) (.int m) := by subst hm; exact ev_call_bi l (evl_one a hs) (ct_len_list xs hn)
theorem ev_len_bytes {f : Str} {p pos : Pos} {e : Expr} {xs : List UInt8} {m : Nat} (l : Looks env h f (.builtin "len")) (a : Ev prog w A env P h e (.bytes xs)) (hm : xs.length = m) (hn : m ≤ 1000) (hs : starEach [e] env = [(false, eval e env)] := by first | exact star_one rfl | with_unfolding_all rfl) :
    Ev prog w A env P h (.Call (.Name f p) [e] [] pos) (.int m) := by subst hm; exact ev_call_bi l (evl_one a hs) (ct_len_bytes xs hn)
theorem ev_range1 {f : Str} {p pos : Pos} {e : Expr} {m : Int} (l : Looks env h f (.type "range")) (a : Ev prog w A env P h e (.int m)) (hs : starEach [e] env = [(false, eval e env)] := by first | exact star_one rfl | with_unfolding_all rfl) :
    Ev prog w A env P h (.Call (.Name f p) [e] [] pos) (.range 0 m 1) := ev_call_ty l (evl_one a hs) ct_range1
theorem ev_sum {f : Str} {p pos : Pos} {e : Expr} {ns : List Int} (l : Looks env h f (.builtin "sum")) (hh : A.handled = none) (a : Ev prog w A env P h e (.list (ns.map D.int))) (hs : starEach [e] env = [(false, eval e env)] := by first | exact star_one rfl | with_unfolding_all rfl) :
    Ev prog w A env P h (.Call (.Name f p) [e] [] pos) (.int ns.sum) := ev_call_bi l (evl_one a hs) (ct_sum ns hh)
theorem ev_cast {e : Expr} {d d' : D} (x : Ev prog w A env P h e d) (hd : d = d') : Ev prog w A env P h e d' := hd ▸ x
theorem src_range1 {P : Addr → Prop} {s : Shared} {v : Value} {n : Nat} (hh : A.handled = none) (hn : n ≤ 1000) (r : Rd P s.heap (.range 0 n 1) v) : Src prog w A P s v ((List.range n).map fun (i : Nat) => D.int i) := by
  have hs : Builtin.Range.rangeSize 0 n 1 = n := by rw [rangeSize_one]; split <;> lia
  have := src_range (prog := prog) (w := w) (A := A) (n := n) hh (by
    unfold Builtin.Range.small
    rw [hs]
    simp [Builtin.Range.rangeFitsLong]; lia) hs r
  simpa [rangeL, Function.comp_def] using this
end
/-- Mirrored by groups. -/
def mirT {α : Type} (xs : List α) (t : List α) : List Nat → List α
  | [] => t
  | n :: ns => mirT xs (t ++ ((xs.drop t.length).take n).reverse) ns
def mir {α : Type} (xs : List α) (ns : List Nat) : List α := mirT xs [] ns
theorem mirT_append {α : Type} (xs : List α) : ∀ (ns ms : List Nat) (t : List α), mirT xs t (ns ++ ms) = mirT xs (mirT xs t ns) ms
  | [], ms, t => rfl
  | n :: ns, ms, t => mirT_append xs ns ms _
theorem mirT_len {α : Type} (xs : List α) : ∀ (ns : List Nat) (t : List α), t.length ≤ xs.length → (mirT xs t ns).length ≤ xs.length
  | [], t, h => h
  | n :: ns, t, h => by
    refine mirT_len xs ns _ ?_
    simp; lia
theorem pick_win {α : Type} (xs : List α) (a m : Nat) : pick xs (some (a : Int)) (some ((a : Int) + (m : Int))) none = (xs.drop a).take m := by
  rw [pick_run' _ _ _ (by lia) (by lia)]
  congr 1
  lia
theorem mir_take {α : Type} (xs : List α) (ns : List Nat) {i m : Nat} (h : ns[i]? = some m) : mir xs (ns.take (i + 1)) = mir xs (ns.take i) ++ ((xs.drop (mir xs (ns.take i)).length).take m).reverse := by
  rw [List.take_add_one, h]
  unfold mir
  rw [mirT_append]
  rfl
section
variable {prog : Program} {w : World} {A : Around} {h : Heap} {mg mb : Str → Option Value}
theorem ct_mirrored {n : Nat} {a : Addr} {cd : Value} (oA : OkA (n + 1) A) (T : Gd mg mb h) (F : FnAt h a (theDef 4) cd) (xs : List D) (ns : List Nat) (hx : xs.length ≤ 100) :
    Ct prog w A h (.ref a) [.list xs, .list (ns.map fun (n : Nat) => D.int n)] (.list (mir xs ns)) := by
  refine ct_fn oA F ok4 rfl (by with_unfolding_all rfl) fun sb P0 L s0 hs0 k0 S0 => ?_
  have oA' : OkA n (A.deeper (envOfC (theDef 4).name (theDef 4).scope L a cd)) := oA.deeper _
  generalize hA' : A.deeper (envOfC (theDef 4).name (theDef 4).scope L a cd) = A' at oA' ⊢
  refine wpAny_execs_cons (st_assign (d := .list []) S0 (ev_list .nil) fun s1 _ S1 => ?_)
  refine wpAny_execs_cons (sta_for (fun i => [("turned", .list (mir xs (ns.take i))), ("line", .list xs)]) (fun _ _ => True) S1 (ev_has (S1.has (d := .list (ns.map fun (n : Nat) => D.int n)) (by with_unfolding_all rfl))) (fun P s v r => src_list oA'.handled r) ?_ (fun _ _ => trivial) (fun _ _ _ _ _ _ _ => trivial) (fun _ _ _ _ _ => trivial)
    (fun G' i di s2 hdi hG kx S2 _ => ?_) fun s2 S2 _ => ?_)
  · intro p hp
    simp only [List.mem_cons, List.not_mem_nil, or_false] at hp
    rcases hp with rfl | rfl <;> with_unfolding_all rfl
  · have hi : i < ns.length := by
      have := (List.getElem?_eq_some_iff.mp hdi).1; simpa using this
    obtain ⟨m, hm⟩ : ∃ m, ns[i]? = some m := ⟨ns[i], by simp [hi]⟩
    have hdi' : di = D.int (m : Nat) := by
      rw [List.getElem?_map, hm] at hdi; exact (Option.some.inj hdi).symm
    subst hdi'
    have hlen : (mir xs (ns.take i)).length ≤ xs.length := mirT_len xs _ _ (Nat.zero_le _)
    have T2 := T.sub (hs0.trans S2.keep)
    have lk := GL.lk (env := envOfC (theDef 4).name (theDef 4).scope L a cd) (T2.blt (x := "len") boot_len)
    have et := fun pos => ev_has (prog := prog) (w := w) (A := A') (pos := pos) (S2.has (x := "turned") (d := .list (mir xs (ns.take i))) (by with_unfolding_all rfl))
    have el := fun pos => ev_has (prog := prog) (w := w) (A := A') (pos := pos) (S2.has (x := "line") (d := .list xs) (by with_unfolding_all rfl))
    have es := fun pos => ev_has (prog := prog) (w := w) (A := A') (pos := pos) (S2.has (x := "size") (d := .int m) (by with_unfolding_all rfl))
    refine wpAny_execs_cons (st_assign S2 (ev_bin (et _) (ev_slice_list (ev_slice_list (el _) (.some (ev_len_list lk (et _) rfl (by lia))) (.some (ev_bin (ev_len_list lk (et _) rfl (by lia)) (es _) (op_add _ _))) .none (by decide) (by lia)) .none .none (.some (ev_neg (ev_int _ _ _))) (by decide) ?_) (op_cat _ _ ?_)) fun s3 _ S3 => wpAny_execs_nil ⟨S3.weak ?_, trivial⟩)
    · rw [pick_win]; simp; lia
    · rw [pick_win, pick_rev]; simp; lia
    · intro p hp
      simp only [List.mem_cons, List.not_mem_nil, or_false] at hp
      rcases hp with rfl | rfl
      · rw [mir_take xs ns hm, pick_win, pick_rev]; with_unfolding_all rfl
      · with_unfolding_all rfl
  · refine wpAny_execs_cons (st_return S2 k0 (fun _ e => e) (ev_has (S2.has (x := "turned") (d := .list (mir xs ns)) ?_)) fun v s3 r => r)
    have : mir xs (ns.take (ns.map fun (n : Nat) => D.int n).length) = mir xs ns := by simp
    rw [this]; with_unfolding_all rfl
end
end Mine
end
noncomputable section
open PySem PySem.W PyProof.Rows
set_option Elab.async false
set_option autoImplicit false
set_option linter.unusedVariables false
set_option linter.unusedSimpArgs false
set_option maxRecDepth 4000
namespace Mine
/-- A list of counts. -/
def iL (ns : List Nat) : List D := ns.map fun (n : Nat) => D.int n
theorem iL_int (ns : List Nat) : iL ns = (ns.map fun (n : Nat) => (n : Int)).map D.int := by simp [iL]
theorem iL_get {ns : List Nat} {i : Nat} : (iL ns)[i]? = (ns[i]?).map fun (n : Nat) => D.int n := by simp [iL]
theorem iL_len (ns : List Nat) : (iL ns).length = ns.length := by simp [iL]
theorem iL_pick (ns : List Nat) (a b c : Option Int) : pick (iL ns) a b c = iL (pick ns a b c) := pick_map _ _ _ _ _
theorem cast_inj : ∀ (ns ms : List Nat), ((ns.map fun (n : Nat) => (n : Int)) == (ms.map fun (n : Nat) => (n : Int))) = (ns == ms)
  | [], [] => rfl
  | [], _ :: _ => rfl
  | _ :: _, [] => rfl
  | n :: ns, m :: ms => by
    have := cast_inj ns ms
    simp only [List.map_cons, List.cons_beq_cons, this]
    congr 1
    rw [Bool.eq_iff_iff]; simp only [beq_iff_eq]; lia
theorem sum_cast : ∀ (ns : List Nat), (ns.map fun (n : Nat) => (n : Int)).sum = (ns.sum : Nat)
  | [] => rfl
  | n :: ns => by simp [sum_cast ns]
section
variable {prog : Program} {w : World} {A : Around} {env : Env} {P : Addr → Prop} {h : Heap}
theorem op_eq_nats {n : Nat} (oA : OkA n A) (ns ms : List Nat) : Op2 prog w A (compareOp .Eq) (.list (iL ns)) (.list (iL ms)) (.bool (ns == ms)) := by
  rw [iL_int, iL_int, ← cast_inj]; exact op_eq_ints oA _ _
theorem op_ne_nats {n : Nat} (oA : OkA n A) (ns ms : List Nat) : Op2 prog w A (compareOp .NotEq) (.list (iL ns)) (.list (iL ms)) (.bool (ns != ms)) := by
  have : (ns != ms) = ((ns.map fun (n : Nat) => (n : Int)) != (ms.map fun (n : Nat) => (n : Int))) := by simp only [bne, cast_inj]
  rw [iL_int, iL_int, this]; exact op_ne_ints oA _ _
theorem op_inT {n : Nat} (oA : OkA n A) (d : D) (xs : List D) (hd : d.plain = true) (hx : D.plainL xs = true) (hdp : d.py.depth ≤ 64) : Op2 prog w A (compareOp .In) d (.tuple xs) (.bool ((D.pyL xs).any fun y => PyData.eqv y d.py)) := fun P s v1 v2 r1 r2 Q E hQ => by
  obtain ⟨as, q1⟩ := r1.reads hd; obtain ⟨bs, q2⟩ := Rd.reads (d := .tuple xs) r2 hx
  exact SeqAt.in_tuple_reads q2 q1 (D.plain_layL hx) (D.plain_lay hd) (by have := oA.cl (k := 65) (by lia); lia) (hQ _ _ (Kp.refl _) (rd_bool.mpr rfl))
theorem op_notInL {n : Nat} (oA : OkA n A) (d : D) (xs : List D) (hd : d.plain = true) (hx : D.plainL xs = true) (hdp : d.py.depth ≤ 64) : Op2 prog w A (compareOp .NotIn) d (.list xs) (.bool (!(D.pyL xs).any fun y => PyData.eqv y d.py)) := fun P s v1 v2 r1 r2 Q E hQ => by
  obtain ⟨as, q1⟩ := r1.reads hd; obtain ⟨bs, q2⟩ := Rd.reads (d := .list xs) r2 hx
  exact SeqAt.notIn_list_reads q2 q1 (D.plain_layL hx) (D.plain_lay hd) (by have := oA.cl (k := 65) (by lia); lia) (hQ _ _ (Kp.refl _) (rd_bool.mpr rfl))
theorem ct_sorted (ns out : List Int) (hn : ns.length < 64) (hp : out.Perm ns) (ho : out.Pairwise (· ≤ ·)) : Ct prog w A h (.builtin "sorted") [.list (ns.map D.int)] (.list (out.map D.int)) := fun P s vs _ r Q E hQ => by
  obtain ⟨v, q, rfl, r1, r2⟩ := rdL_cons.mp r
  rw [rdL_nil.mp r2]
  obtain ⟨l, us, rfl, _, hl, q1⟩ := rd_list.mp r1
  have hlen : us.length = ns.length := by rw [q1.length, List.length_map]
  refine sorted_ints hl q1.ints (by lia) fun ov ns' hi hp' ho' => ?_
  have : ns' = out := List.Perm.eq_of_pairwise (fun a b _ _ h1 h2 => Int.le_antisymm h1 h2) ho' ho (hp'.trans hp.symm)
  subst this
  refine hQ _ _ (Kp.heap fun b o e => sortedAll_old e) (rd_list.mpr ⟨_, ov.toList, rfl, .inr ?_, ?_, RdL.of_ints hi⟩)
  · cases q : s.heap.get? (s.heap.objs.size + 1) with
    | none => rfl
    | some o => exact absurd (Heap.lt_size q) (by simp)
  · obtain ⟨e, he⟩ := sortedAll_at s.heap us ov
    exact ⟨_, he, rfl, e, by simp [seqObj]⟩
end
end Mine
end
noncomputable section
open PySem PySem.W PyProof.Rows
set_option Elab.async false
set_option autoImplicit false
set_option linter.unusedVariables false
set_option linter.unusedSimpArgs false
set_option maxRecDepth 4000
namespace Mine
/-- The names a comprehension's block sees. -/
theorem scOk_of {scope : Scope} {env : Env} {x : Str} (fn : scope.kind = .function := by with_unfolding_all rfl) (efn : env.scope.kind = .function := by with_unfolding_all rfl) (once : (scope.names.map (·.1)).Nodup := by with_unfolding_all decide)
    (frees : scope.names.all (fun p => p.2 != .free || (env.kindOf p.1 == some .cell && (env.cells.lookup p.1).isSome)) = true := by with_unfolding_all rfl)
    (var : scope.names.lookup x = some .local ∨ scope.names.lookup x = some .cell := by first | exact Or.inl (by with_unfolding_all rfl) | exact Or.inr (by with_unfolding_all rfl)) (dbg : (x == ("__debug__" : Str)) = false := by decide) : ScOk scope env x :=
  ⟨fn, efn, once, fun n k hm hk => by
    have := List.all_eq_true.mp frees (n, k) hm
    subst hk
    simp only [bne_self_eq_false, Bool.false_or, Bool.and_eq_true, beq_iff_eq] at this
    exact ⟨this.1, this.2⟩, var, dbg⟩
theorem Has.mono {env : Env} {P P' : Addr → Prop} {h : Heap} {x : Str} {d : D} (H : Has env P h x d) (k : ∀ b, P b → P' b) : Has env P' h x d := let ⟨v, l, r⟩ := H; ⟨v, l, r.mono k⟩
theorem Has.all {env : Env} {P : Addr → Prop} {h : Heap} {x : Str} {d : D} (H : Has env P h x d) : Has env All h x d := H.mono fun _ _ => trivial
section
variable {prog : Program} {w : World} {A : Around} {env : Env} {P : Addr → Prop} {h : Heap}
theorem tr_cmp' {l r : Expr} {op : CmpOp} {pos : Pos} {d1 d2 : D} {b : Bool} (h1 : Ev prog w A env P h l d1) (h2 : Ev prog w A env P h r d2) (h3 : Op2 prog w A (compareOp op) d1 d2 (.bool b))
    (hm : behindInMarks op r = false := by with_unfolding_all rfl) : Tr prog w A env h (.Compare l [op] [r] pos) b := tr_cmp (h1.mono fun _ _ => trivial) (h2.mono fun _ _ => trivial) h3 hm
theorem ev_nth {value slice : Expr} {pos : Pos} {xs : List D} {i : Nat} {d : D} (h1 : Ev prog w A env P h value (.list xs)) (h2 : Ev prog w A env P h slice (.int i)) (hx : xs[i]? = some d) (hi : i ≤ 100000)
    (hs : ∀ v t, subscripted slice false v (.int (i : Int) t) = operate [v, .int (i : Int) t] (getItem v (.int (i : Int) t)) := by intro _ _; with_unfolding_all rfl) : Ev prog w A env P h (.Subscript value slice pos) d :=
  ev_item h1 h2 (item_list_at (by lia) (by lia) (by simpa using hx) hs)
end
theorem tr_cast {prog : Program} {w : World} {A : Around} {env : Env} {h : Heap} {e : Expr} {b b' : Bool} (x : Tr prog w A env h e b) (hb : b = b') : Tr prog w A env h e b' := hb ▸ x
theorem range_at {n i : Nat} {di : D} (hdi : ((List.range n).map fun (i : Nat) => D.int i)[i]? = some di) : i < n ∧ di = D.int i := by
  rw [List.getElem?_map] at hdi
  rcases Nat.lt_or_ge i n with q | q
  · rw [List.getElem?_range q] at hdi; exact ⟨q, (Option.some.inj hdi).symm⟩
  · rw [List.getElem?_eq_none (by simpa using q)] at hdi; cases hdi
def isEnd (n : Nat) : Bool := n == 0 || n == 127
def stopOf (row : List Nat) : Nat := row.findIdx isEnd
def told (row : List Nat) (many : Nat) : List Nat :=
  ((row.take (stopOf row)) ++ (if ((row.drop (stopOf row)).take 1 == [0]) = true then (List.replicate many ((row.drop (stopOf row - 1)).take 1)).flatten else [])).take many
theorem ok2 : FnOk (theDef 2) ["row", "many"] :=
  ⟨fun pm cd doc vs hl => by
    obtain ⟨a, b, rfl⟩ := two_of hl
    with_unfolding_all rfl, by decide, by with_unfolding_all decide, by with_unfolding_all rfl, by with_unfolding_all rfl, by with_unfolding_all decide⟩
theorem stop_le (row : List Nat) : stopOf row ≤ row.length := List.findIdx_le_length
theorem stop_min (row : List Nat) : stopOf row ∈ ((List.range row.length).filter fun i => isEnd (row.getD i 0)) ++ [row.length] ∧ ∀ a ∈ ((List.range row.length).filter fun i => isEnd (row.getD i 0)) ++ [row.length], stopOf row ≤ a := by
  refine ⟨?_, fun a ha => ?_⟩
  · rcases Nat.lt_or_ge (stopOf row) row.length with h | h
    · refine List.mem_append_left _ (List.mem_filter.mpr ⟨List.mem_range.mpr h, ?_⟩)
      have := List.findIdx_getElem (p := isEnd) (w := h)
      rw [List.getD_eq_getElem?_getD, List.getElem?_eq_getElem h]
      exact this
    · refine List.mem_append_right _ ?_
      have := stop_le row
      simp; lia
  · rcases List.mem_append.mp ha with h | h
    · obtain ⟨h1, h2⟩ := List.mem_filter.mp h
      have hl := List.mem_range.mp h1
      rcases Nat.lt_or_ge a (stopOf row) with q | q
      · have := List.not_of_lt_findIdx (p := isEnd) (xs := row) q
        rw [List.getD_eq_getElem?_getD, List.getElem?_eq_getElem hl] at h2
        simp only [Option.getD_some] at h2
        rw [this] at h2; cases h2
      · exact q
    · have := stop_le row
      simp at h; lia
section
variable {prog : Program} {w : World} {A : Around} {h : Heap} {mg mb : Str → Option Value}
theorem ct_told {n : Nat} {a : Addr} {cd : Value} (oA : OkA (n + 1) A) (T : Gd mg mb h) (F : FnAt h a (theDef 2) cd) (row : List Nat) (many : Nat) (hx : row.length ≤ 20) (hm : many ≤ 20) (h1 : 1 ≤ stopOf row) :
    Ct prog w A h (.ref a) [.list (iL row), .int (many : Nat)] (.list (iL (told row many))) := by
  refine ct_fn oA F ok2 rfl (by with_unfolding_all rfl) fun sb P0 L s0 hs0 k0 S0 => ?_
  have oA' : OkA n (A.deeper (envOfC (theDef 2).name (theDef 2).scope L a cd)) := oA.deeper _
  generalize hA' : A.deeper (envOfC (theDef 2).name (theDef 2).scope L a cd) = A' at oA' ⊢
  have T0 := T.sub (hs0.trans S0.keep)
  have hrow := S0.has (x := "row") (d := .list (iL row)) (by with_unfolding_all rfl)
  have llen := (T0.blt (env := envOfC (theDef 2).name (theDef 2).scope L a cd) (x := "len") boot_len).lk
  have hst := stop_le row
  refine wpAny_execs_cons (st_assign (d := .int (stopOf row)) S0 (ev_call_bi (T0.blt (x := "min") boot_min).lk (evl_one (ev_bin (ev_comp (ds := (List.range row.length).map fun (i : Nat) => D.int i) (d := .range 0 row.length 1) scOk_of (fun i => isEnd (row.getD i 0)) (fun i => .int i)
    (ev_range1 (T0.blt (x := "range") boot_range).lk (ev_len_list llen (ev_has hrow) (iL_len row) (by lia))) (fun P s v r => src_range1 oA'.handled (by lia) r) (fun b e => e.2) (by simp; lia)
    (fun K C h' i di v hk lk hdi rv => ?body)) (ev_list (evl_one (ev_len_list llen (ev_has hrow) (iL_len row) (by lia)))) (op_cat _ _ ?cat))) ?min) fun s1 _ S1 => ?_)
  case body =>
    obtain ⟨hi, rfl⟩ := range_at hdi
    refine ⟨?_, fun _ => ev_name lk (rv.flat rfl)⟩
    have hr : (iL row)[i]? = some (D.int (row.getD i 0 : Nat)) := by
      rw [iL_get, List.getElem?_eq_getElem hi]; simp [hi]
    refine trL_one (tr_cast (tr_cmp (ev_nth (ev_has ((hrow.sub hk).free (C := C) K).all) (ev_name lk rv) hr (by lia)) (ev_tuple (evl_cons (ev_int 0 _ _) (evl_one (ev_int 127 _ _)))) (op_inT oA' _ _ rfl rfl (by simp [D.py, PyData.depth]))) ?_)
    simp only [D.pyL, D.py, PyData.eqv, isEnd, List.any_cons, List.any_nil, Bool.or_false]
    rw [Bool.eq_iff_iff]
    simp only [Bool.or_eq_true, beq_iff_eq]
    lia
  case cat =>
    have := List.length_filter_le (fun i => isEnd (row.getD i 0)) (List.range row.length)
    simp at this ⊢; lia
  case min =>
    obtain ⟨hm1, hm2⟩ := stop_min row
    have e : (List.map (fun (i : Nat) => D.int i) (List.filter (fun i => isEnd (row.getD i 0)) (List.range ((List.range row.length).map fun (i : Nat) => D.int i).length)) ++ [D.int (row.length : Nat)]) = ((((List.range row.length).filter fun i => isEnd (row.getD i 0)) ++ [row.length]).map fun (i : Nat) => (i : Int)).map D.int := by simp
    rw [e]
    refine ct_min _ _ oA'.handled (List.mem_map.mpr ⟨_, hm1, rfl⟩) fun a ha => ?_
    obtain ⟨b, hb, rfl⟩ := List.mem_map.mp ha
    exact Int.ofNat_le.mpr (hm2 b hb)
  · have hrow1 := S1.has (x := "row") (d := .list (iL row)) (by with_unfolding_all rfl)
    have hstop1 := S1.has (x := "stop") (d := .int (stopOf row)) (by with_unfolding_all rfl)
    have hmany1 := S1.has (x := "many") (d := .int many) (by with_unfolding_all rfl)
    let ag : List Nat := if ((row.drop (stopOf row)).take 1 == [0]) = true then (List.replicate many ((row.drop (stopOf row - 1)).take 1)).flatten else []
    have e1 : pick (iL row) (some (stopOf row : Int)) (some ((stopOf row : Int) + 1)) none = iL ((row.drop (stopOf row)).take 1) := by
      rw [iL_pick]; exact congrArg iL (pick_win row (stopOf row) 1)
    have e2 : pick (iL row) (some ((stopOf row : Int) - 1)) (some (stopOf row : Int)) none = iL ((row.drop (stopOf row - 1)).take 1) := by
      rw [iL_pick, pick_run' _ _ _ (by lia) (by lia)]
      have q1 : ((stopOf row : Int) - 1).toNat = stopOf row - 1 := by lia
      have q2 : (stopOf row : Int).toNat - (stopOf row - 1) = 1 := by lia
      rw [q1, q2]
    have agl : ag.length ≤ 20 := by
      simp only [ag]
      split
      · simp [List.length_flatten, List.sum_replicate_nat]; rw [Nat.mul_comm]
        exact Nat.le_trans (Nat.mul_le_mul_right many (Nat.min_le_left _ _)) (by lia)
      · simp
    refine wpAny_execs_cons (st_assign (d := .list (iL ag)) S1 (ev_ifexp (tr_cmp' (ev_cast (ev_slice_list (ev_has hrow1) (.some (ev_has hstop1)) (.some (ev_bin (ev_has hstop1) (ev_int 1 _ _) (op_add _ _))) .none (by decide) (by rw [iL_len]; lia)) (congrArg D.list e1)) (ev_list (evl_one (ev_int 0 _ _))) (op_eq_nats oA' _ [0]))
      (fun hb => ev_cast (ev_bin (ev_cast (ev_slice_list (ev_has hrow1) (.some (ev_bin (ev_has hstop1) (ev_int 1 _ _) (op_sub _ _))) (.some (ev_has hstop1)) .none (by decide) (by rw [iL_len]; lia)) (congrArg D.list e2)) (ev_has hmany1) (op_rep _ _ (by lia) (by lia) ?_)) ?_) (fun hb => ev_cast (ev_list .nil) ?_)) fun s2 _ S2 => ?_)
    · have q : (iL ((row.drop (stopOf row - 1)).take 1)).length ≤ 1 := by simp [iL_len]; lia
      have := Nat.mul_le_mul_right many q
      simp only [Int.toNat_natCast]; lia
    · have : ag = (List.replicate many ((row.drop (stopOf row - 1)).take 1)).flatten := by simp only [ag, hb, if_true]
      rw [this]
      simp [iL, List.map_flatten]
    · have : ag = [] := by simp only [ag, hb]; rfl
      rw [this]; rfl
    · have hrow2 := S2.has (x := "row") (d := .list (iL row)) (by with_unfolding_all rfl)
      have hstop2 := S2.has (x := "stop") (d := .int (stopOf row)) (by with_unfolding_all rfl)
      have hmany2 := S2.has (x := "many") (d := .int many) (by with_unfolding_all rfl)
      have hag2 := S2.has (x := "again") (d := .list (iL ag)) (by with_unfolding_all rfl)
      have e3 : pick (iL row) none (some (stopOf row : Int)) none = iL (row.take (stopOf row)) := by
        rw [iL_pick, pick_upto _ _ (by lia)]; simp
      have e4 : pick (iL (row.take (stopOf row)) ++ iL ag) none (some (many : Int)) none = iL (told row many) := by
        rw [show iL (row.take (stopOf row)) ++ iL ag = iL (row.take (stopOf row) ++ ag) by simp [iL], iL_pick, pick_upto _ _ (by lia)]; simp [told, ag]
      refine wpAny_execs_cons (st_return S2 k0 (fun _ e => e) (ev_cast (ev_slice_list (ev_bin (ev_cast (ev_slice_list (ev_has hrow2) .none (.some (ev_has hstop2)) .none (by decide) (by rw [iL_len]; lia)) (congrArg D.list e3)) (ev_has hag2) (op_cat _ _ ?_)) .none (.some (ev_has hmany2)) .none (by decide) ?_) (congrArg D.list e4)) fun v s3 r => r)
      · simp only [iL_len, List.length_take]; lia
      · simp only [List.length_append, iL_len, List.length_take]; lia
end
end Mine
end
noncomputable section
open PySem PySem.W PyProof.Rows
set_option Elab.async false
set_option autoImplicit false
set_option linter.unusedVariables false
set_option linter.unusedSimpArgs false
set_option maxRecDepth 4000
namespace Mine
def ins (x : Nat) : List Nat → List Nat
  | [] => [x]
  | y :: ys => if x ≤ y then x :: y :: ys else y :: ins x ys
def isort : List Nat → List Nat
  | [] => []
  | x :: xs => ins x (isort xs)
theorem ins_perm (x : Nat) : ∀ ys, (ins x ys).Perm (x :: ys)
  | [] => .refl _
  | y :: ys => by
    unfold ins
    split
    · exact .refl _
    · exact ((ins_perm x ys).cons y).trans (.swap x y ys)
theorem isort_perm : ∀ xs, (isort xs).Perm xs
  | [] => .refl _
  | x :: xs => (ins_perm x _).trans ((isort_perm xs).cons x)
theorem ins_sorted (x : Nat) : ∀ ys : List Nat, ys.Pairwise (· ≤ ·) → (ins x ys).Pairwise (· ≤ ·)
  | [], _ => by simp [ins]
  | y :: ys, h => by
    unfold ins
    rw [List.pairwise_cons] at h
    split
    · rename_i q
      rw [List.pairwise_cons, List.pairwise_cons]
      exact ⟨fun a ha => by rcases List.mem_cons.mp ha with rfl | ha; exact q; exact Nat.le_trans q (h.1 a ha), h.1, h.2⟩
    · rename_i q
      rw [List.pairwise_cons]
      refine ⟨fun a ha => ?_, ins_sorted x ys h.2⟩
      rcases List.mem_cons.mp ((ins_perm x ys).mem_iff.mp ha) with rfl | ha
      · lia
      · exact h.1 a ha
theorem isort_sorted : ∀ xs, (isort xs).Pairwise (· ≤ ·)
  | [] => .nil
  | x :: xs => ins_sorted x _ (isort_sorted xs)
theorem filter_all {α : Type} (l : List α) : l.filter (fun _ => true) = l := List.filter_eq_self.mpr fun _ _ => rfl
def diffs (es : List Nat) : List Nat := (List.range (es.length - 1)).map fun k => es.getD (k + 1) 0 - es.getD k 0
def edgesOf (t : List Nat) (total : Nat) : List Nat :=
  0 :: isort (((List.range (t.length + 1)).filter fun k => decide ((t.take k).sum < total)).map fun k => total - (t.take k).sum)
def sizesOf (row : List Nat) (total : Nat) : List Nat := diffs (edgesOf (told row total) total)
theorem ok3 : FnOk (theDef 3) ["row", "total"] :=
  ⟨fun pm cd doc vs hl => by
    obtain ⟨a, b, rfl⟩ := two_of hl
    with_unfolding_all rfl, by decide, by with_unfolding_all decide, by with_unfolding_all rfl, by with_unfolding_all rfl, by with_unfolding_all decide⟩
theorem told_len (row : List Nat) (many : Nat) : (told row many).length ≤ many := by simp [told]; lia
section
variable {prog : Program} {w : World} {A : Around} {env : Env} {P : Addr → Prop} {h : Heap}
theorem ct_sorted_nats (ns : List Nat) (hn : ns.length < 64) : Ct prog w A h (.builtin "sorted") [.list (iL ns)] (.list (iL (isort ns))) := by
  rw [iL_int, iL_int]
  refine ct_sorted _ _ (by simpa using hn) ((isort_perm ns).map _) ?_
  exact (isort_sorted ns).map _ fun a b h => Int.ofNat_le.mpr h
theorem ev_sum_nats {f : Str} {p pos : Pos} {e : Expr} {ns : List Nat} (l : Looks env h f (.builtin "sum")) (hh : A.handled = none) (a : Ev prog w A env P h e (.list (iL ns))) (hs : starEach [e] env = [(false, eval e env)] := by first | exact star_one rfl | with_unfolding_all rfl) :
    Ev prog w A env P h (.Call (.Name f p) [e] [] pos) (.int (ns.sum : Nat)) := by
  rw [iL_int] at a
  have := ev_sum (p := p) (pos := pos) l hh a hs
  rw [sum_cast] at this; exact this
variable {mg mb : Str → Option Value}
theorem ct_sizes {n : Nat} {a : Addr} {cd : Value} (oA : OkA (n + 2) A) (T : Gd mg mb h) (F : FnAt h a (theDef 3) cd) (row : List Nat) (total : Nat) (hx : row.length ≤ 20) (hm : total ≤ 20) (h1 : 1 ≤ stopOf row) :
    Ct prog w A h (.ref a) [.list (iL row), .int (total : Nat)] (.list (iL (sizesOf row total))) := by
  refine ct_fn oA F ok3 rfl (by with_unfolding_all rfl) fun sb P0 L s0 hs0 k0 S0 => ?_
  have oA' : OkA (n + 1) (A.deeper (envOfC (theDef 3).name (theDef 3).scope L a cd)) := oA.deeper _
  generalize hA' : A.deeper (envOfC (theDef 3).name (theDef 3).scope L a cd) = A' at oA' ⊢
  have T0 := T.sub (hs0.trans S0.keep)
  obtain ⟨at_, ct_, gt, Ft⟩ := T0.at (i := 2)
  obtain ⟨ot, _, _, hot, hft⟩ := Ft.obj
  refine wpAny_execs_cons (st_assign (d := .list (iL (told row total))) S0 (ev_call_fn (T0.glob gt).lk hot hft (evl_cons (ev_has (S0.has (d := .list (iL row)) (by with_unfolding_all rfl))) (evl_one (ev_has (S0.has (d := .int total) (by with_unfolding_all rfl))))) (ct_told oA' T0 Ft row total hx hm h1)) fun s1 _ S1 => ?_)
  have hl := told_len row total
  have hin : (told row total).length ≤ 20 := by lia
  generalize ht : told row total = t at *
  have T1 := T.sub (hs0.trans S1.keep)
  have htold := S1.has (x := "told") (d := .list (iL t)) (by with_unfolding_all rfl)
  have htot := S1.has (x := "total") (d := .int total) (by with_unfolding_all rfl)
  refine wpAny_execs_cons (st_assign (d := .list (iL (edgesOf t total))) S1 (ev_cast (ev_bin (ev_list (evl_one (ev_int 0 _ _))) (ev_call_bi (T1.blt (x := "sorted") boot_sorted).lk (evl_one (ev_cast (ev_comp (ds := (List.range (t.length + 1)).map fun (i : Nat) => D.int i) (d := .range 0 ((t.length + 1 : Nat) : Int) 1) scOk_of (fun k => decide ((t.take k).sum < total)) (fun k => .int ((total - (t.take k).sum : Nat) : Int))
    (ev_range1 (T1.blt (x := "range") boot_range).lk (ev_bin (ev_len_list (T1.blt (x := "len") boot_len).lk (ev_has htold) (iL_len t) (by lia)) (ev_int 1 _ _) (op_add _ _))) (fun P s v r => src_range1 oA'.handled (by lia) r) (fun b e => e.2) (by simp; lia) (fun K C h' i di v hk lk hdi rv => ?body)) ?cast)) (ct_sorted_nats (((List.range (t.length + 1)).filter fun k => decide ((t.take k).sum < total)).map fun k => total - (t.take k).sum) ?srt)) (op_cat _ _ ?cat)) ?cast2) fun s2 _ S2 => ?_)
  case body =>
    obtain ⟨hi, rfl⟩ := range_at hdi
    have lsum := ScOk.glob (C := C) K (by with_unfolding_all rfl) ((T1.sub hk).blt (x := "sum") (env := envOfC (theDef 3).name (theDef 3).scope L a cd) boot_sum) (by decide)
    have ht' := (htold.sub hk).free (C := C) K
    have htot' := (htot.sub hk).free (C := C) K
    have e1 : pick (iL t) none (some (i : Int)) none = iL (t.take i) := by rw [iL_pick, pick_upto _ _ (by lia)]; simp
    refine ⟨trL_one (tr_cast (tr_cmp' (ev_sum_nats lsum oA'.handled (ev_cast (ev_slice_list (ev_has ht') .none (.some (ev_name lk (rv.flat rfl))) .none (by decide) (by rw [iL_len]; lia)) (congrArg D.list e1))) (ev_has htot') (op_lt _ _)) (by simp)), fun hp => ev_cast (ev_bin (ev_has htot') (ev_sum_nats lsum oA'.handled (ev_cast (ev_slice_list (ev_has ht') .none (.some (ev_name lk (rv.flat rfl))) .none (by decide) (by rw [iL_len]; lia)) (congrArg D.list e1))) (op_sub _ _)) ?_⟩
    have := of_decide_eq_true hp
    congr 1; lia
  case cast => simp [iL]
  case srt =>
    have := List.length_filter_le (fun k => decide ((t.take k).sum < total)) (List.range (t.length + 1))
    simp at this ⊢; lia
  case cat =>
    have := List.length_filter_le (fun k => decide ((t.take k).sum < total)) (List.range (t.length + 1))
    have := (isort_perm (((List.range (t.length + 1)).filter fun k => decide ((t.take k).sum < total)).map fun k => total - (t.take k).sum)).length_eq
    simp [iL_len] at *; lia
  case cast2 => simp [iL, edgesOf]
  · have T2 := T.sub (hs0.trans S2.keep)
    have hel : (edgesOf t total).length ≤ 22 := by
      have := List.length_filter_le (fun k => decide ((t.take k).sum < total)) (List.range (t.length + 1))
      have := (isort_perm (((List.range (t.length + 1)).filter fun k => decide ((t.take k).sum < total)).map fun k => total - (t.take k).sum)).length_eq
      simp [edgesOf] at *; lia
    have hep : 1 ≤ (edgesOf t total).length := by simp [edgesOf]
    have hes : (edgesOf t total).Pairwise (· ≤ ·) := List.pairwise_cons.mpr ⟨fun _ _ => Nat.zero_le _, isort_sorted _⟩
    have hed := S2.has (x := "edges") (d := .list (iL (edgesOf t total))) (by with_unfolding_all rfl)
    have hsz : sizesOf row total = diffs (edgesOf t total) := by rw [sizesOf, ht]
    rw [hsz]
    generalize edgesOf t total = es at *
    refine wpAny_execs_cons (st_return S2 k0 (fun _ e => e) (ev_cast (ev_comp (ds := (List.range (es.length - 1)).map fun (i : Nat) => D.int i) (d := .range 0 ((es.length - 1 : Nat) : Int) 1) scOk_of (fun _ => true) (fun k => .int ((es.getD (k + 1) 0 - es.getD k 0 : Nat) : Int))
      (ev_cast (ev_range1 (T2.blt (x := "range") boot_range).lk (ev_bin (ev_len_list (T2.blt (x := "len") boot_len).lk (ev_has hed) (iL_len es) (by lia)) (ev_int 1 _ _) (op_sub _ _))) ?rng) (fun P s v r => src_range1 oA'.handled (by lia) r) (fun b e => e.2) (by simp; lia) (fun K C h' i di v hk lk hdi rv => ?body)) ?cast) fun v s3 r => r)
    case rng => congr 1; lia
    case body =>
      obtain ⟨hi, rfl⟩ := range_at hdi
      have he' := (hed.sub hk).free (C := C) K
      have h1' : i < es.length := by lia
      have h2' : i + 1 < es.length := by lia
      refine ⟨trL_nil, fun _ => ev_cast (ev_bin ((ev_nth (ev_has he'.all) (ev_bin (ev_name lk rv) (ev_int 1 _ _) (op_add _ _)) (i := i + 1) (d := .int (es.getD (i + 1) 0 : Nat)) (by rw [iL_get, List.getElem?_eq_getElem h2']; simp [h2']) (by lia)).flat rfl) ((ev_nth (ev_has he'.all) (ev_name lk rv) (d := .int (es.getD i 0 : Nat)) (by rw [iL_get, List.getElem?_eq_getElem h1']; simp [h1']) (by lia)).flat rfl) (op_sub _ _)) ?_⟩
      have := List.pairwise_iff_getElem.mp hes i (i + 1) h1' h2' (by lia)
      simp only [List.getD_eq_getElem?_getD, List.getElem?_eq_getElem h1', List.getElem?_eq_getElem h2', Option.getD_some]
      congr 1; lia
    case cast => simp [iL, diffs, Function.comp_def, filter_all]
end
end Mine
end
noncomputable section
open PySem PySem.W PyProof.Rows
set_option Elab.async false
set_option autoImplicit false
set_option linter.unusedVariables false
set_option linter.unusedSimpArgs false
set_option maxRecDepth 4000
namespace Mine
section
variable {sb : Shared} {G : Addr → Prop} {env : Env} {X : Addr → Prop} {sa : Shared}
variable {prog : Program} {w : World} {A : Around}
theorem assign_order {E : Value → Shared → Prop} {Q : Unit → Shared → Prop} : ∀ (names : List Str) (ds : List D) (vs : List Value) (vars : List (Str × D)) (s : Shared), Sta sb G env X sa vars s → names.length = ds.length → RdL (fun b => ¬ XX env X b ∧ G b) s.heap ds vs →
    names.all (fun x => env.kindOf x == some .local && !(x == ("__debug__" : Str))) = true → (∀ s', Kx (FrA env) s s' → Sta sb G env X sa ((names.zip ds).reverse ++ vars) s' → Q () s') → wpAny (model prog w) A (assignInOrder (names.map fun n => bindName env n) vs) Q E s
  | [], [], vs, vars, s, S, _, r, _, hQ => by
    rw [rdL_nil.mp r]
    exact wpAny_pure (hQ s (Kx.refl _ _) S)
  | n :: ns, d :: ds, vs, vars, s, S, hl, r, hk, hQ => by
    obtain ⟨v, q, rfl, h1, h2⟩ := rdL_cons.mp r
    rw [List.all_cons] at hk
    have hk1 := (Bool.and_eq_true _ _ ▸ hk).1
    have hk2 := (Bool.and_eq_true _ _ ▸ hk).2
    have hk3 : env.kindOf n = some .local ∧ (n == ("__debug__" : Str)) = false := by simpa using hk1
    show wpAny _ _ (do holding q (bindName env n v); assignInOrder (ns.map fun n => bindName env n) q) _ _ s
    refine wpAny_bind (wpAny_holding (bindName_ (S.store h1 (.inl hk3.1) hk3.2 fun s1 k1 S1 => ?_)))
    refine assign_order ns ds q _ s1 S1 (by simpa using hl) (h2.on (fun _ e => e) fun a o e z => k1.keep a o (fun y => e.1 (.inl y)) z) hk2 fun s2 k2 S2 => hQ s2 (k1.trans k2) ?_
    simpa using S2
  | [], _ :: _, _, _, _, _, hl, _, _, _ => by simp at hl
  | _ :: _, [], _, _, _, _, hl, _, _, _ => by simp at hl
theorem st_tuple {E : Value → Shared → Prop} {Q : Flow → Shared → Prop} {vars : List (Str × D)} {s : Shared} {elts es : List Expr} {k k2 : Nat} {tpos pos2 pos : Pos} {names : List Str} {ds : List D} (S : Sta sb G env X sa vars s) (hh : A.handled = none)
    (x : EvL prog w A env (PP G env X s.heap) s.heap es ds) (hl : names.length = ds.length) (hn : ds.length ≤ 1000)
    (hQ : ∀ s', Kx (FrA env) s s' → Sta sb G env X sa ((names.reverse.zip ds.reverse).reverse ++ vars) s' → Q .next s')
    (hk : names.reverse.all (fun x => env.kindOf x == some .local && !(x == ("__debug__" : Str))) = true := by with_unfolding_all rfl)
    (hs : swapsWithSole [.Tuple elts k tpos] (.Tuple es k2 pos2) pos.line env = pure false := by with_unfolding_all rfl)
    (hw : swappedStores [.Tuple elts k tpos] (.Tuple es k2 pos2) env = pure (some names) := by with_unfolding_all rfl) :
    wpAny (model prog w) A (exec (.Assign [.Tuple elts k tpos] (.Tuple es k2 pos2) pos) env) Q E s := by
  refine Assign_Tuple_swapped (ev_tuple x hn s (.refl _) _ _ fun v s1 k1 r1 => ?_) hs hw
  obtain ⟨a, vs, rfl, _, ht, r⟩ := rd_tuple.mp r1
  have hlen : names.length = vs.toArray.size := by rw [List.size_toArray, r.length, hl]
  rw [hlen]
  refine wpAny_unpackItems_tuple hh ht fun h' he => ?_
  have kk : Kp s1 { s1 with heap := h' } := Kp.heap (t := s1.toks) fun b o e => he b o (fun q => by rw [q, get_size] at e; cases e) e
  have S1 := (S.kp k1).kp kk
  have r' : RdL (fun b => ¬ XX env X b ∧ G b) h' ds.reverse vs.reverse := ((r.mono fun b e => S.good e).sub kk.keep).reverse
  have e : (vs.toArray.toList).reverse = vs.reverse := by simp
  rw [e]
  exact assign_order names.reverse ds.reverse vs.reverse vars _ S1 (by simp [hl]) r' hk fun s2 k2 S2 => hQ s2 ((k1.trans kk).kx.trans k2) S2
end
end Mine
end
noncomputable section
open PySem PySem.W PyProof.Rows
set_option Elab.async false
set_option autoImplicit false
set_option linter.unusedVariables false
set_option linter.unusedSimpArgs false
set_option maxRecDepth 4000
namespace Mine
theorem comp_list {α β : Type} (d : α) (q : α → Bool) (g : α → β) : ∀ (zs : List α), ((List.range zs.length).filter fun i => q (zs.getD i d)).map (fun i => g (zs.getD i d)) = (zs.filter q).map g := by
  intro zs
  have h1 : (List.range zs.length).map (fun i => zs.getD i d) = zs := by
    apply List.ext_getElem
    · simp
    · intro i h1 h2
      simp at h1
      simp [h1]
  have h2 : ((List.range zs.length).map (fun i => zs.getD i d)).filter q = zs.filter q := by rw [h1]
  rw [List.filter_map] at h2
  rw [← h2, List.map_map]
  rfl
theorem tail_pick (x : Nat) (xs : List Nat) : pick (iL (x :: xs)) (some 1) none none = iL xs := by rw [iL_pick, pick_from _ _ (by lia)]; rfl
abbrev CS := Nat × List Nat × List Nat
def cmain (c : Nat) (U L : List Nat) : CS :=
  if L.headD 0 - U.headD 0 = 0 then (c + U.headD 0, U.tail, L.tail)
  else if L.headD 0 - U.headD 0 < U.headD 0 then (c, (U.headD 0 - (L.headD 0 - U.headD 0)) :: U.tail, U.headD 0 :: L.tail)
  else (c, U.tail, ([L.headD 0 - U.headD 0 - U.headD 0, U.headD 0].filter fun n => decide (0 < n)) ++ L.tail)
def cstep (a : CS) : CS := if L0 : a.2.2.headD 0 < a.2.1.headD 0 then cmain a.1 a.2.2 a.2.1 else cmain a.1 a.2.1 a.2.2
def cmu (a : CS) : Nat := a.2.1.sum + a.2.2.sum
def cwf (a : CS) : Prop := (∀ n ∈ a.2.1, 0 < n) ∧ (∀ n ∈ a.2.2, 0 < n) ∧ a.2.1.sum = a.2.2.sum
def cnt : Nat → CS → Nat
  | 0, a => a.1
  | n + 1, a => if a.2.1 = [] then a.1 else cnt n (cstep a)
theorem cmain_cons (c u l : Nat) (us ls : List Nat) : cmain c (u :: us) (l :: ls) = if l - u = 0 then (c + u, us, ls) else if l - u < u then (c, (u - (l - u)) :: us, u :: ls) else (c, us, ([l - u - u, u].filter fun n => decide (0 < n)) ++ ls) := rfl
theorem cmain_ok {c : Nat} {U L : List Nat} (h : cwf (c, U, L)) (hU : U ≠ []) (hle : U.headD 0 ≤ L.headD 0) : cwf (cmain c U L) ∧ cmu (cmain c U L) < U.sum + L.sum := by
  obtain ⟨h1, h2, h3⟩ := h
  cases U with
  | nil => exact absurd rfl hU
  | cons u us =>
    have hu := h1 u List.mem_cons_self
    cases L with
    | nil => simp at h3; lia
    | cons l ls =>
      have hl := h2 l List.mem_cons_self
      have h1' : ∀ n ∈ us, 0 < n := fun n hn => h1 n (List.mem_cons_of_mem _ hn)
      have h2' : ∀ n ∈ ls, 0 < n := fun n hn => h2 n (List.mem_cons_of_mem _ hn)
      simp only [List.sum_cons, List.headD_cons] at h3 hle
      rw [cmain_cons]
      by_cases q : l - u = 0
      · rw [if_pos q]; refine ⟨⟨h1', h2', by simp; lia⟩, by simp [cmu]; lia⟩
      · rw [if_neg q]
        by_cases q2 : l - u < u
        · rw [if_pos q2]
          refine ⟨⟨fun n hn => ?_, fun n hn => ?_, by simp; lia⟩, by simp [cmu]; lia⟩
          · rcases List.mem_cons.mp hn with rfl | hn
            · lia
            · exact h1' n hn
          · rcases List.mem_cons.mp hn with rfl | hn
            · lia
            · exact h2' n hn
        · rw [if_neg q2]
          have hs : (([l - u - u, u].filter fun n => decide (0 < n)) ++ ls).sum = l - u + ls.sum := by
            by_cases q : 0 < l - u - u
            · simp [q, hu]; lia
            · simp [q, hu]; lia
          refine ⟨⟨h1', fun n hn => ?_, ?_⟩, ?_⟩
          · rcases List.mem_append.mp hn with hn | hn
            · exact of_decide_eq_true (List.mem_filter.mp hn).2
            · exact h2' n hn
          · show us.sum = _
            rw [hs]; lia
          · show us.sum + _ < _
            rw [hs]; simp; lia
theorem cstep_ok {a : CS} (h : cwf a) (hU : a.2.1 ≠ []) : cwf (cstep a) ∧ cmu (cstep a) < cmu a := by
  obtain ⟨c, U, L⟩ := a
  unfold cstep
  split
  · rename_i hlt
    simp only at hlt hU ⊢
    have hL : L ≠ [] := fun e => by
      subst e
      obtain ⟨h1, h2, h3⟩ := h
      cases U with
      | nil => exact hU rfl
      | cons u us => have := h1 u List.mem_cons_self; simp at h3; lia
    have := cmain_ok (c := c) (U := L) (L := U) ⟨h.2.1, h.1, h.2.2.symm⟩ hL (by lia)
    refine ⟨this.1, ?_⟩
    have := this.2
    simp only [cmu] at *; lia
  · rename_i hlt
    simp only at hlt hU ⊢
    exact cmain_ok h hU (by lia)
theorem cnt_more : ∀ (n m : Nat) (a : CS), cwf a → cmu a ≤ n → cmu a ≤ m → cnt n a = cnt m a := by
  intro n
  induction n with
  | zero =>
    intro m a hw hn _
    have : a.2.1 = [] := by
      obtain ⟨c, U, L⟩ := a
      cases U with
      | nil => rfl
      | cons u us => have := hw.1 u List.mem_cons_self; simp [cmu] at hn; lia
    cases m with
    | zero => rfl
    | succ m => simp [cnt, this]
  | succ n ih =>
    intro m a hw hn hm
    by_cases hU : a.2.1 = []
    · cases m with
      | zero => simp [cnt, hU]
      | succ m => simp [cnt, hU]
    · obtain ⟨h1, h2⟩ := cstep_ok hw hU
      cases m with
      | zero => lia
      | succ m =>
        simp only [cnt, hU, if_false]
        exact ih m _ h1 (by lia) (by lia)
def count (U L : List Nat) : Nat := cnt (U.sum + L.sum) (0, U, L)
theorem ok5 : FnOk (theDef 5) ["upper", "lower"] :=
  ⟨fun pm cd doc vs hl => by
    obtain ⟨a, b, rfl⟩ := two_of hl
    with_unfolding_all rfl, by decide, by with_unfolding_all decide, by with_unfolding_all rfl, by with_unfolding_all rfl, by with_unfolding_all decide⟩
section
variable {prog : Program} {w : World} {A : Around} {h : Heap} {mg mb : Str → Option Value}
def cV (a : CS) : List (Str × D) := [("count", .int a.1), ("upper", .list (iL a.2.1)), ("lower", .list (iL a.2.2))]
theorem ct_count {n : Nat} {a_1 : Addr} {cd : Value} (oA : OkA (n + 1) A) (T : Gd mg mb h) (F : FnAt h a_1 (theDef 5) cd) (U L : List Nat) (hw : cwf (0, U, L)) (hs : U.sum ≤ 100) :
    Ct prog w A h (.ref a_1) [.list (iL U), .list (iL L)] (.int (count U L : Nat)) := by
  refine ct_fn oA F ok5 rfl (by with_unfolding_all rfl) fun sb P0 L' s0 hs0 k0 S0 => ?_
  have oA' : OkA n (A.deeper (envOfC (theDef 5).name (theDef 5).scope L' a_1 cd)) := oA.deeper _
  generalize hA' : A.deeper (envOfC (theDef 5).name (theDef 5).scope L' a_1 cd) = A' at oA' ⊢
  refine wpAny_execs_cons (st_assign (d := .int ((0 : Nat) : Int)) S0 (ev_int 0 _ _) fun s1 _ S1 => ?_)
  refine wpAny_execs_cons (sta_while cV cmu (fun a => decide (a.2.1 ≠ [])) (fun a => cwf a ∧ a.2.1.sum ≤ 100 ∧ cnt (cmu a) a = count U L) (0, U, L) S1 ?_ ⟨hw, hs, rfl⟩ (fun a s2 hok S2 => ?_) (fun a s2 hok S2 hc => ?_) fun a s2 hok hc S2 => ?_)
  · intro p hp
    simp only [cV, List.mem_cons, List.not_mem_nil, or_false] at hp
    rcases hp with rfl | rfl | rfl <;> with_unfolding_all rfl
  · refine tr_cast (tr_cmp' (ev_has (S2.has (d := .list (iL a.2.1)) (by with_unfolding_all rfl))) (ev_list .nil) (op_ne_nats oA' a.2.1 [])) ?_
    cases a.2.1 <;> simp
  · obtain ⟨c, U1, L1⟩ := a
    obtain ⟨hwf, hsum, hcnt⟩ := hok
    have hU : U1 ≠ [] := of_decide_eq_true hc
    obtain ⟨u, us, rfl⟩ : ∃ u us, U1 = u :: us := List.exists_cons_of_ne_nil hU
    obtain ⟨l, ls, rfl⟩ : ∃ l ls, L1 = l :: ls := by
      cases L1 with
      | nil => have := hwf.1 u List.mem_cons_self; have := hwf.2.2; simp at this; lia
      | cons l ls => exact ⟨l, ls, rfl⟩
    obtain ⟨hw', hmu'⟩ := cstep_ok hwf hU
    have hcnt' : cnt (cmu (cstep (c, u :: us, l :: ls))) (cstep (c, u :: us, l :: ls)) = count U L := by
      rw [← hcnt]
      obtain ⟨m, hm⟩ : ∃ m, cmu (c, u :: us, l :: ls) = m + 1 := ⟨cmu (c, u :: us, l :: ls) - 1, by lia⟩
      rw [hm, cnt, if_neg hU]
      exact cnt_more _ _ _ hw' (Nat.le_refl _) (by lia)
    have hsum' : (cstep (c, u :: us, l :: ls)).2.1.sum ≤ 100 := by
      have e1 := hw'.2.2
      have e2 : (u :: us).sum = (l :: ls).sum := hwf.2.2
      have e3 : (u :: us).sum ≤ 100 := hsum
      simp only [cmu] at hmu'
      lia
    have lens : ∀ (zs : List Nat), (∀ n ∈ zs, 0 < n) → zs.length ≤ zs.sum := by
      intro zs
      induction zs with
      | nil => simp
      | cons z zs ih =>
        intro h
        have := h z List.mem_cons_self
        have := ih fun n hn => h n (List.mem_cons_of_mem _ hn)
        simp; lia
    have hu2 := S2.has (x := "upper") (d := .list (iL (u :: us))) (by with_unfolding_all rfl)
    have hl2 := S2.has (x := "lower") (d := .list (iL (l :: ls))) (by with_unfolding_all rfl)
    -- the lesser first group comes first
    refine wpAny_execs_cons (wpAny_mono (Q := fun f s3 => f = .next ∧ ∃ x xs y ys, x ≤ y ∧ cwf (c, x :: xs, y :: ys) ∧ cstep (c, u :: us, l :: ls) = cmain c (x :: xs) (y :: ys) ∧ (x :: xs).sum ≤ 100 ∧ Sta sb (Nw P0 sb) (envOfC (theDef 5).name (theDef 5).scope L' a_1 cd) (fun _ => False) s0 [("count", .int c), ("upper", .list (iL (x :: xs))), ("lower", .list (iL (y :: ys)))] s3) (st_if (b := decide (l < u)) (tr_cast (tr_cmp' (ev_nth (ev_has hu2) (ev_int 0 _ _) (i := 0) (d := .int u) rfl (by lia)) (ev_nth (ev_has hl2) (ev_int 0 _ _) (i := 0) (d := .int l) rfl (by lia)) (op_gt _ _)) (by simp)) (fun s3 k3 hb => ?_) fun s3 k3 hb => ?_) (fun f s3 hf => ?_) fun _ _ e => e)
    · have hlt : l < u := of_decide_eq_true hb
      have S3 := S2.kp k3
      refine wpAny_execs_cons (st_tuple (names := ["upper", "lower"]) S3 oA'.handled (evl_cons (ev_has (S3.has (d := .list (iL (l :: ls))) (by with_unfolding_all rfl))) (evl_one (ev_has (S3.has (d := .list (iL (u :: us))) (by with_unfolding_all rfl))))) rfl (by simp) fun s4 _ S4 => wpAny_execs_nil ⟨rfl, l, ls, u, us, by lia, ⟨hwf.2.1, hwf.1, hwf.2.2.symm⟩, ?_, ?_, S4.weak ?_⟩)
      · simp [cstep, hlt]
      · have e2 : (u :: us).sum = (l :: ls).sum := hwf.2.2
        have e3 : (u :: us).sum ≤ 100 := hsum
        lia
      · intro p hp
        simp only [List.mem_cons, List.not_mem_nil, or_false] at hp
        rcases hp with rfl | rfl | rfl <;> with_unfolding_all rfl
    · have hlt : ¬ l < u := of_decide_eq_false hb
      refine wpAny_execs_nil ⟨rfl, u, us, l, ls, by lia, hwf, ?_, hsum, (S2.kp k3).weak ?_⟩
      · simp [cstep, hlt]
      · intro p hp
        simp only [List.mem_cons, List.not_mem_nil, or_false] at hp
        rcases hp with rfl | rfl | rfl <;> with_unfolding_all rfl
    · obtain ⟨rfl, x, xs, y, ys, hxy, hwx, hst, hsx, S3⟩ := hf
      have hx0 := hwx.1 x List.mem_cons_self
      have hsy : (x :: xs).sum = (y :: ys).sum := hwx.2.2
      have hxl := lens _ hwx.1
      have hyl := lens _ hwx.2.1
      simp only [List.length_cons] at hxl hyl
      rw [hst] at hw' hmu' hcnt' hsum'
      have out : ∀ a', a' = cmain c (x :: xs) (y :: ys) → ∀ s5, Sta sb (Nw P0 sb) (envOfC (theDef 5).name (theDef 5).scope L' a_1 cd) (fun _ => False) s0 (cV a') s5 → ∃ a', cmu a' < cmu (c, u :: us, l :: ls) ∧ (cwf a' ∧ a'.2.1.sum ≤ 100 ∧ cnt (cmu a') a' = count U L) ∧ Sta sb (Nw P0 sb) (envOfC (theDef 5).name (theDef 5).scope L' a_1 cd) (fun _ => False) s0 (cV a') s5 := by
        rintro a' rfl s5 S5
        exact ⟨_, hmu', ⟨hw', hsum', hcnt'⟩, S5⟩
      rw [cmain_cons] at out
      refine wpAny_execs_cons (st_assign (d := .int x) S3 (ev_nth (ev_has (S3.has (d := .list (iL (x :: xs))) (by with_unfolding_all rfl))) (ev_int 0 _ _) (i := 0) rfl (by lia)) fun s4 _ S4 => ?_)
      refine wpAny_execs_cons (st_assign (d := .int ((y - x : Nat) : Int)) S4 (ev_cast (ev_bin (ev_nth (ev_has (S4.has (d := .list (iL (y :: ys))) (by with_unfolding_all rfl))) (ev_int 0 _ _) (i := 0) (d := .int y) rfl (by lia)) (ev_has (S4.has (d := .int x) (by with_unfolding_all rfl))) (op_sub _ _)) (by congr 1; lia)) fun s5 _ S5 => ?_)
      have hov := S5.has (x := "over") (d := .int ((y - x : Nat) : Int)) (by with_unfolding_all rfl)
      refine wpAny_execs_cons (st_if (b := decide (y - x = 0)) (tr_cast (tr_cmp' (ev_has hov) (ev_int 0 _ _) (op_eq _ _)) ?_) (fun s6 k6 hb => ?_) fun s6 k6 hb => ?_)
      · rw [Bool.eq_iff_iff]; simp only [beq_iff_eq, decide_eq_true_eq]; lia
      · have S6 := S5.kp k6
        have hb' : y - x = 0 := of_decide_eq_true hb
        rw [if_pos hb'] at out
        refine wpAny_execs_cons (st_tuple (names := ["count", "upper", "lower"]) (ds := [.int ((c + x : Nat) : Int), .list (iL xs), .list (iL ys)]) S6 oA'.handled
          (evl_cons (ev_cast (ev_bin (ev_has (S6.has (d := .int c) (by with_unfolding_all rfl))) (ev_has (S6.has (d := .int x) (by with_unfolding_all rfl))) (op_add _ _)) (by simp))
            (evl_cons (ev_cast (ev_slice_list (ev_has (S6.has (d := .list (iL (x :: xs))) (by with_unfolding_all rfl))) (.some (ev_int 1 _ _)) .none .none (by decide) (by simp [iL_len]; lia)) (congrArg D.list (tail_pick x xs)))
              (evl_one (ev_cast (ev_slice_list (ev_has (S6.has (d := .list (iL (y :: ys))) (by with_unfolding_all rfl))) (.some (ev_int 1 _ _)) .none .none (by decide) (by simp [iL_len]; lia)) (congrArg D.list (tail_pick y ys)))))) rfl (by simp) fun s7 _ S7 => wpAny_execs_nil (wpAny_execs_nil (out _ rfl s7 (S7.weak ?_))))
        intro p hp
        simp only [cV, List.mem_cons, List.not_mem_nil, or_false] at hp
        rcases hp with rfl | rfl | rfl <;> with_unfolding_all rfl
      · have S6 := S5.kp k6
        have hb' : ¬ (y - x = 0) := of_decide_eq_false hb
        rw [if_neg hb'] at out
        refine wpAny_execs_cons (st_if (b := decide (y - x < x)) (tr_cast (tr_cmp' (ev_has (S6.has (d := .int x) (by with_unfolding_all rfl))) (ev_has (S6.has (d := .int ((y - x : Nat) : Int)) (by with_unfolding_all rfl))) (op_gt _ _)) ?_) (fun s7 k7 hb2 => ?_) fun s7 k7 hb2 => ?_)
        · rw [Bool.eq_iff_iff]; simp only [decide_eq_true_eq]; lia
        · have S7 := S6.kp k7
          have hb3 : y - x < x := of_decide_eq_true hb2
          rw [if_pos hb3] at out
          refine wpAny_execs_cons (st_tuple (names := ["upper", "lower"]) (ds := [.list (iL ((x - (y - x)) :: xs)), .list (iL (x :: ys))]) S7 oA'.handled
            (evl_cons (ev_cast (ev_bin (ev_list (evl_one (ev_bin (ev_has (S7.has (d := .int x) (by with_unfolding_all rfl))) (ev_has (S7.has (d := .int ((y - x : Nat) : Int)) (by with_unfolding_all rfl))) (op_sub _ _)))) (ev_cast (ev_slice_list (ev_has (S7.has (d := .list (iL (x :: xs))) (by with_unfolding_all rfl))) (.some (ev_int 1 _ _)) .none .none (by decide) (by simp [iL_len]; lia)) (congrArg D.list (tail_pick x xs))) (op_cat _ _ (by simp [iL_len]; lia))) ?_)
              (evl_one (ev_cast (ev_bin (ev_list (evl_one (ev_has (S7.has (d := .int x) (by with_unfolding_all rfl))))) (ev_cast (ev_slice_list (ev_has (S7.has (d := .list (iL (y :: ys))) (by with_unfolding_all rfl))) (.some (ev_int 1 _ _)) .none .none (by decide) (by simp [iL_len]; lia)) (congrArg D.list (tail_pick y ys))) (op_cat _ _ (by simp [iL_len]; lia))) rfl))) rfl (by simp) fun s8 _ S8 => wpAny_execs_nil (wpAny_execs_nil (wpAny_execs_nil (out _ rfl s8 (S8.weak ?_)))))
          · simp only [iL, List.map_cons, List.cons_append, List.nil_append]; congr 2; congr 1; lia
          · intro p hp
            simp only [cV, List.mem_cons, List.not_mem_nil, or_false] at hp
            rcases hp with rfl | rfl | rfl <;> with_unfolding_all rfl
        · have S7 := S6.kp k7
          have hb3 : ¬ (y - x < x) := of_decide_eq_false hb2
          rw [if_neg hb3] at out
          refine wpAny_execs_cons (st_tuple (names := ["upper", "lower"]) (ds := [.list (iL xs), .list (iL (([y - x - x, x].filter fun n => decide (0 < n)) ++ ys))]) S7 oA'.handled
            (evl_cons (ev_cast (ev_slice_list (ev_has (S7.has (d := .list (iL (x :: xs))) (by with_unfolding_all rfl))) (.some (ev_int 1 _ _)) .none .none (by decide) (by simp [iL_len]; lia)) (congrArg D.list (tail_pick x xs)))
              (evl_one (ev_cast (ev_bin (ev_comp (ds := iL [y - x - x, x]) (d := .list (iL [y - x - x, x])) scOk_of (fun i => decide (0 < [y - x - x, x].getD i 0)) (fun i => .int ([y - x - x, x].getD i 0 : Nat))
                (ev_cast (ev_list (evl_cons (ev_bin (ev_has (S7.has (d := .int ((y - x : Nat) : Int)) (by with_unfolding_all rfl))) (ev_has (S7.has (d := .int x) (by with_unfolding_all rfl))) (op_sub _ _)) (evl_one (ev_has (S7.has (d := .int x) (by with_unfolding_all rfl)))))) ?_) (fun P s v r => src_list oA'.handled r) (fun b e => e.2) (by simp [iL_len]) (fun K C h' i di v hk lk hdi rv => ?_))
                (ev_cast (ev_slice_list (ev_has (S7.has (d := .list (iL (y :: ys))) (by with_unfolding_all rfl))) (.some (ev_int 1 _ _)) .none .none (by decide) (by simp [iL_len]; lia)) (congrArg D.list (tail_pick y ys))) (op_cat _ _ ?_)) ?_))) rfl (by simp) fun s8 _ S8 => wpAny_execs_nil (wpAny_execs_nil (wpAny_execs_nil (out _ rfl s8 (S8.weak ?_)))))
          · simp only [iL, List.map_cons, List.map_nil]; congr 2; congr 1; lia
          · have hdi2 : di = .int ([y - x - x, x].getD i 0 : Nat) := by
              rw [iL_get] at hdi
              cases e : [y - x - x, x][i]? with
              | none => rw [e] at hdi; cases hdi
              | some z => rw [e] at hdi; rw [List.getD_eq_getElem?_getD, e]; exact (Option.some.inj hdi).symm
            subst hdi2
            refine ⟨trL_one (tr_cast (tr_cmp' (P := All) (ev_name lk (rv.flat rfl)) (ev_int 0 _ _) (op_gt _ _)) ?_), fun _ => ev_name lk (rv.flat rfl)⟩
            rw [Bool.eq_iff_iff]; simp only [decide_eq_true_eq]; lia
          · have := List.length_filter_le (fun i => decide (0 < [y - x - x, x].getD i 0)) (List.range (iL [y - x - x, x]).length)
            simp only [List.length_map, iL_len, List.length_range, List.length_cons, List.length_nil] at this ⊢; lia
          · have := comp_list 0 (fun n => decide (0 < n)) (fun (n : Nat) => D.int n) [y - x - x, x]
            rw [iL_len, this]; simp [iL]
          · intro p hp
            simp only [cV, List.mem_cons, List.not_mem_nil, or_false] at hp
            rcases hp with rfl | rfl | rfl <;> with_unfolding_all rfl
  · have hU : a.2.1 = [] := by simpa using hc
    have hres : a.1 = count U L := by
      rw [← hok.2.2]
      cases hmu : cmu a with
      | zero => rfl
      | succ m => simp [cnt, hU]
    refine wpAny_execs_cons (st_return S2 k0 (fun _ e => e) (ev_has (S2.has (x := "count") (d := .int (count U L : Nat)) ?_)) fun v s3 r => r)
    rw [← hres]; with_unfolding_all rfl
end
end Mine
end
noncomputable section
open PySem PySem.W PyProof.Rows
set_option Elab.async false
set_option autoImplicit false
set_option linter.unusedVariables false
set_option linter.unusedSimpArgs false
set_option maxRecDepth 100000
namespace Mine
/-! facts of the table about bytearray -/
theorem ba_mro : mroOf (.type "bytearray") = pure [.type "bytearray", .type "object"] := by rw [mroOf_type]; kernel_rfl
theorem ba_lookup_new : typeLookup (.type "bytearray") "__new__" = pure (some (.builtin "bytearray.__new__")) := by rw [typeLookup_type, builtinLookup_eq_fast]; kernel_rfl
theorem ba_slot_init : Slot "bytearray" "__init__" "bytearray.__init__" :=
  .of (owner := "bytearray") (n := "__init__") (by rw [typeLookup_type, builtinLookup_eq_fast]; kernel_rfl) (by decide +kernel) (by decide +kernel) (by decide +kernel)
    (by first | exact .inl (by decide +kernel) | exact .inr (by decide +kernel)) (by rw [isSubtype_type]; kernel_rfl)
theorem ba_called : TypeCalled "bytearray" "bytearray.__new__" "bytearray.__init__" :=
  ⟨by decide +kernel, by decide +kernel, ⟨_, _, ba_mro⟩, madeBy_type ba_mro ba_lookup_new (by decide +kernel), by decide +kernel, by rw [isSubtype_type]; kernel_rfl, ba_slot_init⟩
theorem ba_typeCall (a : Value) : checkTypeCall "bytearray" ⟨[a], []⟩ = pure () := by kernel_rfl
theorem ba_newCall (a : Value) : checkBuiltinCall "bytearray.__new__" ⟨[.type "bytearray", a], []⟩ = pure () := by kernel_rfl
theorem ba_entry_new : entryFor table "bytearray.__new__" = some Builtin.«list.__new__» := entryFor_alias (id' := "list.__new__") (by rw [fastTable_eq_tree]; kernel_rfl) (by first | rfl | decide +kernel) (by decide +kernel) (by rw [fastTable_eq_tree]; kernel_rfl)
theorem ba_plain_new : plainId "bytearray.__new__" = true := by decide +kernel
theorem ba_entry_init : entryFor table "bytearray.__init__" = some Builtin.«bytearray.__init__» := entryFor_of_tree (by kernel_rfl)
theorem ba_owner : Manifest.owners.lookup (String.ofList ['y', 'a', 'r', 'r', 'a', 'e', 't', 'y', 'b'].reverse) = some Manifest.sig_bytearray := by kernel_rfl
theorem ba_args_init (a b : Value) : argsOk "bytearray.__init__" ⟨[a, b], []⟩ := by
  unfold argsOk; rw [signature?_of (id := "bytearray.__init__") (n := ['_', '_', 't', 'i', 'n', 'i', '_', '_']) (o := ['y', 'a', 'r', 'r', 'a', 'e', 't', 'y', 'b']) (by kernel_rfl) ba_owner]; kernel_rfl
set_option maxRecDepth 1000000 in
set_option maxHeartbeats 4000000 in
theorem ba_owner_new : ("bytearray.__new__".splitOn ".__new__").headD "" = "bytearray" := by simp +decide [String.splitOn, String.splitOnAux]
theorem ba_slot_len : Slot "bytearray" "__len__" "bytearray.__len__" :=
  .of (owner := "bytearray") (n := "__len__") (by rw [typeLookup_type, builtinLookup_eq_fast]; kernel_rfl) (by decide +kernel) (by decide +kernel) (by decide +kernel)
    (by first | exact .inl (by decide +kernel) | exact .inr (by decide +kernel)) (by rw [isSubtype_type]; kernel_rfl)
theorem ba_entry_len : entryFor table "bytearray.__len__" = some Builtin.«bytearray.__len__» := entryFor_of_tree (by kernel_rfl)
theorem ba_args_len (a : Value) : argsOk "bytearray.__len__" ⟨[a], []⟩ := by
  unfold argsOk; rw [signature?_of (id := "bytearray.__len__") (n := ['_', '_', 'n', 'e', 'l', '_', '_']) (o := ['y', 'a', 'r', 'r', 'a', 'e', 't', 'y', 'b']) (by kernel_rfl) ba_owner]; kernel_rfl
theorem ba_slot_getitem : Slot "bytearray" "__getitem__" "bytearray.__getitem__" :=
  .of (owner := "bytearray") (n := "__getitem__") (by rw [typeLookup_type, builtinLookup_eq_fast]; kernel_rfl) (by decide +kernel) (by decide +kernel) (by decide +kernel)
    (by first | exact .inl (by decide +kernel) | exact .inr (by decide +kernel)) (by rw [isSubtype_type]; kernel_rfl)
theorem ba_entry_getitem : entryFor table "bytearray.__getitem__" = some Builtin.«bytearray.__getitem__» := entryFor_of_tree (by kernel_rfl)
theorem ba_args_getitem (a b : Value) : argsOk "bytearray.__getitem__" ⟨[a, b], []⟩ := by
  unfold argsOk; rw [signature?_of (id := "bytearray.__getitem__") (n := ['_', '_', 'm', 'e', 't', 'i', 't', 'e', 'g', '_', '_']) (o := ['y', 'a', 'r', 'r', 'a', 'e', 't', 'y', 'b']) (by kernel_rfl) ba_owner]; kernel_rfl
theorem ba_slot_setitem : Slot "bytearray" "__setitem__" "bytearray.__setitem__" :=
  .of (owner := "bytearray") (n := "__setitem__") (by rw [typeLookup_type, builtinLookup_eq_fast]; kernel_rfl) (by decide +kernel) (by decide +kernel) (by decide +kernel)
    (by first | exact .inl (by decide +kernel) | exact .inr (by decide +kernel)) (by rw [isSubtype_type]; kernel_rfl)
theorem ba_entry_setitem : entryFor table "bytearray.__setitem__" = some Builtin.«bytearray.__setitem__» := entryFor_of_tree (by kernel_rfl)
theorem ba_args_setitem (a b c : Value) : argsOk "bytearray.__setitem__" ⟨[a, b, c], []⟩ := by
  unfold argsOk; rw [signature?_of (id := "bytearray.__setitem__") (n := ['_', '_', 'm', 'e', 't', 'i', 't', 'e', 's', '_', '_']) (o := ['y', 'a', 'r', 'r', 'a', 'e', 't', 'y', 'b']) (by kernel_rfl) ba_owner]; kernel_rfl
/-- A bytearray that holds x. -/
def baObj (x : List UInt8) : Obj := { cls := .type "bytearray", data := .bytearray x.toArray }
def BA (h : Heap) (B : Addr) (x : List UInt8) : Prop := h.get? B = some (baObj x)
theorem BA.typeIs {s : Shared} {B : Addr} {x : List UInt8} (b : BA s.heap B x) : s.TypeIs (.ref B) "bytearray" := ⟨_, b, rfl⟩
section
variable {prog : Program} {w : World} {A : Around} {E : Value → Shared → Prop} {s : Shared}
theorem code_ba_new (a : Value) {Q₁ : Value → Shared → Prop}
    (h : Q₁ (.ref s.heap.objs.size) { s with heap := s.heap.push (baObj []) }) :
    codeAny (model prog w) A (.call (.builtin "bytearray.__new__") ⟨[.type "bytearray", a], []⟩) (wants Q₁ E) s := by
  refine codeAny_of_tree ?_
  show wpAny _ A.in1 (do checkBuiltinCall "bytearray.__new__" ⟨[.type "bytearray", a], []⟩; again (.builtin "bytearray.__new__" ⟨[.type "bytearray", a], []⟩)) _ _ s
  refine wpAny_bind (wpAny_of_eq (ba_newCall a) (wpAny_pure ⟨plainId_quiet ba_plain_new _, codeAny_builtin_stack ba_entry_new rfl fun p st => ?_⟩))
  rw [Around.under_plainId ba_plain_new _]
  have hsub := PySem.F.isi_self_bytearray
  have hown := ba_owner_new
  obtain ⟨hp, g, d, tk, os⟩ := s
  simp only [hown]
  wp_walk
  exact h
end
end Mine
end
noncomputable section
open PySem PySem.W PyProof.Rows
open PySem.Sem (wp)
set_option Elab.async false
set_option autoImplicit false
set_option linter.unusedVariables false
set_option linter.unusedSimpArgs false
set_option maxRecDepth 4000
namespace Mine
/-- A reader of texts that holds what it reads. -/
def dec : Code → Bool
  | .builtin id _ => Builtin.Bytes.decodersThatHold.contains id
  | _ => false
/-- No such reader below, or at work. -/
def NDb (Γ : Ctx) : Prop := ∀ q ∈ Γ.below, dec q.1 = false
def ND (Γ : Ctx) : Prop := dec Γ.code = false ∧ NDb Γ
def wpN {α : Type} (M : Model) (A : Around) (t : Sem α) (Q : α → Shared → Prop) (E : Value → Shared → Prop) (s : Shared) : Prop :=
  ∀ Γ p, Γ.In A → ND Γ → wp M Γ t (fun a _ s' => Q a s') (fun e _ s' => E e s') p s
def codeN (M : Model) (A : Around) (c : Code) (R : Result → Shared → Prop) (s : Shared) : Prop :=
  ∀ Γ p, Γ.code = c → Γ.Below A → NDb Γ → wpCode M Γ R p s
section
variable {α β : Type} {M : Model} {A : Around} {E : Value → Shared → Prop} {s : Shared}
theorem wpN_of {t : Sem α} {Q : α → Shared → Prop} (h : wpAny M A t Q E s) : wpN M A t Q E s := fun Γ p hΓ _ => h Γ p hΓ
theorem codeN_of {c : Code} {R : Result → Shared → Prop} (h : codeAny M A c R s) : codeN M A c R s := fun Γ p hc hΓ _ => h Γ p hc hΓ
theorem wpN_pure {a : α} {Q : α → Shared → Prop} (h : Q a s) : wpN M A (pure a) Q E s := wpN_of (wpAny_pure h)
theorem wpN_mono {t : Sem α} {Q Q' : α → Shared → Prop} {E' : Value → Shared → Prop} (h : wpN M A t Q E s)
    (hQ : ∀ a s, Q a s → Q' a s) (hE : ∀ e s, E e s → E' e s) : wpN M A t Q' E' s :=
  fun Γ p hΓ hn => Sem.wp_mono M Γ t (fun a _ s => hQ a s) (fun e _ s => hE e s) p s (h Γ p hΓ hn)
theorem wpN_bind {m : Sem α} {f : α → Sem β} {Q : β → Shared → Prop} (h : wpN M A m (fun a s' => wpN M A (f a) Q E s') E s) :
    wpN M A (m >>= f) Q E s := fun Γ p hΓ hn => by
  rw [Sem.wp_bind']
  exact Sem.wp_mono M Γ m (fun a p' s' h' => h' Γ p' hΓ hn) (fun _ _ _ h' => h') p s (h Γ p hΓ hn)
theorem wpN_onRaise {m : Sem α} {k : Value → Sem Unit} {Q : α → Shared → Prop}
    (h : wpN M A m Q (fun e s' => wpN M A (k e) (fun _ s'' => E e s'') E s') s) : wpN M A (m.onRaise k) Q E s := fun Γ p hΓ hn => by
  rw [Sem.wp_onRaise]
  exact Sem.wp_mono M Γ m (fun _ _ _ h' => h') (fun e p' s' h' => h' Γ p' hΓ hn) p s (h Γ p hΓ hn)
theorem wpN_attempt {m : Sem α} {Q : Except Value α → Shared → Prop} (h : wpN M A m (fun a => Q (.ok a)) (fun e => Q (.error e)) s) :
    wpN M A m.attempt Q E s := fun Γ p hΓ hn => by rw [Sem.wp_attempt]; exact h Γ p hΓ hn
theorem wpN_holding {vs : List Value} {m : Sem α} {Q : α → Shared → Prop} (h : wpN M A m Q E s) : wpN M A (holding vs m) Q E s :=
  fun Γ p hΓ hn => by rw [Sem.wp_holding]; exact h Γ p hΓ hn
theorem wpN_standAt {pos : Pos} {Q : Unit → Shared → Prop} (h : Q () s) : wpN M A (standAt pos) Q E s := wpN_of (wpAny_standAt h)
theorem wpN_of_eq {t : Sem α} {a : α} {Q : α → Shared → Prop} (h : t = pure a) (hq : Q a s) : wpN M A t Q E s := wpN_of (wpAny_of_eq h hq)
theorem ND.enter {Γ : Ctx} (h : ND Γ) (c : Code) (hd : Option Value) (p : Pos) : NDb (Γ.enter c hd p) := fun q hq => by
  have hb : (Γ.enter c hd p).below = (Γ.code, p) :: Γ.below := rfl
  rw [hb] at hq
  rcases List.mem_cons.mp hq with rfl | hq
  · exact h.1
  · exact h.2 q hq
theorem wpN_run {c : Code} {h : Option Value} {Q : Flow → Shared → Prop}
    (hc : codeN M (A.mark h) c (fun r s' => match r with | .ok f => Q f s' | .error e => E e s') s) (hnb : h ≠ some byPass := by intro x; cases x) :
    wpN M A (run c h) Q E s :=
  fun Γ p hΓ hn => by rw [Sem.wp_run]; exact hc _ p rfl (hΓ.enter c h p hnb) (hn.enter c h p)
theorem wpN_runValue {c : Code} {Q : Value → Shared → Prop}
    (hc : codeN M A c (fun r s' => match r with | .ok (.ret v) => Q v s' | .ok _ => False | .error e => E e s') s) :
    wpN M A (runValue c) Q E s := fun Γ p hΓ hn => by rw [Sem.wp_runValue]; exact hc _ p rfl (hΓ.enter c none p (by intro x; cases x)) (hn.enter c none p)
theorem wpN_call {f : Value} {pos : List Value} {kw : List (Str × Value)} {Q : Value → Shared → Prop}
    (hc : codeN M A (.call f ⟨pos, kw⟩) (fun r s' => match r with | .ok (.ret v) => Q v s' | .ok _ => False | .error e => E e s') s) :
    wpN M A (call f pos kw) Q E s := wpN_runValue hc
theorem codeN_of_tree {c : Code} {R : Result → Shared → Prop} (hd : dec c = false)
    (h : wpN M (A.under c) (M.den c) (fun fin s' => match fin with | .done f => R (.ok f) s' | .again c' => c'.quiet = true ∧ codeN M A c' R s')
      (fun e s' => R (.error e) s') s) : codeN M A c R s := fun Γ p hc hΓ hn => by
  rw [wpCode_iff_wp, hc]
  refine Sem.wp_mono M Γ _ (fun fin p' s' h' => ?_) (fun _ _ _ h' => h') p s (h Γ p (hc ▸ hΓ.in) ⟨hc ▸ hd, hn⟩)
  cases fin with
  | done f => exact h'
  | again c' => exact ⟨h'.1, h'.2 (Γ.goto c') p' rfl (hΓ.goto c') hn⟩
/-- A loop: its code goes on as itself, or as another. -/
theorem codeN_loop {c : Code} {R : Result → Shared → Prop} (hd : dec c = false) (hq : c.quiet = true) (I : Nat → Shared → Prop)
    (turn : ∀ n s, I n s → wpN M (A.under c) (M.den c)
      (fun fin s' => match fin with | .done f => R (.ok f) s' | .again c' => (c' = c ∧ ∃ m, m < n ∧ I m s') ∨ (c'.quiet = true ∧ codeN M A c' R s')) (fun e s' => R (.error e) s') s)
    (n : Nat) (h : I n s) : codeN M A c R s := by
  induction n using Nat.strongRecOn generalizing s with
  | ind n ih =>
    refine codeN_of_tree hd (wpN_mono (turn n s h) (fun fin s' hf => ?_) fun _ _ h' => h')
    cases fin with
    | done f => exact hf
    | again c' =>
      rcases hf with ⟨rfl, m, hm, hI⟩ | hf
      · exact ⟨hq, ih m hm hI⟩
      · exact hf
theorem wpN_runOwn {env : Env} {c : Code} {h : Option Value} {Q : Flow → Shared → Prop}
    (hc : codeN M (A.mark h) c (fun r s' => match r with | .ok f => Q f s' | .error e => cameBackBy M A env E e s') s) (hnb : h ≠ some byPass := by intro x; cases x) :
    wpN M A (runOwn c env h) Q E s := by
  unfold runOwn
  exact wpN_onRaise (wpN_mono (wpN_run hc hnb) (fun _ _ q => q) fun _ _ q => wpN_of q)
theorem wpN_noted {env : Env} {m : Sem α} {Q : α → Shared → Prop} (h : wpN M A m Q (notedBy M A env E) s) : wpN M A (m.onRaise fun x => do noteFrame x env; theTreesLotGoes x) Q E s :=
  wpN_onRaise (wpN_mono h (fun _ _ q => q) fun _ _ hx => wpN_of (wpAny_bind (wpAny_mono hx (fun _ _ e => wpAny_theTreesLotGoes e) fun _ _ e => e)))
/-! statements -/
variable {env : Env}
theorem wpN_execs_cons {st : Stmt} {rest : List Stmt} {Q : Flow → Shared → Prop}
    (h : wpN M A (exec st env) (fun f s' => match f with | .next => wpN M A (execs rest env) Q E s' | f => Q f s') E s) :
    wpN M A (execs (st :: rest) env) Q E s := by
  rw [execs_cons]
  refine wpN_bind (wpN_mono h (fun f s' h' => ?_) fun _ _ e => e)
  cases f <;> first | exact h' | exact wpN_pure h'
theorem wpN_If {test : Expr} {body orelse : List Stmt} {pos : Pos} {Q : Flow → Shared → Prop}
    (h : wpN M A (isTrue test env (eval test env))
      (fun b s₂ => if b then wpN M A (execs body env) Q E s₂ else wpN M A (execs orelse env) Q E s₂) E s) :
    wpN M A (exec (.If test body orelse pos) env) Q E s := by
  rw [exec_If]
  refine wpN_bind (wpN_standAt (wpN_bind (wpN_mono h (fun b s₂ h₂ => ?_) fun _ _ e => e)))
  cases b <;> exact h₂
theorem wpN_Assign_Name {x : Str} {pos' pos : Pos} {value : Expr} {Q : Flow → Shared → Prop}
    (h : wpN M A (eval value env) (fun v s₁ => wpAny M A (storeName env x v) (fun _ => Q .next) E s₁) E s)
    (hs : swapsWith value (some (.Name x pos')) pos.line env = pure false := by with_unfolding_all rfl) :
    wpN M A (exec (.Assign [.Name x pos'] value pos) env) Q E s := fun Γ p hΓ hn => by
  simp only [exec_Assign_Name env x pos' value pos hs, Sem.wp_bind', Sem.wp_cmd_standAt, Sem.wp_bindName, Sem.wp_pure']
  exact Sem.wp_mono M Γ _ (fun v _ s₁ h₁ => h₁ Γ _ hΓ) (fun _ _ _ h' => h') _ _ (h Γ _ hΓ hn)
theorem wpN_Return_some {e : Expr} {pos : Pos} {Q : Flow → Shared → Prop} (h : wpN M A (eval e env) (fun v => Q (.ret v)) E s) :
    wpN M A (exec (.Return (some e) pos) env) Q E s := fun Γ p hΓ hn => by
  simp only [exec_Return_some, Sem.wp_bind', Sem.wp_cmd_standAt, Sem.wp_pure']; exact h Γ _ hΓ hn
end
end Mine
end
noncomputable section
open PySem PySem.W PyProof.Rows
open PySem.Sem (wp)
set_option Elab.async false
set_option autoImplicit false
set_option linter.unusedVariables false
set_option linter.unusedSimpArgs false
set_option maxRecDepth 4000
namespace Mine
section
variable (prog : Program) (w : World)
def RtN (A : Around) (P : Addr → Prop) (t : Sem Value) (d : D) (s : Shared) : Prop :=
  ∀ (Q : Value → Shared → Prop) (E : Value → Shared → Prop), (∀ v s', Kp s s' → Rd (Nw P s) s'.heap d v → Q v s') → wpN (model prog w) A t Q E s
def EvN (A : Around) (env : Env) (P : Addr → Prop) (h : Heap) (e : Expr) (d : D) : Prop := ∀ s, Sub h s.heap → RtN prog w A P (eval e env) d s
def TrN (A : Around) (env : Env) (h : Heap) (e : Expr) (b : Bool) : Prop :=
  ∀ s, Sub h s.heap → ∀ (Q : Bool → Shared → Prop) (E : Value → Shared → Prop), (∀ s', Kp s s' → Q b s') → wpN (model prog w) A (isTrue e env (eval e env)) Q E s
def CtN (A : Around) (h : Heap) (f : Value) (ds : List D) (d : D) : Prop := ∀ P s vs, Sub h s.heap → RdL P s.heap ds vs → RtN prog w A P (call f vs) d s
end
section
variable {prog : Program} {w : World} {A : Around} {env : Env} {P : Addr → Prop} {h : Heap}
theorem Ev.n {e : Expr} {d : D} (x : Ev prog w A env P h e d) : EvN prog w A env P h e d := fun s hs Q E hQ => wpN_of (x s hs Q E hQ)
theorem Tr.n {e : Expr} {b : Bool} (x : Tr prog w A env h e b) : TrN prog w A env h e b := fun s hs Q E hQ => wpN_of (x s hs Q E hQ)
theorem evN_cast {e : Expr} {d d' : D} (x : EvN prog w A env P h e d) (hd : d = d') : EvN prog w A env P h e d' := hd ▸ x
variable (prog w A env P h) in
inductive EvLN : List Expr → List D → Prop
  | nil : EvLN [] []
  | cons {e : Expr} {es : List Expr} {d : D} {ds : List D} : EvN prog w A env P h e d → EvLN es ds → starEach (e :: es) env = (false, eval e env) :: starEach es env → EvLN (e :: es) (d :: ds)
theorem EvLN.spliced {es : List Expr} {ds : List D} (x : EvLN prog w A env P h es ds) {pos : Pos} : ∀ (s : Shared), Sub h s.heap → ∀ (Q : List Value → Shared → Prop) (E : Value → Shared → Prop),
    (∀ vs s', Kp s s' → RdL (Nw P s) s'.heap ds vs → Q vs s') → wpN (model prog w) A (spliced (backTo pos (starEach es env))) Q E s := by
  induction x with
  | nil => exact fun s _ Q E hQ => wpN_pure (hQ [] s (Kp.refl _) (rdL_nil.mpr rfl))
  | @cons e es d ds a _ he ih =>
    intro s hs Q E hQ
    rw [he]
    show wpN _ A (do
      let v ← eval e env
      let here ← (pure [v] : Sem (List Value))
      return here ++ (← holding here (PySem.spliced (backTo pos (starEach es env))))) Q E s
    refine wpN_bind (a s hs _ _ fun v s1 k1 r1 => wpN_bind (wpN_pure (wpN_bind (wpN_holding (ih s1 (hs.trans k1.keep) _ _ fun vs s2 k2 r2 => wpN_pure (hQ _ _ (k1.trans k2) (rdL_cons'.mpr ⟨r1.sub k2.keep, r2.mono fun _ e => e.kp k1⟩)))))))
theorem EvLN.args {es : List Expr} {ds : List D} (x : EvLN prog w A env P h es ds) {f : Value} {pos : Pos} (s : Shared) (hs : Sub h s.heap) (Q : Args → Shared → Prop) (E : Value → Shared → Prop)
    (hQ : ∀ vs s', Kp s s' → RdL (Nw P s) s'.heap ds vs → Q ⟨vs, []⟩ s') : wpN (model prog w) A (evalArgs f true (backTo pos (starEach es env)) []) Q E s := by
  cases x with
  | nil => exact wpN_of (PySem.evalArgs_none (hQ [] s (Kp.refl _) (rdL_nil.mpr rfl)))
  | @cons e es d ds a b he =>
    have z := (EvLN.cons a b he).spliced (pos := pos) s hs _ E hQ
    rw [he] at z ⊢
    unfold evalArgs
    show wpN _ A (PySem.spliced ((false, _) :: backTo pos (starEach es env)) >>= _) Q E s
    refine wpN_bind (wpN_mono z (fun vs s' h' => ?_) fun _ _ x => x)
    refine wpN_holding ?_
    exact wpN_bind (wpN_pure (wpN_bind (wpN_pure (wpN_pure h'))))
theorem EvLN.plain {es : List Expr} {ds : List D} (x : EvLN prog w A env P h es ds) {pos : Pos} : (backTo pos (starEach es env)).any (fun x => x.1) = false := by
  induction x with
  | nil => rfl
  | cons a _ e ih =>
    rw [e]
    show (false || (backTo pos (starEach _ env)).any (·.1)) = false
    rw [ih]; rfl
theorem wpN_keep {α : Type} {M : Model} {E : Value → Shared → Prop} {s : Shared} {vs : List Value} {m : Sem α} {Q : α → Shared → Prop} (h : wpN M A m Q E s) : wpN M A (m.keep vs) Q E s :=
  fun Γ p hΓ hn => by rw [Sem.wp_keep]; exact h Γ p hΓ hn
theorem evlN_one {e : Expr} {d : D} (a : EvN prog w A env P h e d) (hs : starEach [e] env = [(false, eval e env)] := by first | exact star_one rfl | with_unfolding_all rfl) : EvLN prog w A env P h [e] [d] := .cons a .nil hs
theorem evlN_cons {e : Expr} {es : List Expr} {d : D} {ds : List D} (a : EvN prog w A env P h e d) (b : EvLN prog w A env P h es ds) (hs : starEach (e :: es) env = (false, eval e env) :: starEach es env := by first | exact star_cons rfl | with_unfolding_all rfl) : EvLN prog w A env P h (e :: es) (d :: ds) := .cons a b hs
theorem evN_call_fn {f : Str} {p pos : Pos} {a : Addr} {o : Obj} {fd : FuncData} {es : List Expr} {ds : List D} {d : D} (l : Looks env h f (.ref a)) (ho : h.get? a = some o) (hf : o.data = .func fd)
    (x : EvLN prog w A env P h es ds) (c : CtN prog w A h (.ref a) ds d) : EvN prog w A env P h (.Call (.Name f p) es [] pos) d := fun s hs Q E hQ => by
  show wpN _ A (do callWith pos (← eval (.Name f p) env) [] (backTo pos (starEach es env)) (backToKw pos (keywordEach [] env))) Q E s
  refine wpN_bind (wpN_of (looks_eval l hs ?_))
  show wpN _ A (callWith pos (.ref a) [] (backTo pos (starEach es env)) []) Q E s
  unfold callWith
  refine wpN_bind (wpN_holding (x.args s hs _ _ fun vs s1 k r => wpN_bind (wpN_standAt ?_)))
  have go : wpN (model prog w) A (call (.ref a) vs) Q E s1 := c _ s1 vs (hs.trans k.keep) r _ _ fun v s'' k' r' => hQ v s'' (k.trans k') (r'.mono fun _ e => e.nw k)
  have tail : ∀ {t : Sem Value}, wpN (model prog w) A t Q E s1 → wpN (model prog w) A (t >>= fun r => holding [r] point >>= fun _ => pure r) Q E s1 :=
    fun ht => wpN_bind (wpN_mono ht (fun r s₂ hr => wpN_of (wpAny_bind (wpAny_holding (wpAny_point (wpAny_pure hr))))) fun _ _ x => x)
  simp only [x.plain, List.any_nil, Bool.or_false]
  refine wpN_bind (m := keeperOf (.ref a)) ?_
  unfold keeperOf
  refine wpN_bind (wpN_of (wpAny_load (k.keep _ _ (hs _ _ ho)) ?_))
  rw [hf]
  refine wpN_pure ?_
  show wpN _ A (if (backTo pos (starEach es env)).length + 2 * 0 > 30 then _ else _) Q E s1
  split
  · exact tail go
  · exact tail (wpN_keep go)
end
end Mine
end
noncomputable section
open PySem PySem.W PyProof.Rows
open PySem.Sem (wp)
set_option Elab.async false
set_option autoImplicit false
set_option linter.unusedVariables false
set_option linter.unusedSimpArgs false
set_option maxRecDepth 4000
namespace Mine
section
variable {prog : Program} {w : World} {A : Around} {env : Env} {P : Addr → Prop} {h : Heap} {s : Shared}
theorem codeN_func {body : List Stmt} {env : Env} {R : Result → Shared → Prop}
    (h : wpN (model prog w) (A.deeper env) (execs body env) (fun f s' => R (.ok (.ret (match f with | .ret v => v | _ => .none))) s')
      (fun e s' => wpAny (model prog w) (A.deeper env) (leaving env e) (fun _ s'' => R (.error e) s'') (fun e' s'' => R (.error e') s'') s') s) :
    codeN (model prog w) A (.func body env) R s := by
  refine codeN_of_tree rfl ?_
  show wpN _ (A.deeper env) (do point; match ← (execs body env).onRaise (leaving env) with | .ret v => ret v | _ => ret .none) _ _ s
  refine wpN_bind (wpN_of (wpAny_point ?_))
  refine wpN_bind (wpN_onRaise (wpN_mono h (fun f s' h' => ?_) fun _ _ h' => wpN_of h'))
  cases f <;> exact wpN_pure h'
theorem codeN_call_function {a : Addr} {args : Args} {o : Obj} {fd : FuncData} {body : List Stmt} {R : Result → Shared → Prop} (hroom : A.depth < recursionLimit)
    (ho : s.heap.get? a = some o)
    (hd' : o.data = .func fd) (hco : fd.scope.isCoroutine = false) (hgen : fd.scope.isGenerator = false) (hbody : fd.body = .stmts body) (hcd : s.heap.CodeRec fd.code fd.qualname)
    (h : wpAny (model prog w) A.in1 (bindArgs fd args) (fun binds s₁ =>
      wpAny (model prog w) A.in1 (newFunctionEnv fd.scope fd.globals fd.closure binds (fd.qualname ++ ".<locals>.") (some a) fd.code none fd.builtins)
        (fun env s₂ => s₂.heap.NoLimit ∧ codeN (model prog w) A (.func body env) R s₂) (fun e s' => R (.error e) s') s₁) (fun e s' => R (.error e) s') s) :
    codeN (model prog w) A (.call (.ref a) args) R s := by
  refine codeN_of_tree rfl ?_
  show wpN _ A.in1 (callAny (.ref a) args) _ _ s
  simp only [callAny]
  refine wpN_bind (wpN_of (wpAny_load ho ?_))
  obtain ⟨c, oc, vs, tq, hc, hoc, hdc, hq⟩ := hcd
  simp only [hd', callFunction, hco, hgen, hbody, hc]
  rw [hc] at h
  refine wpN_bind (m := field (.ref c) 1) (wpN_of (wpAny_field hoc hdc hq ?_))
  refine wpN_bind (wpN_pure ?_)
  exact wpN_of (wpAny_bind (wpAny_mono h (fun binds s₁ h₁ => wpAny_bind (wpAny_mono h₁ (fun env s₂ h₂ => wpAny_bind (wpAny_enterFrame h₂.1 hroom
    (wpAny_pure (And.intro rfl h₂.2)))) fun _ _ h' => h')) fun _ _ h' => h'))
theorem callN_cells {R : Result → Shared → Prop} {name : Str} {params : Arguments} {body : List Stmt} {scope : Scope}
    {pm cd doc : Value} {a : Addr} {o : Obj} {args : List Value} {binds : List (Str × Value)}
    (hroom : A.depth < recursionLimit) (ho : s.heap.get? a = some o) (hdata : o.data = .func (Calls.docDef name params body scope pm cd doc)) (hlim : s.heap.NoLimit) (hcd : s.heap.CodeRec cd name)
    (hbind : bindArgs (Calls.docDef name params body scope pm cd doc) ⟨args, []⟩ = pure binds)
    (hkind : ∀ x ∈ binds, scope.names.lookup x.1 = some .local ∨ (scope.names.lookup x.1 = some .cell ∧ ((cellsFrom (s.heap.objs.size + 1) scope.names []).lookup x.1).isSome = true))
    (h : ∀ h₁ tk, Fr s.heap s.heap.objs.size h₁ (bindL (envOfC name scope s.heap.objs.size a cd).kindOf binds fun _ => none) →
      Cl s.heap.objs.size (cellsFrom (s.heap.objs.size + 1) scope.names []) h₁ (bindC (envOfC name scope s.heap.objs.size a cd).kindOf binds fun _ => none) →
      wpN (model prog w) (A.deeper (envOfC name scope s.heap.objs.size a cd)) (execs body (envOfC name scope s.heap.objs.size a cd))
        (fun f s' => R (.ok (.ret (match f with | .ret v => v | _ => .none))) s')
        (fun e s' => wpAny (model prog w) (A.deeper (envOfC name scope s.heap.objs.size a cd)) (leaving (envOfC name scope s.heap.objs.size a cd) e)
          (fun _ s'' => R (.error e) s'') (fun e' s'' => R (.error e') s'') s')
        { s with heap := h₁, toks := tk })
    (hco : scope.isCoroutine = false) (hgen : scope.isGenerator = false) (hk : scope.kind = .function) :
    codeN (model prog w) A (.call (.ref a) ⟨args, []⟩) R s := by
  refine codeN_call_function hroom ho hdata hco hgen rfl hcd ?_
  rw [hbind]
  refine wpAny_pure (wpAny_newFunctionEnv_cells hk hkind fun env he s' X => ?_)
  subst he
  refine ⟨hlim.keeps X.toInCall.keep, codeN_func ?_⟩
  obtain ⟨h₁, tk, rfl, _⟩ := X.done
  exact h h₁ tk ⟨X.toInCall.ns, X.toInCall.keep, X.toInCall.fresh⟩ ⟨X.cell, X.apart, X.above⟩
/-- A function's contract, in the second tier. -/
theorem ctN_fn {n : Nat} {d : DefRec} {names : List Str} {ds : List D} {dr : D} {a : Addr} {cd : Value} (oA : OkA (n + 1) A) (F : FnAt h a d cd) (K : FnOk d names) (hl : ds.length = names.length) (hgen : d.scope.isGenerator = false)
    (body : ∀ (sb : Shared) (P0 : Addr → Prop) (L : Addr) (s0 : Shared), Sub h sb.heap → Kp sb s0 → Sta sb (Nw P0 sb) (envOfC d.name d.scope L a cd) (fun _ => False) s0 (names.zip ds) s0 →
      wpN (model prog w) (A.deeper (envOfC d.name d.scope L a cd)) (execs d.body (envOfC d.name d.scope L a cd)) (Ret sb P0 dr) (fun _ _ => False) s0) :
    CtN prog w A h (.ref a) ds dr := fun P0 sb vs hs r Q E hQ => by
  obtain ⟨o, pm, doc, ho, hd⟩ := F.obj
  refine wpN_call (callN_cells oA.room (hs _ _ ho) hd (F.lim.keeps hs) (F.code.keeps hs) (K.bind pm cd doc vs (by rw [r.length, hl])) (fun x hx => ?_) (fun h₁ tk Fr C => ?_) K.co hgen K.fn)
  · have hm : x.1 ∈ names := (List.of_mem_zip (a := x.1) (b := x.2) hx).1
    rcases (K.kinds x.1 hm).1 with e | e
    · exact .inl e
    · exact .inr ⟨e, cellsFrom_isSome _ _ _ (.inl (mem_of_lookup e))⟩
  · refine wpN_mono (body sb P0 _ _ hs (Kp.heap Fr.keep) (fn_start K hl r Fr C)) (fun f s' q => ?_) fun _ _ e => e.elim
    exact hQ _ s' q.1 q.2
/-! tests -/
theorem trN_cmp {l r : Expr} {op : CmpOp} {pos : Pos} {d1 d2 : D} {b : Bool} (h1 : EvN prog w A env P h l d1) (h2 : EvN prog w A env P h r d2) (h3 : Op2 prog w A (compareOp op) d1 d2 (.bool b))
    (hm : behindInMarks op r = false := by with_unfolding_all rfl) : TrN prog w A env h (.Compare l [op] [r] pos) b := fun s hs Q E hQ => fun Γ p hΓ hn => by
  simp only [isTrue_Compare1, markedBehindIn_of_false hm, Sem.wp_bind', Sem.wp_holding, Sem.wp_cmd_standAt, Sem.wp_operate]
  have go : wpN (model prog w) A (eval l env) (fun a s₁ => wpN (model prog w) A (eval r env) (fun b s₂ => wpAny (model prog w) A (compareOp op a b) (fun c s₃ => wpAny (model prog w) A (truthy c) Q E s₃) E s₂) E s₁) E s := by
    refine h1 s hs _ _ fun v1 s1 k1 r1 => h2 s1 (hs.trans k1.keep) _ _ fun v2 s2 k2 r2 => ?_
    refine h3 (Nw P s) s2 v1 v2 (r1.sub k2.keep) (r2.mono fun _ e => e.kp k1) _ _ fun v s' k q => ?_
    rw [rd_bool.mp q]
    exact wpAny_truthy_bool (hQ s' (k1.trans (k2.trans k)))
  exact Sem.wp_mono _ Γ _ (fun a p₁ s₁ h₁ => Sem.wp_mono _ Γ _ (fun b _ s₂ h₂ => Sem.wp_mono _ Γ _ (fun c p₃ s₃ h₃ => h₃ Γ p₃ hΓ)
    (fun _ _ _ h' => h') _ _ (h₂ Γ _ hΓ)) (fun _ _ _ h' => h') _ _ (h₁ Γ p₁ hΓ hn)) (fun _ _ _ h' => h') _ _ (go Γ p hΓ hn)
theorem evN_ifexp {test body orelse : Expr} {pos : Pos} {b : Bool} {d : D} (ht : Tr prog w A env h test b) (h1 : b = true → EvN prog w A env P h body d) (h2 : b = false → EvN prog w A env P h orelse d) :
    EvN prog w A env P h (.IfExp test body orelse pos) d := fun s hs Q E hQ => by
  rw [arm_eval_IfExp]
  refine wpN_bind (wpN_of (ht s hs _ _ fun s' k => ?_))
  cases b with
  | true => exact h1 rfl s' (hs.trans k.keep) _ _ fun v s2 k2 r => hQ v s2 (k.trans k2) (r.mono fun _ e => e.kp k)
  | false => exact h2 rfl s' (hs.trans k.keep) _ _ fun v s2 k2 r => hQ v s2 (k.trans k2) (r.mono fun _ e => e.kp k)
end
section
variable {sb : Shared} {G : Addr → Prop} {env : Env} {X : Addr → Prop} {sa s : Shared} {vars : List (Str × D)}
variable {prog : Program} {w : World} {A : Around}
theorem stN_assign {E : Value → Shared → Prop} {x : Str} {px pos : Pos} {value : Expr} {d : D} {Q : Flow → Shared → Prop} (S : Sta sb G env X sa vars s) (hv : EvN prog w A env (PP G env X s.heap) s.heap value d)
    (hQ : ∀ s', Kx (FrA env) s s' → Sta sb G env X sa ((x, d) :: vars) s' → Q .next s')
    (hk : env.kindOf x = some .local ∨ env.kindOf x = some .cell := by first | exact Or.inl (by with_unfolding_all rfl) | exact Or.inr (by with_unfolding_all rfl)) (hd : (x == ("__debug__" : Str)) = false := by decide)
    (hs : swapsWith value (some (.Name x px)) pos.line env = pure false := by with_unfolding_all rfl) : wpN (model prog w) A (exec (.Assign [.Name x px] value pos) env) Q E s := by
  refine wpN_Assign_Name (hv s (.refl _) _ _ fun v s1 k1 r1 => ?_) hs
  exact (S.kp k1).store (S.val r1) hk hd fun s' k S' => hQ s' (k1.kx.trans k) S'
theorem stN_return {E : Value → Shared → Prop} {P0 : Addr → Prop} {e : Expr} {pos : Pos} {d : D} {Q : Flow → Shared → Prop} (S : Sta sb G env X sa vars s) (k : Kp sb sa) (hG : ∀ b, G b → Nw P0 sb b)
    (h1 : EvN prog w A env (PP G env X s.heap) s.heap e d) (hQ : ∀ v s', Ret sb P0 d (.ret v) s' → Q (.ret v) s') : wpN (model prog w) A (exec (.Return (some e) pos) env) Q E s :=
  wpN_Return_some (h1 s (.refl _) _ _ fun v s' k' r => hQ v s' ⟨(S.sbKp k).trans k', (S.val r).mono fun b e => hG b e.2⟩)
theorem stN_if {E : Value → Shared → Prop} {test : Expr} {body orelse : List Stmt} {pos : Pos} {b : Bool} {Q : Flow → Shared → Prop} (ht : TrN prog w A env s.heap test b)
    (h1 : ∀ s', Kp s s' → b = true → wpN (model prog w) A (execs body env) Q E s') (h2 : ∀ s', Kp s s' → b = false → wpN (model prog w) A (execs orelse env) Q E s') :
    wpN (model prog w) A (exec (.If test body orelse pos) env) Q E s :=
  wpN_If (ht s (.refl _) _ _ fun s' k => by cases b with | true => exact h1 s' k rfl | false => exact h2 s' k rfl)
end
end Mine
end
noncomputable section
open PySem PySem.W PyProof.Rows
open PySem.Sem (wp)
set_option Elab.async false
set_option autoImplicit false
set_option linter.unusedVariables false
set_option linter.unusedSimpArgs false
set_option maxRecDepth 4000
namespace Mine
section
variable {prog : Program} {w : World} {A : Around} {env : Env} {s : Shared}
theorem codeN_forLoop {R : Result → Shared → Prop} {target : Expr} {it : Value} {body : List Stmt} {env : Env} (I : Nat → Shared → Prop)
    (turn : ∀ n s, I n s → wpAny (model prog w) A (pyNext it) (fun r s₁ => match r with
      | none => wpAny (model prog w) A (execs [] env) (fun f s₃ => R (.ok f) s₃) (notedBy (model prog w) A env fun e s' => R (.error e) s') s₁
      | some v => wpAny (model prog w) A (letOwnedTupleGo target it v) (fun _ s₁' =>
          wpAny (model prog w) A (assign target env v) (fun _ s₂ => wpN (model prog w) A (execs body env) (fun f s₃ => match f with
            | .next | .cont => ∃ m, m < n ∧ I m s₃
            | .brk => R (.ok .next) s₃
            | .ret v => R (.ok (.ret v)) s₃) (notedBy (model prog w) A env fun e s' => R (.error e) s') s₂) (notedBy (model prog w) A env fun e s' => R (.error e) s') s₁') (notedBy (model prog w) A env fun e s' => R (.error e) s') s₁) (notedBy (model prog w) A env fun e s' => R (.error e) s') s)
    (n : Nat) (h : I n s) : codeN (model prog w) A (.forLoop target it body [] env) R s := by
  refine codeN_loop rfl rfl I (fun n s hI => ?_) n h
  show wpN _ A ((forTurn target it body [] env).onRaise (fun x => do noteFrame x env; theTreesLotGoes x)) _ _ s
  refine wpN_noted ?_
  simp only [forTurn]
  refine wpN_bind (wpN_standAt (wpN_bind (wpN_onRaise (wpN_mono (wpN_of (turn n s hI)) (fun r s₁ h₁ => ?_) fun _ _ h' => wpN_standAt h'))))
  cases r with
  | none => exact wpN_pure (.inr ⟨rfl, codeN_of (codeAny_block h₁)⟩)
  | some v =>
    refine wpN_bind (wpN_mono (wpN_of h₁) (fun _ s₁' h₁' => ?_) fun _ _ h' => h')
    refine wpN_bind (wpN_mono (wpN_of h₁') (fun _ s₂ h₂ => wpN_bind (wpN_mono h₂ (fun f s₃ h₃ => ?_) fun _ _ h' => h')) fun _ _ h' => h')
    cases f with
    | next => exact wpN_pure (.inl ⟨rfl, h₃⟩)
    | cont => exact wpN_pure (.inl ⟨rfl, h₃⟩)
    | brk => exact wpN_pure h₃
    | ret v => exact wpN_pure h₃
theorem wpN_For {M : Model} {E : Value → Shared → Prop} {target iter : Expr} {body : List Stmt} {pos : Pos} {Q : Flow → Shared → Prop}
    (h : wpAny M A (eval iter env) (fun x s₁ => wpAny M A (pyIter x) (fun it s₂ =>
      codeN M A (.forLoop target it body [] env) (fun r s' => match r with | .ok f => Q f s' | .error e => cameBackBy M A env E e s') s₂) E s₁) E s)
    (hs : ∀ x, foldedSetIterable iter env x = pure x := by intro _; rfl) :
    wpN M A (exec (.For target iter body [] pos) env) Q E s := by
  rw [exec_For]
  exact wpN_bind (wpN_standAt (wpN_bind (wpN_mono (wpN_of h) (fun x s₁ h₁ => wpN_bind (wpN_of_eq (hs x) (wpN_bind (wpN_standAt (wpN_bind (wpN_holding
    (wpN_mono (wpN_of h₁) (fun it s₂ h₂ => wpN_runOwn h₂) fun _ _ h' => h'))))))) fun _ _ h' => h')))
end
section
variable {prog : Program} {w : World} {A : Around} {env : Env} {P : Addr → Prop} {h : Heap}
/-- A for over what can be walked. J I i: what holds ahead of turn i, I being the iterator. -/
theorem stN_for {x : Str} {px pos : Pos} {iter : Expr} {body : List Stmt} {d : D} {ds : List D} {s : Shared} {Q : Flow → Shared → Prop} {E : Value → Shared → Prop} (X : Addr → Prop) (J : Addr → Nat → Shared → Prop)
    (h1 : Ev prog w A env P s.heap iter d) (src : ∀ (P : Addr → Prop) (s : Shared) (v : Value), Rd P s.heap d v → Src prog w A P s v ds)
    (hX : ∀ b, P b → ¬ X b) (hXd : ∀ b, X b → ∃ o, s.heap.get? b = some o)
    (J0 : ∀ I s', Kp s s' → s.heap.get? I = none → (∃ o, s'.heap.get? I = some o) → J I 0 s')
    (hJ : ∀ I i s1 s2, s.heap.get? I = none → J I i s1 → Kx (· = I) s1 s2 → J I i s2)
    (turn : ∀ I i di s1 v, s.heap.get? I = none → (∃ o, s1.heap.get? I = some o) → Kx X s s1 → ds[i]? = some di → J I i s1 → Rd (fun b => (P b ∨ s.heap.get? b = none) ∧ b ≠ I ∧ ¬ X b) s1.heap di v →
      wpAny (model prog w) A (storeName env x v) (fun _ s2 => wpN (model prog w) A (execs body env) (fun f s3 => match f with
        | .next | .cont => Kx X s1 s3 ∧ J I (i + 1) s3
        | .brk => Q .next s3
        | .ret v => Q (.ret v) s3) (loopE prog w A env E) s2) (loopE prog w A env E) s1)
    (done : ∀ I s1 s2, s.heap.get? I = none → Kx X s s2 → J I ds.length s1 → Kw (· = I) s1 s2 → Q .next s2)
    (hs : ∀ x, foldedSetIterable iter env x = pure x := by intro _; rfl) (ht : ∀ it v, letOwnedTupleGo (.Name x px) it v = pure () := by intro _ _; rfl) :
    wpN (model prog w) A (exec (.For (.Name x px) iter body [] pos) env) Q E s := by
  refine wpN_For (h1 s (.refl _) _ _ fun v s1 k1 r1 => ?_) hs
  obtain ⟨oI, fp, n, Pv, St, hit, W, st, hfr, hn, hlv, hfp, hrd⟩ := src _ s1 v r1
  refine hit _ _ ?_
  have hI : s.heap.get? s1.heap.objs.size = none := none_of_kp k1 (get_size _)
  have k2 : Kp s { s1 with heap := s1.heap.push oI } := k1.trans (Kp.heap (t := s1.toks) (sub_push _ _))
  have hnx : ∀ b, (P b ∨ s.heap.get? b = none) → ¬ X b := fun b e q => by
    rcases e with e | e
    · exact hX b e q
    · obtain ⟨o, ho⟩ := hXd b q; rw [e] at ho; cases ho
  have hIX : ¬ X s1.heap.objs.size := fun q => by obtain ⟨o, ho⟩ := hXd _ q; rw [hI] at ho; cases ho
  have kxs : ∀ s' : Shared, Kx (fun b => X b ∨ b = s1.heap.objs.size) { s1 with heap := s1.heap.push oI } s' → Kx X s s' := fun s' kx =>
    ⟨fun b o n e => kx.keep b o (fun q => by rcases q with q | q; exact n q; rw [q, hI] at e; cases e) (k2.keep b o e), fun b e => none_of_kp k2 (kx.live b e), kx.os.trans k2.os, fun g z e => kx.gens g z (k2.gens g z e), fun e => kx.bare (k2.bare e)⟩
  refine codeN_forLoop (I := fun k s' => ∃ i, k = n + 1 - i ∧ i ≤ n ∧ Kx (fun b => X b ∨ b = s1.heap.objs.size) { s1 with heap := s1.heap.push oI } s' ∧ St i s'.heap ∧ J s1.heap.objs.size i s') (fun k s2 hk => ?_) (n + 1)
    ⟨0, rfl, Nat.zero_le _, Kx.refl _ _, st, J0 _ _ k2 hI ⟨_, Heap.get?_push_size _ hfr⟩⟩
  obtain ⟨i, rfl, hi, kx, st2, j2⟩ := hk
  by_cases hlt : i < n
  · refine W.item i s2 _ _ hlt st2 fun u h' tk pv st3 hkeep => ?_
    refine wpAny_of_eq (ht _ _) (wpAny_assign_Name ?_)
    have hkeep' : ∀ b o, b ≠ s1.heap.objs.size → s2.heap.get? b = some o → h'.get? b = some o := fun b o q e => hkeep b o (by simpa using q) e
    have live3 : ∀ b, h'.get? b = none → s2.heap.get? b = none := fun b e => by
      by_cases q : b = s1.heap.objs.size
      · subst q
        obtain ⟨o, ho⟩ := hlv _ _ st3
        rw [ho] at e; cases e
      · cases z : s2.heap.get? b with
        | none => rfl
        | some o => rw [hkeep' b o q z] at e; cases e
    have kw : Kx (fun b => b = s1.heap.objs.size) s2 { s2 with heap := h', toks := tk } := ⟨hkeep', live3, rfl, fun _ _ e => e, fun e => e⟩
    have kx3 := kx.trans (kw.mono (Y := fun b => X b ∨ b = s1.heap.objs.size) fun b e => .inr e)
    have hdi : ∃ di, ds[i]? = some di := ⟨ds[i]'(by lia), by simp⟩
    obtain ⟨di, hdi⟩ := hdi
    have rdu := hrd i u di pv hdi
    have rdu' : Rd (fun b => (P b ∨ s.heap.get? b = none) ∧ b ≠ s1.heap.objs.size ∧ ¬ X b) ({ s2 with heap := h', toks := tk } : Shared).heap di u := by
      have z1 : Rd (fun b => (P b ∨ s.heap.get? b = none) ∧ b < s1.heap.objs.size) s1.heap di u := rdu.dom
      refine z1.on (fun a e => ⟨e.1, Nat.ne_of_lt e.2, hnx a e.1⟩) fun a o e q => kx3.keep a o (fun z => ?_) (Heap.get?_push_of_some _ q)
      rcases z with z | z
      · exact hnx a e.1 z
      · exact absurd e.2 (by rw [z]; exact Nat.lt_irrefl _)
    refine wpAny_mono (turn s1.heap.objs.size i di { s2 with heap := h', toks := tk } u hI (hlv _ _ st3) (kxs _ kx3) hdi (hJ _ _ _ _ hI j2 kw) rdu') (fun _ s4 q => ?_) fun _ _ e => e
    refine wpN_mono q (fun f s5 q => ?_) fun _ _ e => e
    have fin : Kx X { s2 with heap := h', toks := tk } s5 ∧ J s1.heap.objs.size (i + 1) s5 → ∃ m, m < n + 1 - i ∧ ∃ i, m = n + 1 - i ∧ i ≤ n ∧ Kx (fun b => X b ∨ b = s1.heap.objs.size) { s1 with heap := s1.heap.push oI } s5 ∧ St i s5.heap ∧ J s1.heap.objs.size i s5 := by
      rintro ⟨k5, j5⟩
      refine ⟨n + 1 - (i + 1), by lia, i + 1, rfl, hlt, kx3.trans (k5.mono fun b e => .inl e), W.frame _ _ _ st3 fun b hb o e => k5.keep b o ?_ e, j5⟩
      rcases hfp b hb with e | ⟨e, _⟩
      · rw [e]; exact hIX
      · exact hnx b (e.elim .inl .inr)
    cases f with
    | next => exact fin q
    | cont => exact fin q
    | brk => exact q
    | ret v => exact q
  · have hin : i = n := by lia
    subst hin
    refine W.done s2 _ _ st2 fun h' tk hkeep => ?_
    have hkeep' : ∀ b o, b ≠ s1.heap.objs.size → s2.heap.get? b = some o → h'.get? b = some o := fun b o q e => hkeep b o (by simpa using q) e
    refine wpAny_execs_nil ?_
    have j3 := j2
    rw [hn] at j3
    have k3 := kxs s2 kx
    refine done _ s2 { s2 with heap := h', toks := tk } hI ⟨fun b o n e => hkeep' b o (fun q => by rw [q, hI] at e; cases e) (k3.keep b o n e), fun b e => ?_, k3.os, k3.gens, k3.bare⟩ j3 ⟨hkeep', rfl, fun _ _ e => e, fun e => e⟩
    by_cases q : b = s1.heap.objs.size
    · rw [q]; exact hI
    · cases z : s2.heap.get? b with
      | none => exact k3.live b z
      | some o => rw [hkeep' b o q z] at e; cases e
end
section
variable {sb : Shared} {G : Addr → Prop} {env : Env} {X : Addr → Prop} {sa s : Shared} {vars : List (Str × D)}
variable {prog : Program} {w : World} {A : Around}
/-- A for loop, over a frame. -/
theorem staN_for {x : Str} {px pos : Pos} {iter : Expr} {body : List Stmt} {d : D} {ds : List D} {Q : Flow → Shared → Prop} {E : Value → Shared → Prop} (V : Nat → List (Str × D)) (Jx : Nat → Shared → Prop)
    (S : Sta sb G env X sa vars s) (h1 : Ev prog w A env (PP G env X s.heap) s.heap iter d) (src : ∀ (P : Addr → Prop) (s : Shared) (v : Value), Rd P s.heap d v → Src prog w A P s v ds)
    (V0 : ∀ p ∈ V 0, vars.lookup p.1 = some p.2) (J0 : ∀ s', Kp s s' → Jx 0 s') (hJ : ∀ I i s1 s2, ¬ XX env X I → Jx i s1 → Kw (· = I) s1 s2 → Jx i s2) (hJf : ∀ i s1 s2, Jx i s1 → Kx (FrA env) s1 s2 → Jx i s2)
    (turn : ∀ G' i di s1, ds[i]? = some di → (∀ b, G' b → G b) → Kx (XX env X) sa s1 → Sta sb G' env X s1 ((x, di) :: V i) s1 → Jx i s1 →
      wpN (model prog w) A (execs body env) (LoopPost sb G' env X s1 (V (i + 1)) (Jx (i + 1)) Q) (loopE prog w A env E) s1)
    (done : ∀ s', Sta sb G env X sa (V ds.length) s' → Jx ds.length s' → Q .next s')
    (hk : env.kindOf x = some .local ∨ env.kindOf x = some .cell := by first | exact Or.inl (by with_unfolding_all rfl) | exact Or.inr (by with_unfolding_all rfl)) (hd : (x == ("__debug__" : Str)) = false := by decide)
    (hs : ∀ x, foldedSetIterable iter env x = pure x := by intro _; rfl) (ht : ∀ it v, letOwnedTupleGo (.Name x px) it v = pure () := by intro _ _; rfl) :
    wpN (model prog w) A (exec (.For (.Name x px) iter body [] pos) env) Q E s := by
  have hnI : ∀ I, s.heap.get? I = none → ¬ XX env X I := fun I e => S.notX e
  refine stN_for (X := XX env X) (ds := ds) (J := fun I i s1 => Sta sb (fun b => G b ∧ b ≠ I) env X sa (V i) s1 ∧ Jx i s1) h1 src (fun b e => e.1.1) S.live
    (fun I s' k hI hl => ⟨(S.weak V0).avoid k hI hl, J0 s' k⟩)
    (fun I i s1 s2 hI j k => ⟨j.1.turn k (hnI I hI) (S.kx.live I hI) (S.old hI), hJ I i s1 s2 (hnI I hI) j.2 k.kw⟩)
    (fun I i di s1 v hI hl kx hdi j r => ?_) (fun I s1 s2 hI kx j kw => ?_) hs ht
  · have rv : Rd (fun b => ¬ XX env X b ∧ G b ∧ b ≠ I) s1.heap di v := r.mono fun b e => ⟨e.2.2, (S.good e.1).2, e.2.1⟩
    refine j.1.here.store rv hk hd fun s2 k2 S2 => ?_
    refine wpN_mono (turn _ i di s2 hdi (fun b e => e.1) ((S.kx.trans kx).trans (k2.mono fun b e => .inl e)) S2.here (hJf i s1 s2 j.2 k2)) (fun f s3 q => ?_) fun _ _ e => e
    have fin : Sta sb (fun b => G b ∧ b ≠ I) env X s2 (V (i + 1)) s3 ∧ Jx (i + 1) s3 → Kx (XX env X) s1 s3 ∧ Sta sb (fun b => G b ∧ b ≠ I) env X sa (V (i + 1)) s3 ∧ Jx (i + 1) s3 := fun q =>
      ⟨(k2.mono fun b e => .inl e).trans q.1.kx, (q.1.base (k2.mono fun b e => .inl e)).base j.1.kx, q.2⟩
    cases f with
    | next => exact fin q
    | cont => exact fin q
    | brk => exact q
    | ret v => exact q
  · exact done s2 (j.1.drop kw (hnI I hI) (S.kx.live I hI) (S.old hI) (S.fresh I hI)) (hJ I _ s1 s2 (hnI I hI) j.2 kw)
end
end Mine
end
noncomputable section
open PySem PySem.W PyProof.Rows
open PySem.Sem (wp)
set_option Elab.async false
set_option autoImplicit false
set_option linter.unusedVariables false
set_option linter.unusedSimpArgs false
set_option maxRecDepth 4000
namespace Mine
section
variable {prog : Program} {w : World} {A : Around} {env : Env} {s : Shared} {R : Result → Shared → Prop}
theorem codeN_compLoop {elt target iter : Expr} {scope : Scope} {pos : Pos} {it acc : Value} {env : Env} (I : Nat → Shared → Prop)
    (turn : ∀ n s, I n s → wpAny (model prog w) A (pyNext it) (fun r s₁ => match r with
      | none => R (.ok .next) s₁
      | some v => wpAny (model prog w) A (assign target env v) (fun _ s₂ => wpN (model prog w) A (eval elt env) (fun x s₃ =>
          wpAny (model prog w) A (call (.builtin "list.append") [acc, x]) (fun _ s₄ => ∃ m, m < n ∧ I m s₄) (notedBy (model prog w) A env fun e s' => R (.error e) s') s₃)
          (notedBy (model prog w) A env fun e s' => R (.error e) s') s₂) (notedBy (model prog w) A env fun e s' => R (.error e) s') s₁) (notedBy (model prog w) A env fun e s' => R (.error e) s') s)
    (n : Nat) (h : I n s) (ht : ∀ v, letOwnedTupleGo target it v = pure () := by intro _; rfl) :
    codeN (model prog w) A (.compLoop (.ListComp elt [⟨target, iter, [], 0⟩] scope pos) 0 it acc env) R s := by
  refine codeN_loop rfl rfl I (fun n s hI => ?_) n h
  show wpN _ _ ((compTurn (.ListComp elt [⟨target, iter, [], 0⟩] scope pos) 0 it acc env).onRaise (fun x => do noteFrame x env; theTreesLotGoes x)) _ _ s
  refine wpN_noted ?_
  rw [compTurn_list1]
  refine wpN_bind (wpN_standAt (wpN_bind (wpN_mono (wpN_of (turn n s hI)) (fun r s₁ h₁ => ?_) fun _ _ h' => h')))
  cases r with
  | none => exact wpN_pure h₁
  | some v =>
    refine wpN_bind (wpN_of_eq (ht v) ?_)
    exact wpN_bind (wpN_mono (wpN_of h₁) (fun _ s₂ h₂ => wpN_bind (wpN_bind (wpN_mono h₂ (fun x s₃ h₃ => wpN_bind (wpN_mono (wpN_of h₃)
      (fun _ s₄ h₄ => wpN_pure (wpN_pure (.inl ⟨rfl, h₄⟩))) fun _ _ h' => h')) fun _ _ h' => h'))) fun _ _ h' => h')
theorem codeN_compStart {elt target iter : Expr} {scope : Scope} {pos : Pos} {it acc : Value} {env : Env}
    (h0 : codeN (model prog w) A (.compLoop (.ListComp elt [⟨target, iter, [], 0⟩] scope pos) 0 it acc env) R s)
    (h : wpAny (model prog w) A (pyIter it) (fun it' s' => codeN (model prog w) A (.compLoop (.ListComp elt [⟨target, iter, [], 0⟩] scope pos) 0 it' acc env) R s')
      (notedBy (model prog w) A env fun x s' => R (.error x) s') s) :
    codeN (model prog w) A (.compStart (.ListComp elt [⟨target, iter, [], 0⟩] scope pos) 0 it acc env) R s := by
  refine codeN_of_tree rfl ?_
  show wpN _ _ ((compStart (.ListComp elt [⟨target, iter, [], 0⟩] scope pos) 0 it acc env).onRaise (fun x => do noteFrame x env; standAt theWindowsPlace)) _ _ s
  refine wpN_of (wpAny_notedAt ?_)
  unfold compStart
  show wpAny _ _ (ask >>= _) _ _ s
  refine wpAny_bind (wpAny_askSetting (wpAny_ite ?_))
  split
  · first
      | exact wpAny_bind (wpAny_pure (wpAny_pure (And.intro rfl h0)))
      | exact wpAny_pure (And.intro rfl h0)
  · first
      | exact wpAny_bind (wpAny_rule (wpAny_bind (wpAny_standAt (wpAny_bind (wpAny_mono h (fun it' s' h' => wpAny_pure (And.intro rfl h')) fun _ _ x => x)))))
      | (refine wpAny_bind (wpAny_rule ?_); show wpAny _ _ (standAt iter.pos >>= _) _ _ s; exact wpAny_bind (wpAny_standAt (wpAny_bind (wpAny_mono h (fun it' s' h' => wpAny_pure (And.intro rfl h')) fun _ _ x => x))))
theorem wpN_comprehension {M : Model} {E : Value → Shared → Prop} {e : Expr} {scope : Scope} {pos : Pos} {newAcc first : Sem Value} {g : Comprehension} {gs : List Comprehension} {cl : List (Str × Addr)}
    {Q : Value → Shared → Prop}
    (hcl : clausesOf e = g :: gs) (hs : ∀ x, foldedSetIterable g.iter env x = pure x) (hclos : closureFor scope env = pure cl)
    (hkind : scope.kind = .function) (hnames : ∀ x ∈ scope.names, x.2 = .local → scope.names.lookup x.1 = some .local)
    (h : wpAny M A first (fun x s₁ => wpAny M A (pyIter x) (fun it s₂ => wpAny M A newAcc (fun acc s₃ =>
      wpAny M A (newFunctionEnv scope env.globals cl [] env.qual none .none (some env)) (fun cenv s₄ =>
        codeN M A (.compStart e 0 it acc { cenv with scope := relabel scope env }) (compPost M A E none Q acc cenv.locals) s₄) E s₃) E s₂) E s₁) E s) :
    wpN M A (comprehension e scope env pos newAcc false first none) Q E s := by
  unfold comprehension
  rw [hclos, hcl]
  refine wpN_bind (wpN_mono (wpN_of h) (fun x s₁ h₁ => wpN_bind (wpN_standAt (wpN_bind (wpN_of_eq (hs x) (wpN_bind (wpN_holding (wpN_mono (wpN_of h₁) (fun it s₂ h₂ =>
    ?_) fun _ _ h' => h'))))))) fun _ _ h' => h')
  dsimp only [Option.isSome_none]
  refine wpN_bind (wpN_mono (wpN_of h₂) (fun acc s₃ h₃ => wpN_bind (wpN_pure (wpN_bind (wpN_mono (wpN_of h₃) (fun cenv s₄ h₄ => ?_) fun _ _ h' => h')))) fun _ _ h' => h')
  have hv : ∀ x ∈ (scope.names.filter fun x => (x.2 == .local || x.2 == .cell) && x.1 != (".0" : Str)).reverse, x.2 = .local →
      Env.kindOf { cenv with scope := relabel scope env } x.1 = some .local := fun x hx hl => lookup_relabel_local (hnames x (List.mem_filter.mp (List.mem_reverse.mp hx)).1 hl)
  refine wpN_holding (wpN_bind (wpN_attempt (wpN_holding (wpN_run (fun Γ p hc hΓ hn => wpCode_mono (fun r s' hr => ?_) (h₄ Γ p hc hΓ hn))))))
  cases r with
  | ok f =>
    obtain ⟨m, hn, hr⟩ := hr
    exact wpN_of (wpAny_bind (wpAny_holding (wpAny_comp_letGo (cenv := { cenv with scope := relabel scope env }) hkind _ s' m hv hn fun h' m' _ hs' => wpAny_pure (hr h' hs'))))
  | error x =>
    obtain ⟨m, hn, hr⟩ := hr
    exact wpN_of (wpAny_bind (wpAny_holding (wpAny_comp_letGo (cenv := { cenv with scope := relabel scope env }) hkind _ s' m hv hn fun h' m' _ hs' => wpAny_mono (hr h' hs' _ rfl) (fun _ _ f => f.elim) fun _ _ y => y)))
end
section
variable {prog : Program} {w : World} {A : Around} {env : Env} {P : Addr → Prop} {h : Heap}
/-- The turns of a comprehension: what the block has handed out so far lies in its list. -/
theorem compN_turns {elt iter : Expr} {x : Str} {px pos : Pos} {scope : Scope} {C I L : Addr} {ds : List D} {s s4 : Shared} {R : Result → Shared → Prop}
    {fp : List Addr} {Pv : Nat → Value → Prop} {St : Nat → Heap → Prop} (K : ScOk scope env x) (f : Nat → D)
    (hs : Sub h s.heap) (hP : ∀ b, P b → Dom h b) (k4 : Kp s s4)
    (W : Walks prog w A I fp [I] ds.length Pv St) (st : St 0 s4.heap) (hlv : ∀ i h, St i h → ∃ o, h.get? I = some o)
    (hI : s.heap.get? I = none) (hL : s.heap.get? L = none) (hVA : ∀ b, VA scope env x C b → s.heap.get? b = none) (hIL : I ≠ L) (hLV : ¬ VA scope env x C L) (hIV : ¬ VA scope env x C I)
    (hfp : ∀ b ∈ fp, b ≠ L ∧ ¬ VA scope env x C b)
    (hsafe : ∀ i y d, Pv i y → ds[i]? = some d → Rd (fun b => Nw P s b ∧ ¬ (b = I ∨ b = L ∨ VA scope env x C b)) s4.heap d y)
    (O : CeOk scope env x C s4.heap) (hacc : s4.heap.PlainList L #[]) (hn : ds.length ≤ 1000)
    (body : ∀ (h' : Heap) (i : Nat) (di : D) (v : Value), Sub h h' → Looks (CE scope env C) h' x v → ds[i]? = some di → Rd (fun b => Nw P s b ∧ ¬ (b = I ∨ b = L ∨ VA scope env x C b)) h' di v →
      EvN prog w A (CE scope env C) P h' elt (f i))
    (hR : ∀ s', Kp s s' → CeOk scope env x C s'.heap → Rd (fun b => Nw P s b ∧ b ≠ I ∧ ¬ VA scope env x C b) s'.heap (.list ((List.range ds.length).map f)) (.ref L) → R (.ok .next) s') :
    codeN (model prog w) A (.compLoop (.ListComp elt [⟨.Name x px, iter, [], 0⟩] scope pos) 0 (.ref I) (.ref L) (CE scope env C)) R s4 := by
  let Y : Addr → Prop := fun b => b = I ∨ b = L ∨ VA scope env x C b
  let G : Addr → Prop := fun b => Nw P s b ∧ ¬ Y b
  have hYs : ∀ b, Y b → s.heap.get? b = none := fun b e => by
    rcases e with e | e | e
    · rw [e]; exact hI
    · rw [e]; exact hL
    · exact hVA b e
  have subY : ∀ s' : Shared, (∀ b o, ¬ Y b → s4.heap.get? b = some o → s'.heap.get? b = some o) → Sub s.heap s'.heap := fun s' kk b o e =>
    kk b o (fun q => by rw [hYs b q] at e; cases e) (k4.keep b o e)
  refine codeN_compLoop (fun k s' => ∃ i ys, k = ds.length + 1 - i ∧ i ≤ ds.length ∧ Kx Y s4 s' ∧ St i s'.heap ∧ CeOk scope env x C s'.heap ∧ s'.heap.PlainList L ys ∧ RdL G s'.heap ((List.range i).map f) ys.toList) ?_ (ds.length + 1)
    ⟨0, #[], rfl, Nat.zero_le _, Kx.refl _ _, st, O, hacc, rdL_nil.mpr rfl⟩
  rintro k s2 ⟨i, ys, rfl, hi, kx, st2, O2, hacc2, rl⟩
  have hys : ys.size ≤ sizeLine := by
    have e1 := rl.length
    have e2 : ((List.range i).map f).length ≤ i := by simp
    have e4 : ys.toList.length = ys.size := by simp
    rw [sizeLine_is]; lia
  by_cases hlt : i < ds.length
  · refine W.item i s2 _ _ hlt st2 fun v h' tk pv st3 hkeep => ?_
    have hkeep' : ∀ b o, b ≠ I → s2.heap.get? b = some o → h'.get? b = some o := fun b o q e => hkeep b o (by simpa using q) e
    have live3 : ∀ b, h'.get? b = none → s2.heap.get? b = none := fun b e => by
      by_cases q : b = I
      · subst q
        obtain ⟨o, ho⟩ := hlv _ _ st3
        rw [ho] at e; cases e
      · cases z : s2.heap.get? b with
        | none => rfl
        | some o => rw [hkeep' b o q z] at e; cases e
    have kx3 : Kx (fun b => b = I) s2 { s2 with heap := h', toks := tk } := ⟨hkeep', live3, rfl, fun _ _ e => e, fun e => e⟩
    refine wpAny_assign_Name (ce_store K (O2.on fun b o hb e => hkeep' b o (fun q => hIV (q ▸ hb)) e) fun s5 k5 O5 lk => ?_)
    have kx5 : Kx Y s4 s5 := (kx.trans (kx3.mono fun b e => .inl e)).trans (k5.mono fun b e => .inr (.inr e))
    have hdi : ∃ di, ds[i]? = some di := ⟨ds[i]'(by lia), by simp⟩
    obtain ⟨di, hdi⟩ := hdi
    have rdv : Rd G s5.heap di v := (hsafe i v di pv hdi).on (fun a e => e) fun a o e q => kx5.keep a o e.2 q
    have be := body s5.heap i di v (hs.trans (subY s5 kx5.keep)) lk hdi rdv
    have st5 : St (i + 1) s5.heap := W.frame _ _ _ st3 fun b hb o e => k5.keep b o (hfp b hb).2 e
    have acc5 : s5.heap.PlainList L ys := (hacc2.at fun o e => hkeep' _ o (Ne.symm hIL) e).at fun o e => k5.keep _ o hLV e
    have rl5 : RdL G s5.heap ((List.range i).map f) ys.toList := rl.on (fun a e => e) fun a o e q => k5.keep a o (fun z => e.2 (.inr (.inr z))) (hkeep' a o (fun z => e.2 (.inl z)) q)
    have k6 : Kp s5 s5 := Kp.refl _
    have kx6 := kx5
    have st6 := st5
    have hsuc : List.range (i + 1) = List.range i ++ [i] := List.range_succ
    refine (?_ : wpN _ _ _ _ _ s5)
    refine be s5 (.refl _) _ _ fun y s7 k7 ry => ?_
    have hYlive : ∀ b, Y b → ∃ o, s5.heap.get? b = some o := fun b e => by
      rcases e with e | e | e
      · rw [e]; exact hlv _ _ st6
      · rw [e]; obtain ⟨n, z⟩ := acc5; exact ⟨_, k6.keep _ _ z⟩
      · rcases e with e | ⟨e, e2⟩
        · rw [e]; obtain ⟨m, n⟩ := O5.ns; obtain ⟨o, ho⟩ := Ns.some n; exact ⟨o, k6.keep _ _ ho⟩
        · obtain ⟨c, u, h1, ⟨o, ho, _⟩, _⟩ := O5.cell e
          rw [h1] at e2; cases e2
          exact ⟨o, k6.keep _ _ ho⟩
    have ry' : Rd G s7.heap (f i) y := ry.mono fun b e => by
      rcases e with e | e
      · refine ⟨.inl e, fun q => ?_⟩
        obtain ⟨o, ho⟩ := hP b e
        have := hs b o ho
        rw [hYs b q] at this; cases this
      · refine ⟨.inr (none_of_kp k4 (kx6.live b e)), fun q => ?_⟩
        obtain ⟨o, ho⟩ := hYlive b q
        rw [e] at ho; cases ho
    refine wpAny_list_append_plain (hsz := hys) ((acc5.at fun o e => k6.keep _ o e).at fun o e => k7.keep _ o e) fun h8 acc8 hs8 => ?_
    have kx8 : Kx Y s7 { s7 with heap := h8 } := by
      obtain ⟨n, z⟩ := id acc8
      exact Kx.same (tk := s7.toks) hs8 z (.inr (.inl rfl))
    have hk8 : ∀ b o, b ≠ L → s7.heap.get? b = some o → h8.get? b = some o := fun b o q e => (hs8.2 b q).trans e
    refine ⟨ds.length + 1 - (i + 1), by lia, i + 1, ys.push y, rfl, hlt, (kx6.trans k7.kx).trans kx8, W.frame _ _ _ st6 fun b hb o e => hk8 b o (hfp b hb).1 (k7.keep b o e), O5.on fun b o hb e => hk8 b o (fun q => hLV (q ▸ hb)) (k7.keep b o (k6.keep b o e)), acc8, ?_⟩
    rw [hsuc]
    simp only [List.map_append, List.map_cons, List.map_nil, Array.toList_push]
    refine RdL.append ?_ (rdL_cons'.mpr ⟨?_, rdL_nil.mpr rfl⟩)
    · exact rl5.on (fun a e => e) fun a o e q => hk8 a o (fun z => e.2 (.inr (.inl z))) (k7.keep a o (k6.keep a o q))
    · exact ry'.on (fun a e => e) fun a o e q => hk8 a o (fun z => e.2 (.inr (.inl z))) q
  · have hin : i = ds.length := by lia
    subst hin
    refine W.done s2 _ _ st2 fun h' tk hkeep => ?_
    have hkeep' : ∀ b o, b ≠ I → s2.heap.get? b = some o → h'.get? b = some o := fun b o q e => hkeep b o (by simpa using q) e
    have ksub : Sub s.heap h' := fun b o e => hkeep' b o (fun q => by rw [q, hI] at e; cases e) (subY s2 kx.keep b o e)
    refine hR { s2 with heap := h', toks := tk } ⟨ksub, kx.os.trans k4.os, fun g z e => kx.gens g z (k4.gens g z e), fun e => kx.bare (k4.bare e)⟩ (O2.on fun b o hb e => hkeep' b o (fun q => hIV (q ▸ hb)) e) ?_
    refine rd_list.mpr ⟨L, ys.toList, rfl, ⟨.inr hL, Ne.symm hIL, hLV⟩, ?_, ?_⟩
    · have := (hacc2.at (h' := h') fun o e => hkeep' _ o (Ne.symm hIL) e).isList
      simpa using this
    · exact rl.on (fun a e => ⟨e.1, fun z => e.2 (.inl z), fun z => e.2 (.inr (.inr z))⟩) fun a o e q => hkeep' a o (fun z => e.2 (.inl z)) q
/-- A comprehension of one clause. -/
theorem compN_go {elt iter : Expr} {x : Str} {px pos pos' : Pos} {scope : Scope} {d : D} {ds : List D} {s : Shared} {Q : Value → Shared → Prop} {E : Value → Shared → Prop}
    (K : ScOk scope env x) (f : Nat → D) (h1 : Ev prog w A env P h iter d) (src : ∀ (P : Addr → Prop) (s : Shared) (v : Value), Rd P s.heap d v → Src prog w A P s v ds)
    (hP : ∀ b, P b → Dom h b) (hn : ds.length ≤ 1000) (hs : Sub h s.heap)
    (body : ScOk scope env x → ∀ (C : Addr) (h' : Heap) (i : Nat) (di : D) (v : Value), Sub h h' → Looks (CE scope env C) h' x v → ds[i]? = some di → Rd All h' di v →
      EvN prog w A (CE scope env C) P h' elt (f i))
    (hQ : ∀ s' L C, Kp s s' → (∃ m, s'.heap.Ns C m) → s.heap.get? C = none → Rd (fun b => Nw P s b ∧ b ≠ C) s'.heap (.list ((List.range ds.length).map f)) (.ref L) → compPost (model prog w) A E none Q (.ref L) C (.ok .next) s')
    (hfs : ∀ y, foldedSetIterable iter env y = pure y) :
    wpN (model prog w) A (comprehension (.ListComp elt [⟨.Name x px, iter, [], 0⟩] scope pos) scope env pos' (newList []) false (eval iter env) none) Q E s := by
  have hcl : closureFor scope env = pure (closOf env.cells scope.names []) := closureFor_is fun n k hm hk => (K.frees n k hm hk).2
  refine wpN_comprehension (g := ⟨.Name x px, iter, [], 0⟩) (gs := []) rfl hfs hcl K.fn (fun y hy hl => mem_lookup K.once (by rw [← hl]; exact hy)) ?_
  refine h1 s hs _ _ fun v s1 k1 r1 => ?_
  obtain ⟨oI, fp, n, Pv, St, hit, W, st, hfr, hnn, hlv, hfp, hrd⟩ := src _ s1 v r1
  refine hit _ _ ?_
  refine wpAny_newObj_type ?_
  refine ce_new ?_
  dsimp only
  generalize hI : s1.heap.objs.size = I at *
  generalize hH1 : s1.heap.push oI = H1 at *
  have sI : H1.objs.size = I + 1 := by rw [← hH1, Heap.size_push, hI]
  generalize hH2 : H1.push { cls := .type "list", dict := none, data := .seq ([] : List Value).toArray } = H2 at *
  have sL : H2.objs.size = I + 2 := by rw [← hH2, Heap.size_push, sI]
  rw [sI, sL]
  generalize hH3 : H2.push { cls := .type "dict", data := .dict #[] } = H3 at *
  have sC : H3.objs.size = I + 3 := by rw [← hH3, Heap.size_push, sL]
  have k01 : Sub s1.heap H1 := by rw [← hH1]; exact sub_push _ _
  have k12 : Sub H1 H2 := by rw [← hH2]; exact sub_push _ _
  have k23 : Sub H2 H3 := by rw [← hH3]; exact sub_push _ _
  have k34 : Sub H3 (pushCells H3 scope.names) := fun b o e => pushCells_keeps _ _ _ _ e
  have kk : Sub s1.heap (pushCells H3 scope.names) := ((k01.trans k12).trans k23).trans k34
  have kp : Kp s { s1 with heap := pushCells H3 scope.names } := k1.trans (Kp.heap (t := s1.toks) kk)
  have fresh : ∀ b, I ≤ b → s.heap.get? b = none := fun b hb => none_of_kp k1 (Heap.get_none_le (by lia))
  have va : ∀ b, VA scope env x (I + 2) b → I + 2 ≤ b := fun b e => by
    rcases e with rfl | ⟨e1, e2⟩
    · exact Nat.le_refl _
    · exact Nat.le_of_lt (ce_addr K e1 e2)
  have hO : CeOk scope env x (I + 2) (pushCells H3 scope.names) := by
    refine ⟨⟨fun _ => none, ?_⟩, fun hx => ?_⟩
    · have : H3.Ns (I + 2) (fun _ => none) := by rw [← hH3, ← sL]; exact Heap.Ns.new _ _
      exact this.keeps k34
    · obtain ⟨c, e1, e2, e3⟩ := cellsFrom_own scope.names H3 (closOf env.cells scope.names []) x K.once (mem_of_lookup hx)
      rw [sC] at e1 e3
      exact ⟨c, none, e1, e2, Nat.ne_of_gt (by lia)⟩
  have hst : St 0 (pushCells H3 scope.names) := W.frame _ _ _ st fun b _ o e => ((k12.trans k23).trans k34) b o e
  have hacc : (pushCells H3 scope.names).PlainList (I + 1) #[] := ⟨_, (k23.trans k34) _ _ (by rw [← hH2, ← sI]; exact Heap.get?_push_size _ rfl)⟩
  have loop : codeN (model prog w) A (.compLoop (.ListComp elt [⟨.Name x px, iter, [], 0⟩] scope pos) 0 (.ref I) (.ref (I + 1)) (CE scope env (I + 2))) (compPost (model prog w) A E none Q (.ref (I + 1)) (I + 2)) { s1 with heap := pushCells H3 scope.names } := by
    refine compN_turns (P := P) (h := h) (s := s) (ds := ds) K f hs hP kp (hnn ▸ W) hst hlv (fresh _ (Nat.le_refl _)) (fresh _ (by lia)) (fun b e => fresh b (by have := va b e; lia)) (Nat.ne_of_lt (by lia))
      (fun e => by have := va _ e; lia) (fun e => by have := va _ e; lia) (fun b hb => ?_) (fun i y di hy hdi => ?_) hO hacc hn (fun h' i di v a b c e => body K _ h' i di v a b c (e.mono fun _ _ => trivial)) fun s' k' O' r' => ?_
    · have : @LE.le Nat _ b I := by
        rcases hfp b hb with e | e
        · exact Nat.le_of_eq e
        · exact Nat.le_of_lt e.2
      exact ⟨Nat.ne_of_lt (by lia), fun e => by have := va _ e; lia⟩
    · have z := (hrd i y di hy hdi).dom
      refine (z.sub kk).mono fun b e => ⟨e.1, fun q => ?_⟩
      have hlt : @LT.lt Nat _ b I := Nat.lt_of_lt_of_eq e.2 hI
      rcases q with q | q | q
      · exact Nat.ne_of_lt hlt q
      · exact Nat.ne_of_lt (Nat.lt_succ_of_lt hlt) q
      · have := va _ q; lia
    · refine hQ s' _ _ k' O'.ns (fresh _ (by lia)) (r'.mono fun b e => ⟨e.1, fun q => e.2.2 (.inl q)⟩)
  exact codeN_compStart loop (W.self 0 _ _ _ hst loop)
theorem evN_comp {elt iter : Expr} {x : Str} {px pos : Pos} {scope : Scope} {d : D} {ds : List D}
    (K : ScOk scope env x) (f : Nat → D) (h1 : Ev prog w A env P h iter d) (src : ∀ (P : Addr → Prop) (s : Shared) (v : Value), Rd P s.heap d v → Src prog w A P s v ds)
    (hP : ∀ b, P b → Dom h b) (hn : ds.length ≤ 1000)
    (body : ScOk scope env x → ∀ (C : Addr) (h' : Heap) (i : Nat) (di : D) (v : Value), Sub h h' → Looks (CE scope env C) h' x v → ds[i]? = some di → Rd All h' di v → EvN prog w A (CE scope env C) P h' elt (f i))
    (hfs : ∀ y, foldedSetIterable iter env y = pure y := by intro _; rfl) :
    EvN prog w A env P h (.ListComp elt [⟨.Name x px, iter, [], 0⟩] scope pos) (.list ((List.range ds.length).map f)) := fun s hs Q E hQ => by
  rw [eval_ListComp]
  refine compN_go K f h1 src hP hn hs body (fun s' L C k hm hC r => ?_) hfs
  obtain ⟨m, hm⟩ := hm
  refine ⟨m, hm, fun h' hsb => hQ _ { s' with heap := h' } ⟨fun b o e => (hsb.2 b (fun q => by rw [q, hC] at e; cases e)).trans (k.keep b o e), k.os, k.gens, k.bare⟩ ?_⟩
  exact r.on (fun a e => e.1) fun a o e q => (hsb.2 a e.2).trans q
end
end Mine
end
noncomputable section
open PySem PySem.W PyProof.Rows
open PySem.Sem (wp)
set_option Elab.async false
set_option autoImplicit false
set_option linter.unusedVariables false
set_option linter.unusedSimpArgs false
set_option maxRecDepth 100000
namespace Mine
theorem ba_bind (v : Value) : Builtin.Bytes.bindOptional "bytearray.__init__" "bytearray" ["source", "encoding", "errors"] [v] [] = pure [some v, none, none] := by kernel_rfl
theorem ba_release : typeLookup (.type "bytearray") "__release_buffer__" = pure (some (.builtin "bytearray.__release_buffer__")) := by rw [typeLookup_type, builtinLookup_eq_fast]; kernel_rfl
section
variable {prog : Program} {w : World} {A : Around} {E : Value → Shared → Prop} {s : Shared}
theorem ba_ownRelease {B : Addr} {x : List UInt8} {Q : Bool → Shared → Prop} (b : BA s.heap B x) (h : Q false s) : wpAny (model prog w) A (Builtin.Bytes.ownRelease (.ref B)) Q E s := by
  have hT := b.typeIs
  have h1 := ba_release
  have h2 := PySem.F.isi_self_bytearray
  unfold Builtin.Bytes.ownRelease
  wp_walk
  refine bm_if_false (by decide +kernel) ?_
  rw [show "bytearray.__release_buffer__".dropRight ("__release_buffer__".length + 1) = "bytearray" from by decide +kernel]
  exact wpAny_isInstance hT PySem.F.isi_self_bytearray (wpAny_pure h)
theorem ba_write {B : Addr} {x y : List UInt8} {f : Array UInt8 → Array UInt8} {Q : Unit → Shared → Prop} (b : BA s.heap B x) (hf : f x.toArray = y.toArray) (hn : y.length ≤ 1000)
    (h : ∀ h', BA h' B y → Heap.SameBut B s.heap h' → Q () { s with heap := h' }) : wpAny (model prog w) A (Builtin.Bytes.write (.ref B) f) Q E s := by
  show wpAny _ _ (updateBytearray B f) _ _ _
  unfold updateBytearray
  refine wpAny_bind (wpAny_load b ?_)
  show wpAny _ _ (update B (Obj.mapBytearray f) >>= fun _ => lookBehind B) _ _ _
  refine wpAny_bind (wpAny_update b ?_)
  have b2 : (s.heap.update B (Obj.mapBytearray f)).get? B = some (baObj y) := by
    have := Heap.get?_update_self (Obj.mapBytearray f) b rfl
    rw [this]
    simp [baObj, Obj.mapBytearray, hf]
  refine wpAny_lookBehind b2 ?_ (h _ b2 (Heap.SameBut.update ..))
  show (if y.toArray.size > sizeLine then some "bytearray:memory" else none) = none
  rw [if_neg (by rw [sizeLine_is]; simp; lia)]
/-- What `exported` asks of the stack. -/
theorem ba_exported {B : Addr} {Q : Bool → Shared → Prop} (hg : A.guards = some []) (h : Q false s) : wpN (model prog w) A (Builtin.Bytes.exported (.ref B)) Q E s := fun Γ p hΓ hn => by
  unfold Builtin.Bytes.exported
  have hgd : Γ.code.guards ++ guardsOf Γ.below = [] := hΓ.2.2.2.1 [] hg
  have h1 : ∀ q ∈ (Γ.code, p) :: Γ.below, q.1.isGuard = false ∧ dec q.1 = false := fun q hq => by
    refine ⟨?_, ?_⟩
    · cases hgq : q.1.isGuard with
      | false => rfl
      | true =>
        have : q.1 ∈ guardsOf ((Γ.code, p) :: Γ.below) := by
          unfold guardsOf
          exact List.mem_filter.mpr ⟨List.mem_map.mpr ⟨q, hq, rfl⟩, hgq⟩
        rw [guardsOf_cons, hgd] at this; cases this
    · rcases List.mem_cons.mp hq with rfl | hq
      · exact hn.1
      · exact hn.2 q hq
  rw [Sem.wp_bind']
  show Q (((Γ.code, p) :: Γ.below).any _) s
  have h2 : ∀ (l : List (Code × Pos)) (f : Code × Pos → Bool), (∀ q ∈ l, f q = false) → l.any f = false := fun l f hf => by
    rw [List.any_eq_false]; intro q hq; simp [hf q hq]
  rw [h2 _ _ fun q hq => ?_]
  · exact h
  · obtain ⟨hgq, hdq⟩ := h1 q hq
    obtain ⟨c, pp⟩ := q
    dsimp only at hgq hdq ⊢
    split
    all_goals first
      | rfl
      | (rename_i hh; simp only [Prod.mk.injEq] at hh; obtain ⟨rfl, _⟩ := hh; first | (simp [Code.isGuard, guardIds] at hgq; done) | (simp only [dec] at hdq; simp; intro _; simpa using hdq) | (simp only [dec] at hdq; simp [hdq]))
theorem ba_exports {B : Addr} {x : List UInt8} {Q : Bool → Shared → Prop} (b : BA s.heap B x) (hg : A.guards = some []) (h : Q false s) :
    wpN (model prog w) A (Builtin.Bytes.exported (.ref B) <||> do return (← Builtin.Bytes.exportsOf (.ref B)) > 0) Q E s := by
  unfold orM
  refine wpN_bind (ba_exported hg ?_)
  show wpN _ _ (do return decide ((← Builtin.Bytes.exportsOf (.ref B)) > 0)) _ _ _
  refine wpN_bind (wpN_of ?_)
  unfold Builtin.Bytes.exportsOf
  refine wpAny_bind (wpAny_load b ?_)
  refine wpAny_pure ?_
  exact wpN_pure h
theorem asStr_int (i : Int) (t : Tok) : asStr? (.int i t) = pure none := rfl
theorem ba_init_int {B : Addr} {n : Nat} {t : Tok} {Q' : PySem.Fin → Shared → Prop} (b : BA s.heap B []) (hn : n ≤ 1000) (hg : A.guards = some [])
    (h : ∀ h', BA h' B (List.replicate n 0) → Heap.SameBut B s.heap h' → Q' (.done (.ret .none)) { s with heap := h' }) :
    wpN (model prog w) A (Builtin.«bytearray.__init__» ⟨[.ref B, .int n t], []⟩) Q' E s := by
  unfold Builtin.«bytearray.__init__»
  refine wpN_bind (wpN_of (ba_ownRelease b ?_))
  show wpN _ _ (if false = true then _ else _) _ _ _
  rw [if_neg (by decide)]
  refine wpN_bind (wpN_of_eq (ba_bind _) ?_)
  refine wpN_bind (wpN_of_eq (a := ()) rfl ?_)
  refine wpN_bind (wpN_of_eq (a := ()) rfl ?_)
  refine wpN_bind (ba_exports b hg ?_)
  show wpN _ _ (if false = true then _ else _) _ _ _
  rw [if_neg (by decide)]
  refine wpN_bind (wpN_of (ba_write (y := []) b rfl (by simp) fun h1 b1 hs1 => ?_))
  refine wpN_of ?_
  have hTi : ({ s with heap := h1 } : Shared).TypeIs (.int n t) "int" := typeIs_int _ _ _
  have hix := PySem.int_index
  dsimp -zeta only
  have hai : asIndex (.int (n : Int) t) = pure (n : Int) := rfl
  with_reducible refine wpAny_bind ?_
  rw [asStr_int]
  with_reducible refine wpAny_pure ?_
  dsimp only [Option.isSome_none]
  rw [if_neg Bool.false_ne_true]
  rw [if_neg Bool.false_ne_true]
  rw [if_neg Bool.false_ne_true]
  with_reducible refine wpAny_bind ?_
  with_reducible refine wpAny_pure ?_
  with_reducible refine wpAny_bind ?_
  with_reducible refine wpAny_specialOf hTi PySem.int_index ?_
  dsimp only [Option.isSome_some]
  rw [if_pos rfl]
  with_reducible refine wpAny_bind ?_
  with_reducible refine wpAny_attempt ?_
  with_reducible refine wpAny_of_eq hai ?_
  dsimp only
  have f1 : (!Builtin.Bytes.fitsIndex (n : Int)) = false := by
    simp only [Builtin.Bytes.fitsIndex]
    simp; lia
  have f2 : ¬ ((n : Int) < 0) := by lia
  have f3 : ((n : Int) == 2 ^ 63 - 1) = false := by
    rw [beq_eq_false_iff_ne]; lia
  have f4 : Builtin.Bytes.tooLong (n : Int).toNat = false := by
    have := sizeLine_is; simp [Builtin.Bytes.tooLong]; lia
  rw [f1, if_neg Bool.false_ne_true, if_neg f2, f3, if_neg Bool.false_ne_true, f4, if_neg Bool.false_ne_true]
  with_reducible refine wpAny_bind ?_
  with_reducible refine wpAny_rule ?_
  split
  · with_reducible refine wpAny_bind ?_
    refine (ba_write (y := List.replicate n 0) b1 (by simp) (by simp; lia) fun h2 b2 hs2 => ?_)
    exact wpAny_pure (h h2 b2 (hs1.trans hs2))
  · rename_i hz
    have : n = 0 := by lia
    subst this
    exact wpAny_pure (h h1 b1 hs1)
end
end Mine
end
noncomputable section
open PySem PySem.W PyProof.Rows
open PySem.Sem (wp)
set_option Elab.async false
set_option autoImplicit false
set_option linter.unusedVariables false
set_option linter.unusedSimpArgs false
set_option maxRecDepth 100000
namespace Mine
section
variable {prog : Program} {w : World} {A : Around} {E : Value → Shared → Prop} {s : Shared} {R : Result → Shared → Prop}
theorem codeN_builtin {id : String} {args : Args} {b : Builtin} (hd : dec (.builtin id args) = false) (hb : entryFor table id = some b)
    (h : wpN (model prog w) (A.under (.builtin id args)) (b args)
      (fun fin s' => match fin with | .done f => R (.ok f) s' | .again c' => c'.quiet = true ∧ codeN (model prog w) A c' R s') (fun e s' => R (.error e) s') s) :
    codeN (model prog w) A (.builtin id args) R s := by
  refine codeN_of_tree hd ?_
  show wpN _ _ (match entryFor table id with | some b => b args | none => unsupported ((withoutEnding? id "#data").getD id)) _ _ s
  rw [hb]; exact h
theorem codeN_call_builtin {id : String} {args : Args} {b : Builtin} (hd : dec (.builtin id args) = false) (hp : plainId id = true) (hb : entryFor table id = some b)
    (h : wpAny (model prog w) A.in1 (checkBuiltinCall id args) (fun _ s₁ => wpN (model prog w) A.in1 (b args)
      (fun fin s' => match fin with | .done f => R (.ok f) s' | .again c' => c'.quiet = true ∧ codeN (model prog w) A c' R s') (fun e s' => R (.error e) s') s₁)
      (fun e s' => R (.error e) s') s) : codeN (model prog w) A (.call (.builtin id) args) R s := by
  refine codeN_of_tree rfl ?_
  show wpN _ A.in1 (do checkBuiltinCall id args; again (.builtin id args)) _ _ s
  refine wpN_bind (wpN_mono (wpN_of h) (fun _ s₁ h₁ => wpN_pure ⟨plainId_quiet hp _, codeN_builtin hd hb ?_⟩) fun _ _ h' => h')
  rw [Around.under_plainId hp args]
  exact h₁
theorem wpN_callSpecial {M : Model} {self : Value} {T : String} {name : Str} {id : String} {args : List Value} {kw : List (Str × Value)}
    {Q : Option Value → Shared → Prop} (hT : s.TypeIs self T) (h : Slot T name id)
    (hc : wpN M A (call (.builtin id) (self :: args) kw) (fun v => Q (some v)) E s) : wpN M A (callSpecial? self name args kw) Q E s := by
  simp only [callSpecial?]
  refine wpN_bind (wpN_of (wpAny_specialOf hT h.lookup ?_))
  simp only [h.bind]
  exact wpN_holding (wpN_bind (wpN_pure (wpN_bind (wpN_mono hc (fun v s' h' => wpN_pure h') fun _ _ h' => h'))))
theorem callN_type {T newId initId : String} {Bi : Builtin} {args : List Value} {Q Q₁ : Value → Shared → Prop} (ft : TypeCalled T newId initId)
    (hct : checkTypeCall T ⟨args, []⟩ = pure ()) (entryI : entryFor table initId = some Bi) (hd : ∀ a, dec (.builtin initId a) = false)
    (hnew : codeAny (model prog w) A.in1 (.call (.builtin newId) ⟨.type T :: args, []⟩) (wants Q₁ E) s)
    (hnext : ∀ obj s₁, Q₁ obj s₁ → s₁.TypeIs obj T ∧ argsOk initId ⟨obj :: args, []⟩ ∧
      wpN (model prog w) A.in1.in1 (Bi ⟨obj :: args, []⟩)
        (fun fin s' => match fin with | .done f => wants (fun r s₂ => r = .none ∧ Q obj s₂) E (.ok f) s' | .again c' => c'.quiet = true ∧ codeN (model prog w) A.in1 c' (wants (fun r s₂ => r = .none ∧ Q obj s₂) E) s')
        (fun e s' => wants (fun r s₂ => r = .none ∧ Q obj s₂) E (.error e) s') s₁) :
    wpN (model prog w) A (call (.type T) args) Q E s := by
  obtain ⟨c, tl, hmro⟩ := ft.mro
  refine wpN_call (codeN_of_tree rfl ?_)
  show wpN _ _ (callAny (.type T) _) _ _ _
  refine wpN_pure ⟨Code.quiet_builtin _ (by decide +kernel), codeN_builtin (show Builtin.Bytes.decodersThatHold.contains "type.__call__" = false by decide +kernel) F.entry_type_call ?_⟩
  rw [Around.under_plain (weight_type_call_type T args []) rfl]
  have h1 := ft.notType
  have h2 := ft.canCreate
  unfold Builtin.«type.__call__»
  dsimp only
  rw [h1, if_neg Bool.false_ne_true, h2, if_neg Bool.false_ne_true]
  refine wpN_bind (wpN_of_eq hct ?_)
  refine wpN_bind (wpN_of_eq hmro ?_)
  dsimp only [List.isEmpty_cons]
  rw [if_neg Bool.false_ne_true]
  refine wpN_bind (wpN_of_eq ft.made ?_)
  dsimp only
  refine wpN_bind (wpN_pure ?_)
  refine wpN_bind (wpN_holding (wpN_of (wpAny_call (codeAny_mono hnew fun r s₁ hr => ?_))))
  cases r with
  | error e => exact hr
  | ok fl =>
    cases fl with
    | ret obj =>
      obtain ⟨hT, hok, hsi⟩ := hnext _ _ hr
      refine wpN_bind (wpN_of (wpAny_isInstance hT ft.sub ?_))
      show wpN _ _ (if false = true then _ else _) _ _ _
      rw [if_neg Bool.false_ne_true]
      refine wpN_bind (wpN_holding (wpN_callSpecial hT ft.init ?_))
      refine wpN_call (codeN_call_builtin (hd _) ft.init.plain entryI (ft.init.check _ _ _ _ _ _ _ _ hT hok ?_))
      refine wpN_mono hsi (fun fin s' hf => ?_) fun e s' he => ?_
      · cases fin with
        | done f =>
          cases f with
          | ret r =>
            obtain ⟨rfl, hq⟩ := hf
            exact wpN_pure hq
          | _ => exact hf.elim
        | again c' =>
          refine ⟨hf.1, fun Γ p hc hΓ hn => wpCode_mono (fun r s2 hr2 => ?_) (hf.2 Γ p hc hΓ hn)⟩
          cases r with
          | error e => exact hr2
          | ok f =>
            cases f with
            | ret r =>
              obtain ⟨rfl, hq⟩ := hr2
              exact wpN_pure hq
            | _ => exact hr2.elim
      · exact he
    | _ => exact hr.elim
end
end Mine
end
noncomputable section
open PySem PySem.W PyProof.Rows
open PySem.Sem (wp)
set_option Elab.async false
set_option autoImplicit false
set_option linter.unusedVariables false
set_option linter.unusedSimpArgs false
set_option maxRecDepth 100000
namespace Mine
section
variable {prog : Program} {w : World} {A : Around} {E : Value → Shared → Prop} {s : Shared} {R : Result → Shared → Prop}
theorem BA.push (h : Heap) (x : List UInt8) : BA (h.push (baObj x)) h.objs.size x := Heap.get?_push_size _ rfl
theorem sub_ba {h h' : Heap} {x : List UInt8} (hs : Heap.SameBut h.objs.size (h.push (baObj x)) h') : Sub h h' := fun b o e =>
  (hs.2 b (Nat.ne_of_lt (Heap.lt_size e))).trans (Heap.get?_push_of_some _ e)
theorem call_ba_int {n : Nat} {t : Tok} {Q : Value → Shared → Prop} (hg : A.guards = some []) (hn : n ≤ 1000)
    (hQ : ∀ h', Sub s.heap h' → BA h' s.heap.objs.size (List.replicate n 0) → Q (.ref s.heap.objs.size) { s with heap := h' }) :
    wpN (model prog w) A (call (.type "bytearray") [.int n t]) Q E s := by
  refine callN_type (Q₁ := fun obj s₁ => obj = .ref s.heap.objs.size ∧ s₁ = { s with heap := s.heap.push (baObj []) }) ba_called (ba_typeCall _) ba_entry_init (fun a => show Builtin.Bytes.decodersThatHold.contains "bytearray.__init__" = false by decide +kernel)
    (code_ba_new _ ⟨rfl, rfl⟩) fun obj s₁ h₁ => ?_
  obtain ⟨rfl, rfl⟩ := h₁
  have b := BA.push s.heap []
  refine ⟨⟨_, b, rfl⟩, ba_args_init _ _, ba_init_int (A := A.in1.in1) b hn hg fun h' b' hs => ?_⟩
  exact ⟨rfl, hQ h' (sub_ba hs) b'⟩
theorem len_ba {B : Addr} {x : List UInt8} {Q : Value → Shared → Prop} (b : BA s.heap B x) (hn : x.length ≤ 1000) (hQ : ∀ t tk, Q (.int (x.length : Nat) t) { s with toks := tk }) : wpAny (model prog w) A (call (.builtin "len") [.ref B]) Q E s := by
  refine Calls.call_function_entry kind_len plain_len entry_len (args_len1 _) ?_
  unfold Builtin.«len»
  refine wpAny_bind (m := oneArg "len" _) (wpAny_pure ?_)
  refine wpAny_bind (m := callSpecial? (.ref B) (Str.ofString "__len__")) (wpAny_callSpecial?_slot (name := Str.ofString "__len__") b.typeIs ba_slot_len (wpAny_call_entry ba_slot_len b.typeIs ba_entry_len ?_ (ba_args_len _)))
  unfold Builtin.«bytearray.__len__»
  refine wpAny_bind (wpAny_of_eq (a := (.ref B, [])) rfl ?_)
  refine wpAny_bind (m := Builtin.Bytes.payload (.ref B)) ?_
  unfold Builtin.Bytes.payload Builtin.Bytes.payload?
  refine wpAny_bind (wpAny_bind (wpAny_load b ?_))
  refine wpAny_pure (wpAny_pure ?_)
  refine wpAny_bind (wpAny_mkInt (wpAny_pure ⟨_, rfl, ?_⟩))
  refine wpAny_bind (wpAny_holding (wpAny_pure ?_))
  refine wpAny_bind (wpAny_letGo ?_)
  have hsz : ((x.toArray.size : Nat) : Int) = (x.length : Nat) := by simp
  show wpAny _ _ (if ((x.toArray.size : Nat) : Int) < 0 then _ else _) _ _ _
  rw [if_neg (by lia)]
  show wpAny _ _ (if ((x.toArray.size : Nat) : Int) ≥ 2 ^ 63 then _ else _) _ _ _
  rw [if_neg (by simp; lia)]
  refine wpAny_bind (wpAny_mkInt (wpAny_pure ⟨_, rfl, ?_⟩))
  rw [hsz]
  exact hQ _ _
theorem ba_payload {B : Addr} {x : List UInt8} {Q : Array UInt8 → Shared → Prop} (b : BA s.heap B x) (h : Q x.toArray s) : wpAny (model prog w) A (Builtin.Bytes.payload (.ref B)) Q E s := by
  unfold Builtin.Bytes.payload Builtin.Bytes.payload?
  refine wpAny_bind (wpAny_bind (wpAny_load b ?_))
  exact wpAny_pure (wpAny_pure h)
theorem get_ba {B : Addr} {x : List UInt8} {i : Nat} {u : Tok} {Q : Value → Shared → Prop} (b : BA s.heap B x) (hn : x.length ≤ 1000) (hi : i < x.length) (hQ : ∀ t tk, Q (.int ((x.getD i 0).toNat : Nat) t) { s with toks := tk }) : wpAny (model prog w) A (getItem (.ref B) (.int i u)) Q E s := by
  refine wpAny_getItem_slot b.typeIs (by decide) ba_slot_getitem (wpAny_call_entry ba_slot_getitem b.typeIs ba_entry_getitem ?_ (ba_args_getitem _ _))
  unfold Builtin.«bytearray.__getitem__»
  with_reducible refine wpAny_bind ?_
  have e0 : slotArgs "__getitem__" 1 ⟨[.ref B, .int (i : Int) u], []⟩ = pure (.ref B, [.int i u]) := rfl
  with_reducible refine wpAny_of_eq e0 ?_
  dsimp only
  have hTi : s.TypeIs (.int i u) "int" := typeIs_int _ _ _
  have f1 : (!Builtin.Bytes.fitsIndex (i : Int)) = false := by
    simp only [Builtin.Bytes.fitsIndex]; simp; lia
  have hix : seqIndex? (i : Int) x.toArray.size = some i := by
    simp [seqIndex?, hi]; lia
  have hai : asIndex (.int (i : Int) u) = pure (i : Int) := rfl
  have e1 : ∀ {Q : Option Int → Shared → Prop} {A : Around} {E : Value → Shared → Prop}, Q (some (i : Int)) s → wpAny (model prog w) A (Builtin.Bytes.subscript? (.int i u)) Q E s := by
    intro Q A E hq
    unfold Builtin.Bytes.subscript?
    with_reducible refine wpAny_bind ?_
    with_reducible refine wpAny_specialOf hTi PySem.int_index ?_
    dsimp only [Option.isNone_some]
    rw [if_neg Bool.false_ne_true]
    with_reducible refine wpAny_bind ?_
    with_reducible refine wpAny_of_eq hai ?_
    rw [f1, if_neg Bool.false_ne_true]
    exact wpAny_pure hq
  with_reducible refine wpAny_bind ?_
  with_reducible refine e1 ?_
  dsimp only
  with_reducible refine wpAny_bind ?_
  with_reducible refine ba_payload b ?_
  rw [hix]
  have e2 : ((some i : Option Nat).bind (x.toArray[·]?)) = some (x.getD i 0) := by simp [hi]
  rw [e2]
  refine wpAny_bind (wpAny_mkInt (wpAny_pure ⟨_, rfl, ?_⟩))
  exact hQ _ _
end
end Mine
end
noncomputable section
open PySem PySem.W PyProof.Rows
open PySem.Sem (wp)
set_option Elab.async false
set_option autoImplicit false
set_option linter.unusedVariables false
set_option linter.unusedSimpArgs false
set_option maxRecDepth 100000
namespace Mine
section
variable {prog : Program} {w : World} {A : Around} {E : Value → Shared → Prop} {s : Shared} {R : Result → Shared → Prop}
theorem setItem_slot {M : Model} {o i v : Value} {T id : String} {Q : Unit → Shared → Prop} (hT : s.TypeIs o T) (hn : seqItemTypes.contains T = false) (slot : Slot T "__setitem__" id)
    (hc : wpAny M A (call (.builtin id) [o, i, v]) (fun _ => Q ()) E s) : wpAny M A (setItem o i v) Q E s := by
  unfold setItem
  refine wpAny_holding ?_
  refine wpAny_bind (wpAny_sequenceKey hT hn ?_)
  exact wpAny_bind (wpAny_callSpecial?_slot hT slot (wpAny_mono hc (fun v s' h' => wpAny_pure h') fun _ _ e => e))
theorem subscript_int {i : Nat} {u : Tok} {Q : Option Int → Shared → Prop} (hi : i ≤ 100000) (hq : Q (some (i : Int)) s) : wpAny (model prog w) A (Builtin.Bytes.subscript? (.int i u)) Q E s := by
  have hTi : s.TypeIs (.int i u) "int" := typeIs_int _ _ _
  have f1 : (!Builtin.Bytes.fitsIndex (i : Int)) = false := by
    simp only [Builtin.Bytes.fitsIndex]; simp; lia
  have hai : asIndex (.int (i : Int) u) = pure (i : Int) := rfl
  unfold Builtin.Bytes.subscript?
  with_reducible refine wpAny_bind ?_
  with_reducible refine wpAny_specialOf hTi PySem.int_index ?_
  dsimp only [Option.isNone_some]
  rw [if_neg Bool.false_ne_true]
  with_reducible refine wpAny_bind ?_
  with_reducible refine wpAny_of_eq hai ?_
  rw [f1, if_neg Bool.false_ne_true]
  exact wpAny_pure hq
theorem byteValue_int {c : UInt8} {u : Tok} {Q : UInt8 → Shared → Prop} (hq : Q c s) : wpAny (model prog w) A (Builtin.Bytes.byteValue (.int (c.toNat : Nat) u)) Q E s := by
  have hai : asIndex (.int ((c.toNat : Nat) : Int) u) = pure ((c.toNat : Nat) : Int) := rfl
  have hlt := c.toNat_lt
  unfold Builtin.Bytes.byteValue
  with_reducible refine wpAny_bind ?_
  with_reducible refine wpAny_of_eq hai ?_
  have f1 : (decide (((c.toNat : Nat) : Int) < 0) || decide (((c.toNat : Nat) : Int) ≥ 256)) = false := by
    simp; lia
  rw [f1, if_neg Bool.false_ne_true]
  have f2 : ((c.toNat : Nat) : Int).toNat.toUInt8 = c := by simp
  rw [f2]
  exact wpAny_pure hq
/-- `b[i] = v`, in the range or out of it. -/
theorem set_ba {B : Addr} {x : List UInt8} {i : Nat} {c : UInt8} {u t : Tok} {Q : Unit → Shared → Prop} (b : BA s.heap B x) (hn : x.length ≤ 1000) (hh : A.handled = none) (hi : i ≤ 100000)
    (hQ : i < x.length → ∀ h', BA h' B (x.set i c) → Heap.SameBut B s.heap h' → Q () { s with heap := h' })
    (hE : ¬ i < x.length → ∀ h' tk e, Heap.NewExc s.heap h' e "IndexError" → E (.ref e) { s with heap := h', toks := tk }) :
    wpAny (model prog w) A (setItem (.ref B) (.int i u) (.int (c.toNat : Nat) t)) Q E s := by
  refine setItem_slot b.typeIs (by decide) ba_slot_setitem (wpAny_call_entry ba_slot_setitem b.typeIs ba_entry_setitem ?_ (ba_args_setitem _ _ _))
  unfold Builtin.«bytearray.__setitem__»
  dsimp only [List.isEmpty_nil]
  rw [if_neg (by decide : ¬ ((!true) = true))]
  with_reducible refine wpAny_bind ?_
  with_reducible refine subscript_int hi ?_
  dsimp only
  with_reducible refine wpAny_bind ?_
  with_reducible refine byteValue_int ?_
  with_reducible refine wpAny_bind ?_
  with_reducible refine ba_payload b ?_
  by_cases hlt : i < x.length
  · have hix : seqIndex? (i : Int) x.toArray.size = some i := by
      simp [seqIndex?, hlt]; lia
    rw [hix]
    with_reducible refine wpAny_bind ?_
    refine ba_write (y := x.set i c) b (by simp) (by simpa using hn) fun h' b' hs => ?_
    exact wpAny_pure ⟨_, rfl, hQ hlt h' b' hs⟩
  · have hix : seqIndex? (i : Int) x.toArray.size = none := by
      simp [seqIndex?]; lia
    rw [hix]
    with_reducible refine wpAny_bind ?_
    show wpAny _ _ (rule "bytearray.subscript.out-of-range" >>= fun _ => raiseErrorWords "IndexError" "bytearray index out of range") _ _ _
    with_reducible refine wpAny_bind ?_
    with_reducible refine wpAny_rule ?_
    exact wpAny_raiseErrorWords plainExc_IndexError hh (hE hlt)
end
end Mine
end
noncomputable section
open PySem PySem.W PyProof.Rows
open PySem.Sem (wp)
set_option Elab.async false
set_option autoImplicit false
set_option linter.unusedVariables false
set_option linter.unusedSimpArgs false
set_option maxRecDepth 100000
namespace Mine
theorem ba_no_bytes : typeLookup (.type "bytearray") "__bytes__" = pure none := by rw [typeLookup_type, builtinLookup_eq_fast]; kernel_rfl
theorem ba_no_index : typeLookup (.type "bytearray") "__index__" = pure none := by rw [typeLookup_type, builtinLookup_eq_fast]; kernel_rfl
theorem ba_buffer : typeLookup (.type "bytearray") "__buffer__" = pure (some (.builtin "bytearray.__buffer__")) := by rw [typeLookup_type, builtinLookup_eq_fast]; kernel_rfl
section
variable {prog : Program} {w : World} {A : Around} {E : Value → Shared → Prop} {s : Shared} {R : Result → Shared → Prop}
theorem ba_buffer_own {B : Addr} {x : List UInt8} {Q : Bool → Shared → Prop} (b : BA s.heap B x) (h : Q true s) : wpAny (model prog w) A (Builtin.Bytes.slotIsOwn (.ref B) "__buffer__") Q E s := by
  have hT := b.typeIs
  unfold Builtin.Bytes.slotIsOwn
  refine wpAny_bind (wpAny_specialOf hT ba_buffer ?_)
  refine bm_if_false (by decide +kernel) ?_
  rw [show "bytearray.__buffer__".dropRight ("__buffer__".length + 1) = "bytearray" from by decide +kernel]
  exact wpAny_isInstance hT PySem.F.isi_self_bytearray h
theorem ba_buffer_of {B : Addr} {x : List UInt8} {id : String} {full : Bool} {Q : Option (Array UInt8) → Shared → Prop} (b : BA s.heap B x) (h : Q (some x.toArray) s) : wpAny (model prog w) A (Builtin.Bytes.buffer? id (.ref B) full) Q E s := by
  have hT := b.typeIs
  unfold Builtin.Bytes.buffer?
  refine wpAny_bind (wpAny_specialOf hT ba_buffer ?_)
  refine wpAny_bind (ba_buffer_own b ?_)
  refine bm_if_false rfl ?_
  refine wpAny_bind (wpAny_specialOf hT ba_buffer ?_)
  refine wpAny_bind (ba_ownRelease b ?_)
  refine bm_if_false rfl ?_
  exact wpAny_bind (ba_payload b (wpAny_pure h))
theorem bytes_ba_new {B : Addr} {x : List UInt8} {Q : Value → Shared → Prop} (b : BA s.heap B x) (hn : x.length ≤ 1000)
    (hQ : ∀ t tk, Q (.bytes x.toArray t) { s with toks := tk }) :
    codeAny (model prog w) A (.call (.builtin "bytes.__new__") ⟨[.type "bytes", .ref B], []⟩) (wants Q E) s := by
  refine codeAny_of_tree ?_
  show wpAny _ A.in1 (do checkBuiltinCall "bytes.__new__" ⟨[.type "bytes", .ref B], []⟩; again (.builtin "bytes.__new__" ⟨[.type "bytes", .ref B], []⟩)) _ _ s
  refine wpAny_bind (wpAny_of_eq (F.bm_newCall _) (wpAny_pure ⟨plainId_quiet F.bm_plain _, codeAny_builtin F.bm_entry ?_⟩))
  rw [Around.under_plainId F.bm_plain _]
  have hT := b.typeIs
  unfold Builtin.«bytes.__new__»
  refine wpAny_bind (wpAny_of_eq (a := true) rfl ?_)
  refine bm_if_false rfl ?_
  refine wpAny_bind (wpAny_of_eq F.bm_sub ?_)
  refine bm_if_false rfl ?_
  refine wpAny_bind (wpAny_of_eq (F.bm_bind _) ?_)
  refine wpAny_bind (wpAny_of_eq (a := ()) rfl ?_)
  refine wpAny_bind (wpAny_of_eq (a := ()) rfl ?_)
  refine bm_if_false rfl ?_
  refine wpAny_bind (wpAny_specialOf hT ba_no_bytes ?_)
  refine wpAny_bind (wpAny_bind ?_)
  show wpAny _ _ (load B >>= _) _ _ _
  refine wpAny_bind (wpAny_load b ?_)
  refine wpAny_pure (wpAny_pure ?_)
  refine bm_if_false rfl ?_
  refine wpAny_bind (wpAny_specialOf hT ba_no_index ?_)
  refine bm_if_true rfl ?_
  first
    | show wpAny _ _ (Builtin.Bytes.buffer? "bytes.__new__" (.ref B) true >>= _) _ _ _
    | (refine wpAny_bind ?_; show wpAny _ _ (Builtin.Bytes.buffer? "bytes.__new__" (.ref B) true >>= _) _ _ _)
  refine wpAny_bind (ba_buffer_of b ?_)
  refine wpAny_bind (wpAny_rule ?_)
  refine wpAny_bind (wpAny_mkBytes ?_ (by rw [sizeLine_is]; simp; lia))
  show wpAny _ _ (if (Value.type "bytes" == Value.type "bytes") = true then _ else _) _ _ _
  refine bm_if_true (by decide) ?_
  first
    | exact wpAny_pure (hQ _ _)
    | exact wpAny_bind (wpAny_pure (wpAny_pure (hQ _ _)))
theorem call_bytes_ba {B : Addr} {x : List UInt8} {Q : Value → Shared → Prop} (b : BA s.heap B x) (hn : x.length ≤ 1000)
    (hQ : ∀ t tk, Q (.bytes x.toArray t) { s with toks := tk }) : wpAny (model prog w) A (call (.type "bytes") [.ref B]) Q E s := by
  refine callType_codes (Q₁ := fun obj s₁ => s₁.TypeIs obj "bytes" ∧ Q obj s₁) F.bm_called (F.bm_typeCall _) F.entry_object_init
    (bytes_ba_new b hn fun t tk => ⟨typeIs_bytes _ _ _, hQ t tk⟩) fun obj s₁ h₁ => ?_
  exact ⟨h₁.1, F.args_object_init_2 obj _, object_init_meets F.bm_called.init.lookup F.bm_called.made (by decide) prog w A.in1 _ s₁ ⟨h₁.1, rfl, h₁.2⟩⟩
end
end Mine
end
noncomputable section
open PySem PySem.W PyProof.Rows
open PySem.Sem (wp)
set_option Elab.async false
set_option autoImplicit false
set_option linter.unusedVariables false
set_option linter.unusedSimpArgs false
set_option maxRecDepth 100000
namespace Mine
/-- Where the octet of place p comes from. -/
def mix (w p : Nat) : Nat := (p / w) * w + (w - 1 - p % w)
/-- The octets laid so far: k groups, and j octets of the next. -/
def laid (x : List UInt8) (w k j : Nat) : List UInt8 :=
  (List.range x.length).map fun p => if p / w < k ∨ (p / w = k ∧ w - j ≤ p % w) then x.getD (mix w p) 0 else 0
theorem laid_len (x : List UInt8) (w k j : Nat) : (laid x w k j).length = x.length := by simp [laid]
theorem laid_zero (x : List UInt8) {w : Nat} (hw : 1 ≤ w) : laid x w 0 0 = List.replicate x.length 0 := by
  apply List.ext_getElem
  · simp [laid]
  · intro i h1 h2
    have : i % w < w := Nat.mod_lt _ (by lia)
    have e : ¬ (i / w < 0 ∨ (i / w = 0 ∧ w - 0 ≤ i % w)) := by
      rintro (z | ⟨_, z⟩)
      · exact absurd z (Nat.not_lt_zero _)
      · lia
    simp only [laid, List.getElem_map, List.getElem_range, if_neg e, List.getElem_replicate]
theorem laid_next (x : List UInt8) {w : Nat} (k : Nat) (hw : 1 ≤ w) : laid x w k w = laid x w (k + 1) 0 := by
  unfold laid
  apply List.map_congr_left
  intro p hp
  have : p % w < w := Nat.mod_lt _ (by lia)
  have e : (p / w < k ∨ (p / w = k ∧ w - w ≤ p % w)) ↔ (p / w < k + 1 ∨ (p / w = k + 1 ∧ w - 0 ≤ p % w)) := by lia
  by_cases q : p / w < k ∨ (p / w = k ∧ w - w ≤ p % w)
  · rw [if_pos q, if_pos (e.mp q)]
  · rw [if_neg q, if_neg fun z => q (e.mpr z)]
theorem laid_set (x : List UInt8) {w k j : Nat} (hw : 1 ≤ w) (hj : j < w) (hk : k * w + w ≤ x.length) : (laid x w k j).set (k * w + w - 1 - j) (x.getD (k * w + j) 0) = laid x w k (j + 1) := by
  apply List.ext_getElem
  · simp [laid]
  · intro p h1 h2
    rw [List.getElem_set]
    have hp : p < x.length := by simpa [laid] using h2
    have hm : p % w < w := Nat.mod_lt _ (by lia)
    have hdm : w * (p / w) + p % w = p := Nat.div_add_mod p w
    simp only [laid, List.getElem_map, List.getElem_range]
    by_cases q : k * w + w - 1 - j = p
    · rw [if_pos q]
      have e1 : p = (w - 1 - j) + w * k := by rw [Nat.mul_comm w k]; lia
      have e2 : p / w = k := by rw [e1, Nat.add_mul_div_left _ _ (by lia), Nat.div_eq_of_lt (by lia)]; lia
      have e3 : p % w = w - 1 - j := by rw [e1, Nat.add_mul_mod_self_left, Nat.mod_eq_of_lt (by lia)]
      rw [if_pos (by lia)]
      congr 1
      unfold mix
      rw [e2, e3]; lia
    · rw [if_neg q]
      have e : (p / w < k ∨ (p / w = k ∧ w - j ≤ p % w)) ↔ (p / w < k ∨ (p / w = k ∧ w - (j + 1) ≤ p % w)) := by
        constructor
        · lia
        · rintro (z | ⟨z1, z2⟩)
          · exact .inl z
          · right
            refine ⟨z1, ?_⟩
            rcases Nat.lt_or_ge (p % w) (w - j) with y | y
            · exfalso; apply q
              rw [z1] at hdm
              rw [Nat.mul_comm w k] at hdm
              lia
            · exact y
      by_cases z : p / w < k ∨ (p / w = k ∧ w - j ≤ p % w)
      · rw [if_pos z, if_pos (e.mp z)]
      · rw [if_neg z, if_neg fun y => z (e.mpr y)]
end Mine
end
noncomputable section
open PySem PySem.W PyProof.Rows
open PySem.Sem (wp)
set_option Elab.async false
set_option autoImplicit false
set_option linter.unusedVariables false
set_option linter.unusedSimpArgs false
set_option maxRecDepth 100000
namespace Mine
section
variable {prog : Program} {w : World} {A : Around} {env : Env} {P : Addr → Prop} {h : Heap}
/-- A call of a type, its arguments of the first tier, the call of the second. -/
theorem wpN_call_ty {f : Str} {p pos : Pos} {T : String} {es : List Expr} {ds : List D} {s : Shared} {Q E : Value → Shared → Prop} (l : Looks env h f (.type T)) (hs : Sub h s.heap)
    (x : EvL prog w A env P h es ds) (c : ∀ vs s1, Kp s s1 → RdL (Nw P s) s1.heap ds vs → wpN (model prog w) A (call (.type T) vs) Q E s1) : wpN (model prog w) A (eval (.Call (.Name f p) es [] pos) env) Q E s := by
  show wpN _ A (do callWith pos (← eval (.Name f p) env) [] (backTo pos (starEach es env)) (backToKw pos (keywordEach [] env))) Q E s
  refine wpN_bind (wpN_of (looks_eval l hs ?_))
  show wpN _ A (callWith pos (.type T) [] (backTo pos (starEach es env)) []) Q E s
  unfold callWith
  refine wpN_bind (wpN_holding (wpN_of (x.args s hs _ _ fun vs s1 k r => wpN_bind (wpN_standAt ?_))))
  have go : wpN (model prog w) A (call (.type T) vs) Q E s1 := c vs s1 k r
  have tail : ∀ {t : Sem Value}, wpN (model prog w) A t Q E s1 → wpN (model prog w) A (t >>= fun r => holding [r] point >>= fun _ => pure r) Q E s1 :=
    fun ht => wpN_bind (wpN_mono ht (fun r s₂ hr => wpN_of (wpAny_bind (wpAny_holding (wpAny_point (wpAny_pure hr))))) fun _ _ x => x)
  have hpl : (backTo pos (starEach es env)).any (fun x => x.1) = false := x.plain
  simp only [hpl, List.any_nil, Bool.or_false]
  refine wpN_bind (m := keeperOf (.type T)) (wpN_pure ?_)
  exact tail go
end
end Mine
end
noncomputable section
open PySem PySem.W PyProof.Rows
open PySem.Sem (wp)
set_option Elab.async false
set_option autoImplicit false
set_option linter.unusedVariables false
set_option linter.unusedSimpArgs false
set_option maxRecDepth 100000
namespace Mine
section
variable {prog : Program} {w : World}
/-- What octets can be read of: bytes, or a bytearray. -/
structure BSrc (prog : Program) (w : World) (h : Heap) (d : D) (x : List UInt8) : Prop where
  len : ∀ (A : Around) (h' : Heap), Sub h h' → Ct prog w A h' (.builtin "len") [d] (.int x.length)
  item : ∀ (A : Around) (P : Addr → Prop) (s : Shared) (v1 v2 : Value) (value slice : Expr) (i : Nat), Sub h s.heap → i < x.length →
    (∀ v t, subscripted slice false v (.int (i : Int) t) = operate [v, .int (i : Int) t] (getItem v (.int (i : Int) t))) → Rd P s.heap d v1 → Rd P s.heap (.int i) v2 → Rt prog w A P (subscriptTail value slice v1 v2) (.int ((x.getD i 0).toNat : Nat)) s
  flat : d.flat = true
theorem bsrc_bytes (h : Heap) (x : List UInt8) (hn : x.length ≤ 1000) : BSrc prog w h (.bytes x) x :=
  ⟨fun A h' _ => ct_len_bytes x hn, fun A P s v1 v2 value slice i _ hi hsub r1 r2 => item_bytes (i := i) hn (by lia) (by lia) hsub P s v1 v2 r1 r2, rfl⟩
theorem bsrc_ba {h : Heap} {B : Addr} {x : List UInt8} (b : BA h B x) (hn : x.length ≤ 1000) : BSrc prog w h (.addr B) x := by
  refine ⟨fun A h' k P s vs hs r Q E hQ => ?_, fun A P s v1 v2 value slice i hs hi hsub r1 r2 Q E hQ => ?_, rfl⟩
  · obtain ⟨v, q, rfl, r1, r2⟩ := rdL_cons.mp r
    rw [rdL_nil.mp r2, rd_addr.mp r1]
    exact len_ba (hs _ _ (k _ _ b)) hn fun t tk => hQ _ _ Kp.tok (rd_int.mpr ⟨t, rfl⟩)
  · rw [rd_addr.mp r1]
    obtain ⟨u, rfl⟩ := rd_int.mp r2
    have b' : BA s.heap B x := hs _ _ b
    exact tail_any b'.typeIs ba_slot_getitem.lookup (get_ba b' hn hi fun t tk => hQ _ _ Kp.tok (rd_int.mpr ⟨t, rfl⟩)) (hsub _ _)
end
section
variable {prog : Program} {w : World} {A : Around} {env : Env} {P : Addr → Prop} {h : Heap}
theorem ev_itemB {value slice : Expr} {pos : Pos} {d1 : D} {x : List UInt8} {i : Nat} {h0 : Heap} (B : BSrc prog w h0 d1 x) (h0s : Sub h0 h) (h1 : Ev prog w A env P h value d1) (h2 : Ev prog w A env P h slice (.int i)) (hi : i < x.length)
    (hs : ∀ v t, subscripted slice false v (.int (i : Int) t) = operate [v, .int (i : Int) t] (getItem v (.int (i : Int) t)) := by intro _ _; with_unfolding_all rfl) : Ev prog w A env P h (.Subscript value slice pos) (.int ((x.getD i 0).toNat : Nat)) := fun s hss Q E hQ => by
  refine Subscript_ (h1 s hss _ _ fun v1 s1 k1 r1 => h2 s1 (hss.trans k1.keep) _ _ fun v2 s2 k2 r2 => ?_)
  exact B.item A (Nw P s) s2 v1 v2 value slice i (h0s.trans (hss.trans (k1.trans k2).keep)) hi hs (r1.sub k2.keep) (r2.mono fun _ e => e.kp k1) _ _ fun v s' k q => hQ v s' (k1.trans (k2.trans k)) (q.mono fun _ e => e.nw (k1.trans k2))
end
end Mine
end
noncomputable section
open PySem PySem.W PyProof.Rows
open PySem.Sem (wp)
set_option Elab.async false
set_option autoImplicit false
set_option linter.unusedVariables false
set_option linter.unusedSimpArgs false
set_option maxRecDepth 100000
namespace Mine
theorem ok0 : FnOk (theDef 0) ["data", "width"] :=
  ⟨fun pm cd doc vs hl => by
    obtain ⟨a, b, rfl⟩ := two_of hl
    with_unfolding_all rfl, by decide, by with_unfolding_all decide, by with_unfolding_all rfl, by with_unfolding_all rfl, by with_unfolding_all decide⟩
theorem rangeSize_mul {wd k : Nat} (hw : 1 ≤ wd) : Builtin.Range.rangeSize 0 ((k * wd : Nat) : Int) (wd : Nat) = k := by
  unfold Builtin.Range.rangeSize
  rw [if_pos (by lia)]
  cases k with
  | zero => simp
  | succ k =>
    have h1 : (0 : Int) < (((k + 1) * wd : Nat) : Int) := by
      have : 0 < (k + 1) * wd := Nat.mul_pos (by lia) (by lia)
      lia
    rw [if_pos h1]
    have e : (((k + 1) * wd : Nat) : Int) - 0 - 1 = (((wd - 1) + wd * k : Nat) : Int) := by
      have : (k + 1) * wd = wd * k + wd := by rw [Nat.add_mul, Nat.one_mul, Nat.mul_comm]
      lia
    rw [e, ← Int.natCast_ediv, Nat.add_mul_div_left _ _ (by lia), Nat.div_eq_of_lt (by lia)]
    lia
section
variable {prog : Program} {w : World} {A : Around} {h : Heap} {mg mb : Str → Option Value}
theorem ct_bytes_ba {B : Addr} {x : List UInt8} (b : BA h B x) (hn : x.length ≤ 1000) : Ct prog w A h (.type "bytes") [.addr B] (.bytes x) := fun P s vs hs r Q E hQ => by
  obtain ⟨v, q, rfl, r1, r2⟩ := rdL_cons.mp r
  rw [rdL_nil.mp r2, rd_addr.mp r1]
  exact call_bytes_ba (hs _ _ b) hn fun t tk => hQ _ _ Kp.tok (rd_bytes.mpr ⟨t, rfl⟩)
theorem ctN_byteswap {n : Nat} {a : Addr} {cd : Value} (oA : OkA (n + 1) A) (T : Gd mg mb h) (F : FnAt h a (theDef 0) cd) {d : D} {x : List UInt8} (Bs : BSrc prog w h d x) (wd k : Nat) (hw : 1 ≤ wd) (hx : x.length = k * wd) (hn : x.length ≤ 100) (hwn : wd ≤ 100) :
    CtN prog w A h (.ref a) [d, .int (wd : Nat)] (.bytes (laid x wd k 0)) := by
  refine ctN_fn oA F ok0 rfl (by with_unfolding_all rfl) fun sb P0 L s0 hs0 k0 S0 => ?_
  have oA' : OkA n (A.deeper (envOfC (theDef 0).name (theDef 0).scope L a cd)) := oA.deeper _
  generalize hA' : A.deeper (envOfC (theDef 0).name (theDef 0).scope L a cd) = A' at oA' ⊢
  have T0 := T.sub (hs0.trans S0.keep)
  refine wpN_execs_cons (wpN_Assign_Name (wpN_call_ty (T0.blt (x := "bytearray") PyProof.Rows.Boot.«bytearray»).lk (.refl _) (evl_one (ev_call_bi (T0.blt (x := "len") boot_len).lk (evl_one (ev_has (S0.has (d := d) (by with_unfolding_all rfl)))) (Bs.len A' _ (hs0.trans S0.keep)))) fun vs s1 k1 r1 => ?_))
  obtain ⟨v, q, rfl, r1, r2⟩ := rdL_cons.mp r1
  rw [rdL_nil.mp r2]
  obtain ⟨t, rfl⟩ := rd_int.mp r1
  refine call_ba_int oA'.guards (by lia) fun h2 hs2 b2 => ?_
  generalize hB : s1.heap.objs.size = B at *
  have kk : Kp s0 { s1 with heap := h2 } := k1.trans (Kp.heap (t := s1.toks) hs2)
  have hBn : s0.heap.get? B = none := by rw [← hB]; exact none_of_kp k1 (get_size _)
  refine (S0.grow kk hBn ⟨_, b2⟩).store (d := .addr B) (rd_addr.mpr rfl) (.inl (by with_unfolding_all rfl)) (by decide) fun s3 k3 S3 => ?_
  have hBX : ¬ FrA (envOfC (theDef 0).name (theDef 0).scope L a cd) B := fun z => S0.notX hBn (.inl z)
  have b3 : BA s3.heap B (laid x wd 0 0) := by rw [laid_zero x hw]; exact k3.keep B _ hBX b2
  have T3 := T.sub (hs0.trans S3.keep)
  have hsb : sb.heap.get? B = none := S0.old hBn
  refine wpN_execs_cons (wpN_of (sta_for (d := .range 0 (x.length : Nat) (wd : Nat)) (ds := (rangeL 0 (wd : Nat) k).map D.int) (fun _ => [("swapped_data", .addr B), ("data", d), ("width", .int (wd : Nat))]) (fun i s => BA s.heap B (laid x wd i 0)) S3 ?iter ?src ?V0 (fun s' k' => k'.keep _ _ b3) (fun I i s1 s2 hI j kw => kw.keep B _ (fun z => hI (.inr (.inr z.symm))) j) (fun i s1 s2 j kx => kx.keep B _ hBX j)
    (fun G' i di s4 hdi hG kx4 S4 b4 => ?turn) fun s4 S4 b4 => ?done))
  case iter =>
    exact ev_call_ty (T3.blt (x := "range") boot_range).lk (evl_cons (ev_int 0 _ _) (evl_cons (ev_call_bi (T3.blt (x := "len") boot_len).lk (evl_one (ev_has (S3.has (d := d) (by with_unfolding_all rfl)))) (Bs.len A' _ (hs0.trans S3.keep))) (evl_one (ev_has (S3.has (d := .int (wd : Nat)) (by with_unfolding_all rfl))))))
      (ct_range3 (by lia) (PyProof.noPylong_small (by lia)))
  case src =>
    intro P s v r
    have hrs : Builtin.Range.rangeSize 0 (x.length : Nat) (wd : Nat) = k := by rw [hx]; exact rangeSize_mul hw
    refine src_range oA'.handled ?_ hrs r
    have hk : k ≤ 100 := by
      have := Nat.le_mul_of_pos_right k (m := wd) (by lia)
      lia
    unfold Builtin.Range.small
    rw [hrs]
    simp only [Builtin.Range.rangeFitsLong]
    rw [if_pos (by lia)]
    simp only [Bool.and_eq_true, Bool.or_eq_true, decide_eq_true_eq]
    refine ⟨⟨⟨⟨?_, ?_⟩, ?_⟩, ?_⟩, .inr ?_⟩ <;> (constructor <;> lia)
  case V0 =>
    intro p hp
    simp only [List.mem_cons, List.not_mem_nil, or_false] at hp
    rcases hp with rfl | rfl | rfl <;> with_unfolding_all rfl
  case turn =>
    obtain ⟨hi, rfl⟩ : i < k ∧ di = D.int ((i * wd : Nat) : Int) := by
      have hl := (List.getElem?_eq_some_iff.mp hdi).1
      have hi : i < k := by simpa [rangeL] using hl
      refine ⟨hi, ?_⟩
      rw [List.getElem?_eq_getElem hl] at hdi
      rw [← Option.some.inj hdi]
      simp [rangeL]
    have hik : i * wd + wd ≤ x.length := by
      have := Nat.mul_le_mul_right wd (show i + 1 ≤ k from hi)
      rw [Nat.add_mul, Nat.one_mul] at this; lia
    have T4 := T.sub (hs0.trans S4.keep)
    refine wpAny_execs_cons (sta_for (d := .range 0 (wd : Nat) 1) (ds := (List.range wd).map fun (j : Nat) => D.int j) (fun _ => [("i", .int ((i * wd : Nat) : Int)), ("swapped_data", .addr B), ("data", d), ("width", .int (wd : Nat))]) (fun j s => BA s.heap B (laid x wd i j)) S4 (ev_range1 (T4.blt (x := "range") boot_range).lk (ev_has (S4.has (d := .int (wd : Nat)) (by with_unfolding_all rfl)))) (fun P s v r => src_range1 oA'.handled (by lia) r) ?V1 (fun s' k' => k'.keep _ _ b4) (fun I i s1 s2 hI j kw => kw.keep B _ (fun z => hI (.inr (.inr z.symm))) j) (fun i s1 s2 j kx => kx.keep B _ hBX j)
      (fun G2 j dj s5 hdj hG2 kx5 S5 b5 => ?turn2) fun s5 S5 b5 => ?done2)
    case V1 =>
      intro p hp
      simp only [List.mem_cons, List.not_mem_nil, or_false] at hp
      rcases hp with rfl | rfl | rfl | rfl <;> with_unfolding_all rfl
    case done2 =>
      have hlen : ((List.range wd).map fun (j : Nat) => D.int j).length = wd := by simp
      rw [hlen, laid_next x i hw] at b5
      refine wpAny_execs_nil ⟨S5.weak ?_, b5⟩
      intro p hp
      simp only [List.mem_cons, List.not_mem_nil, or_false] at hp
      rcases hp with rfl | rfl | rfl <;> with_unfolding_all rfl
    case turn2 =>
      obtain ⟨hj, rfl⟩ := range_at hdj
      have hij : i * wd + j < x.length := by lia
      have ei := fun pos => ev_has (prog := prog) (w := w) (A := A') (pos := pos) (S5.has (x := "i") (d := .int ((i * wd : Nat) : Int)) (by with_unfolding_all rfl))
      have ej := fun pos => ev_has (prog := prog) (w := w) (A := A') (pos := pos) (S5.has (x := "j") (d := .int (j : Nat)) (by with_unfolding_all rfl))
      have ew := fun pos => ev_has (prog := prog) (w := w) (A := A') (pos := pos) (S5.has (x := "width") (d := .int (wd : Nat)) (by with_unfolding_all rfl))
      refine wpAny_execs_cons (wpAny_Assign_Subscript (ev_itemB (i := i * wd + j) Bs (hs0.trans S5.keep) (ev_has (S5.has (x := "data") (d := d) (by with_unfolding_all rfl))) (ev_cast (ev_bin (ei _) (ej _) (op_add _ _)) (by simp)) hij (by intro _ _; with_unfolding_all rfl) s5 (.refl _) _ _ fun v s6 k6 r6 => ?_))
      refine ev_has (prog := prog) (w := w) (A := A') ((S5.kp k6).has (x := "swapped_data") (d := .addr B) (by with_unfolding_all rfl)) s6 (.refl _) _ _ fun ov s7 k7 r7 => ?_
      rw [rd_addr.mp r7]
      refine ev_cast (d' := .int ((i * wd + wd - 1 - j : Nat) : Int)) (ev_bin (ev_bin (ev_bin (ei _) (ew _) (op_add _ _)) (ev_int 1 _ _) (op_sub _ _)) (ej _) (op_sub _ _)) (by congr 1; lia) s7 (k6.trans k7).keep _ _ fun iv s8 k8 r8 => ?_
      obtain ⟨t6, rfl⟩ := rd_int.mp r6
      obtain ⟨t8, rfl⟩ := rd_int.mp r8
      have kk8 := k6.trans (k7.trans k8)
      have b8 : BA s8.heap B (laid x wd i j) := kk8.keep _ _ b5
      refine set_ba b8 (by rw [laid_len]; lia) oA'.handled (by lia) (fun hlt h9 b9 hs9 => ?_) fun hlt => absurd (by rw [laid_len]; lia) hlt
      rw [laid_set x hw hj hik] at b9
      refine wpAny_execs_nil ⟨((S5.kp kk8).on (Kx.same (tk := s8.toks) (X := fun b => b = B) hs9 b9 rfl) fun b e => ⟨.inr e, fun z => hBX (e ▸ z)⟩).weak ?_, b9⟩
      intro p hp
      simp only [List.mem_cons, List.not_mem_nil, or_false] at hp
      rcases hp with rfl | rfl | rfl | rfl <;> with_unfolding_all rfl
  case done =>
    have hlen : ((rangeL 0 (wd : Nat) k).map D.int).length = k := by simp [rangeL]
    rw [hlen] at b4
    have T4 := T.sub (hs0.trans S4.keep)
    refine wpN_execs_cons (wpN_of (st_return S4 k0 (fun _ e => e) (ev_call_ty (T4.blt (x := "bytes") boot_bytes).lk (evl_one (ev_has (S4.has (d := .addr B) (by with_unfolding_all rfl)))) (ct_bytes_ba b4 (by rw [laid_len]; lia))) fun v s5 r => r))
end
end Mine
end
noncomputable section
open PySem PySem.W PyProof.Rows
open PySem.Sem (wp)
set_option Elab.async false
set_option autoImplicit false
set_option linter.unusedVariables false
set_option linter.unusedSimpArgs false
set_option maxRecDepth 4000
namespace Mine
/-! Rules of a generator's steps: for, if. -/
section
variable {M : Model} {A : Around} {R : GenEnd} {Y : Protocol} {n : Nat} {s₀ : Shared} {c : Code} {fs : List Frame} {s : Shared} {env : Env}
  {K : Flow → Sem PySem.Fin} {H : Value → Sem PySem.Fin} {gd : Bool → Bool} {lv : List Value → List Value}
theorem seg_If {test : Expr} {body orelse : List Stmt} {pos : Pos}
    (h : wpAny M (A.over c fs) (isTrue test env (eval test env)) (fun b s' => Seg M A R Y n s₀ c ((execs (if b = true then body else orelse) env).wrap K H gd lv) fs s') (fun x s' => Seg M A R Y n s₀ c (H x) fs s') s) :
    Seg M A R Y n s₀ c ((exec (.If test body orelse pos) env).wrap K H gd lv) fs s := by
  rw [exec_If]
  refine seg_bind_wrap (wpAny_standAt ?_)
  refine seg_bind_wrap (wpAny_mono h (fun b s' h' => ?_) fun _ _ e => e)
  cases b <;> exact h'
def backIn (env : Env) (K : Flow → Sem PySem.Fin) (H : Value → Sem PySem.Fin) (gd : Bool → Bool) (lv : List Value → List Value) (r : Result) : Sem PySem.Fin :=
  ((match r with | .ok f => (.pure f : Sem Flow) | .error e => .raise e).onRaise fun (x : Value) => do
        if (← field x 1) == Value.none then unsupported "frame.own-activation:exception-without-traceback"
        setFlight x env.frame).wrap K H gd lv
theorem seg_For {target iter : Expr} {body orelse : List Stmt} {pos : Pos}
    (h : wpAny M (A.over c fs) (eval iter env) (fun x s₁ => wpAny M (A.over c fs) (pyIter x) (fun it s₂ => ∀ p lw,
      Seg M A R Y n s₀ (.forLoop target it body orelse env) (M.den (.forLoop target it body orelse env)) (.ret (backIn env K H gd lv) none (gd false) lw c p [] :: fs) s₂)
      (fun x s' => Seg M A R Y n s₀ c (H x) fs s') s₁) (fun x s' => Seg M A R Y n s₀ c (H x) fs s') s)
    (hs : ∀ x, foldedSetIterable iter env x = pure x := by intro _; rfl) :
    Seg M A R Y n s₀ c ((exec (.For target iter body orelse pos) env).wrap K H gd lv) fs s := by
  rw [exec_For]
  refine seg_bind_wrap (wpAny_standAt ?_)
  refine seg_bind_wrap (wpAny_mono h (fun x s₁ h₁ => ?_) fun _ _ e => e)
  refine seg_bind_wrap (wpAny_of_eq (hs x) ?_)
  refine seg_bind_wrap (wpAny_standAt ?_)
  refine seg_bind_wrap (wpAny_holding (wpAny_mono h₁ (fun it s₂ h₂ => ?_) fun _ _ e => e))
  exact seg_call fun p => h₂ p _
end
def turnE (env : Env) (e : Value) : Sem PySem.Fin := (do noteFrame e env; theTreesLotGoes e : Sem Unit).wrap (fun _ => .raise e) .raise id id
def turnK (target : Expr) (it : Value) (body orelse : List Stmt) (env : Env) : Flow → Sem PySem.Fin
  | .next | .cont => .pure (.again (.forLoop target it body orelse env))
  | .brk => .pure (.done .next)
  | .ret v => .pure (.done (.ret v))
section
variable {prog : Program} {w : World} {A : Around} {R : GenEnd} {Y : Protocol} {n : Nat} {s₀ : Shared} {fs : List Frame} {s : Shared} {env : Env}
theorem seg_forLoop {target : Expr} {it : Value} {body orelse : List Stmt}
    (h : wpAny (model prog w) (A.over (.forLoop target it body orelse env) fs) (pyNext it) (fun r s₁ => match r with
      | none => Seg (model prog w) A R Y n s₀ (.forLoop target it body orelse env) (.pure (.again (.block orelse env))) fs s₁
      | some v => wpAny (model prog w) (A.over (.forLoop target it body orelse env) fs) (letOwnedTupleGo target it v) (fun _ s₂ =>
          wpAny (model prog w) (A.over (.forLoop target it body orelse env) fs) (assign target env v) (fun _ s₃ =>
            Seg (model prog w) A R Y n s₀ (.forLoop target it body orelse env) ((execs body env).wrap (turnK target it body orelse env) (turnE env) id id) fs s₃)
            (fun x s' => Seg (model prog w) A R Y n s₀ (.forLoop target it body orelse env) (turnE env x) fs s') s₂)
          (fun x s' => Seg (model prog w) A R Y n s₀ (.forLoop target it body orelse env) (turnE env x) fs s') s₁)
      (fun x s' => Seg (model prog w) A R Y n s₀ (.forLoop target it body orelse env) (turnE env x) fs s') s) :
    Seg (model prog w) A R Y n s₀ (.forLoop target it body orelse env) ((model prog w).den (.forLoop target it body orelse env)) fs s := by
  show Seg _ A R Y n s₀ _ ((forTurn target it body orelse env).onRaise (fun x => do noteFrame x env; theTreesLotGoes x)) fs s
  unfold forTurn
  rw [Sem.onRaise_eq_wrap]
  have hE : (fun e : Value => (do noteFrame e env; theTreesLotGoes e : Sem Unit).bind fun _ => (.raise e : Sem PySem.Fin)) = turnE env := by
    funext e; exact Sem.bind_eq_wrap _ _
  rw [hE]
  refine seg_bind_wrap (wpAny_standAt ?_)
  refine seg_bind_wrap (wpAny_onRaise (wpAny_mono h (fun r s₁ h₁ => ?_) fun _ _ e => wpAny_standAt e))
  cases r with
  | none => exact h₁
  | some v =>
    refine seg_bind_wrap (wpAny_mono h₁ (fun _ s₂ h₂ => ?_) fun _ _ e => e)
    refine seg_bind_wrap (wpAny_mono h₂ (fun _ s₃ h₃ => ?_) fun _ _ e => e)
    rw [Sem.bind_eq_wrap', Sem.wrap_wrap]
    refine cast (congrArg (fun t => Seg (model prog w) A R Y n s₀ _ t fs s₃) (Sem.wrap_congr (execs body env) id id (fun f => ?_) (fun e => ?_))) h₃
    · cases f <;> rfl
    · rfl
theorem seg_block {body : List Stmt}
    (h : Seg (model prog w) A R Y n s₀ (.block body env) ((execs body env).wrap (fun f => .pure (.done f)) (turnE env) id id) fs s) :
    Seg (model prog w) A R Y n s₀ (.block body env) ((model prog w).den (.block body env)) fs s := by
  show Seg _ A R Y n s₀ _ (((execs body env).onRaise (fun x => do noteFrame x env; theTreesLotGoes x)) >>= fun f => pure (.done f)) fs s
  rw [Sem.onRaise_eq_wrap, Sem.bind_eq_wrap', Sem.wrap_wrap]
  refine cast (congrArg (fun t => Seg (model prog w) A R Y n s₀ _ t fs s) (Sem.wrap_congr (execs body env) id id (fun f => ?_) (fun e => ?_))) h
  · rfl
  · show turnE env e = Sem.wrap _ .raise id id ((do noteFrame e env; theTreesLotGoes e : Sem Unit).bind fun _ => .raise e)
    rw [Sem.bind_eq_wrap, Sem.wrap_wrap]
    rfl
end
end Mine
end
noncomputable section
open PySem PySem.W PyProof.Rows
open PySem.Sem (wp)
set_option Elab.async false
set_option autoImplicit false
set_option linter.unusedVariables false
set_option linter.unusedSimpArgs false
set_option maxRecDepth 4000
namespace Mine
theorem op_is_none_int {prog : Program} {w : World} {A : Around} (i : Int) : Op2 prog w A (compareOp .Is) (.int i) .none (.bool false) := fun P s v1 v2 r1 r2 Q E hQ => by
  obtain ⟨t, rfl⟩ := rd_int.mp r1; rw [rd_none.mp r2]
  exact is_int_none (hQ _ _ (Kp.refl _) (rd_bool.mpr rfl))
theorem op_is_none_none {prog : Program} {w : World} {A : Around} : Op2 prog w A (compareOp .Is) .none .none (.bool true) := fun P s v1 v2 r1 r2 Q E hQ => by
  rw [rd_none.mp r1, rd_none.mp r2]
  exact wpAny_is_self rfl (hQ _ _ (Kp.refl _) (rd_bool.mpr rfl))
/-- What the generator hands out: the j-th. -/
def gout (row : List Nat) (j : Nat) : Option Nat :=
  if j < stopOf row then row[j]? else if row[stopOf row]? = some 0 then row[stopOf row - 1]? else none
/-- What is kept between two steps. -/
structure GP (h : Heap) (L : Addr) (vs : List Value) (C I : Addr) : Prop where
  newC : h.get? C = none
  newI : h.get? I = none
  hL : L ≠ C ∧ L ≠ I
  hCI : C ≠ I
def Own (C I : Addr) (b : Addr) : Prop := b = C ∨ b = I
def FPs (h : Heap) (L C I : Addr) (b : Addr) : Prop := Dom h b ∨ b = L ∨ b = C ∨ b = I
def gY (h : Heap) (L C I : Addr) (row : List Nat) (N : Nat) : Protocol := fun m s₀ v s kap =>
  (∃ i t, gout row (N - m) = some i ∧ v = .int (i : Nat) t) ∧ Kx (Own C I) s₀ s ∧ Dom s.heap C ∧ Dom s.heap I ∧
    (0 < m → ∀ s'' : Shared, (∀ b o, FPs h L C I b → s.heap.get? b = some o → s''.heap.get? b = some o) → kap (.send .none) s'')
def gR (C I : Addr) (row : List Nat) (N : Nat) : GenEnd := fun n s₀ r s => r = .ok (.ret .none) ∧ (gout row (N + 1 - n) = none ∧ Kw (Own C I) s₀ s)
section
variable {prog : Program} {w : World} {A : Around} {h : Heap} {mg mb : Str → Option Value} {row : List Nat} {N : Nat} {L C I : Addr} {vs : List Value} {env : Env}
theorem tr_true {k : Nat} {p : Pos} : Tr prog w A env h (.Constant (.bool true) k p) true := fun s hs Q E hQ =>
  isTrue_plain (ev_bool (P := All) true k p s hs _ _ fun v s' k' r => by
    rw [rd_bool.mp r]
    exact wpAny_truthy_bool (hQ s' k'))
theorem looks_local {hp : Heap} {x : Str} {v : Value} {m : Str → Option Value} (hk : env.kindOf x = some .local) (hf : env.scope.kind = .function) (hx : (x == ("__debug__" : Str)) = false) (hn : hp.Ns env.locals m) (hm : m x = some v) : Looks env hp x v :=
  ⟨hf, hx, .inl ⟨hk, m, hn, hm⟩⟩
/-- For ever the same. -/
theorem seg_forever {fs : List Frame} {x : Str} {k : Nat} {p1 p2 p3 p4 : Pos} {i : Nat} (hfs : splitAtGen fs = none) (hfg : fs.any Frame.guarded = false) (hk : env.kindOf x = some .local) (hf : env.scope.kind = .function) (hx : (x == ("__debug__" : Str)) = false) (hC : env.locals = C)
    (hco : env.scope.isCoroutine = false) (hia : interactive env = false) (st : Nat) (hout : ∀ j, st ≤ j → gout row j = some i) :
    ∀ (n : Nat) (s₀ s : Shared) (m : Str → Option Value) (t : Tok), s.heap.Ns C m → m x = some (.int (i : Nat) t) → Kx (Own C I) s₀ s → Dom s.heap I → st ≤ N - n → n ≤ N →
    Seg (model prog w) A (gR C I row N) (gY h L C I row N) (n + 1) s₀ (.whileLoop (.Constant (.bool true) k p1) [.Expr (.Yield (some (.Name x p2)) p3) p4] [] env)
      ((model prog w).den (.whileLoop (.Constant (.bool true) k p1) [.Expr (.Yield (some (.Name x p2)) p3) p4] [] env)) fs s := by
  intro n
  induction n with
  | zero =>
    intro s₀ s m t hn hm hk0 hI hst hnN
    refine seg_whileLoop (tr_true s (.refl _) _ _ fun s1 k1 => ?_)
    rw [if_pos rfl]
    have l1 : Looks env s1.heap x (.int (i : Nat) t) := looks_local hk hf hx (hC ▸ hn.keeps k1.keep) hm
    refine seg_execs_cons (seg_Expr_Yield hfs rfl hfg (looks_eval l1 (.refl _) fun kap hkap => ?_) hco hia)
    obtain ⟨oC, hoC⟩ := Ns.some (hn.keeps k1.keep)
    obtain ⟨oI, hoI⟩ := hI
    exact ⟨⟨i, t, hout _ hst, rfl⟩, hk0.trans k1.kx, ⟨oC, hoC⟩, ⟨oI, k1.keep _ _ hoI⟩, fun q => absurd q (Nat.lt_irrefl _)⟩
  | succ n ih =>
    intro s₀ s m t hn hm hk0 hI hst hnN
    refine seg_whileLoop (tr_true s (.refl _) _ _ fun s1 k1 => ?_)
    rw [if_pos rfl]
    have l1 : Looks env s1.heap x (.int (i : Nat) t) := looks_local hk hf hx (hC ▸ hn.keeps k1.keep) hm
    refine seg_execs_cons (seg_Expr_Yield hfs rfl hfg (looks_eval l1 (.refl _) fun kap hkap => ?_) hco hia)
    obtain ⟨oC, hoC⟩ := Ns.some (hn.keeps k1.keep)
    obtain ⟨oI, hoI⟩ := hI
    refine ⟨⟨i, t, hout _ (by lia), rfl⟩, hk0.trans k1.kx, ⟨oC, hoC⟩, ⟨oI, k1.keep _ _ hoI⟩, fun _ s'' hs'' => hkap _ _ ?_⟩
    show Seg (model prog w) A (gR C I row N) (gY h L C I row N) (n + 1) s'' _ (.pure (.again _)) fs s''
    refine seg_again rfl (ih s'' s'' m t ((hn.keeps k1.keep).at' fun o e => hs'' _ o (.inr (.inr (.inl rfl))) e) hm (Kx.refl _ _) ⟨oI, hs'' _ _ (.inr (.inr (.inr rfl))) (k1.keep _ _ hoI)⟩ (by lia) (by lia))
end
end Mine
end
noncomputable section
open PySem PySem.W PyProof.Rows
open PySem.Sem (wp)
set_option Elab.async false
set_option autoImplicit false
set_option linter.unusedVariables false
set_option linter.unusedSimpArgs false
set_option maxRecDepth 4000
namespace Mine
def gBody : List Stmt := match (theDef 1).body with
  | [_, .For _ _ b _ _] => b
  | _ => []
abbrev gEnv (C a : Addr) (cd : Value) : Env := envOfC (theDef 1).name (theDef 1).scope C a cd
def LastOk (row : List Nat) (i : Nat) (v : Value) : Prop := (i = 0 ∧ v = .none) ∨ (0 < i ∧ ∃ j t, row[i - 1]? = some j ∧ v = .int (j : Nat) t)
section
variable {prog : Program} {w : World} {A : Around} {h : Heap} {mg mb : Str → Option Value} {row : List Nat} {N : Nat} {L C I : Addr} {vs : List Value}
/-- How it stands at the loop's head. -/
structure GAt (h : Heap) (row : List Nat) (vs : List Value) (L C I : Addr) (i : Nat) (hp : Heap) : Prop where
  ns : ∃ m v, hp.Ns C m ∧ m "last_interval" = some v ∧ LastOk row i v
  it : hp.IsListIter I L i
  ls : hp.IsList L vs.toArray
  sub : Sub h hp
theorem gout_lt {i : Nat} (hi : i < stopOf row) : gout row i = row[i]? := by simp [gout, hi]
theorem gout_ge {i : Nat} (hi : stopOf row ≤ i) : gout row i = if row[stopOf row]? = some 0 then row[stopOf row - 1]? else none := by
  have : ¬ i < stopOf row := by lia
  simp [gout, this]
theorem stop_end {i r : Nat} (hi : i ≤ stopOf row) (hr : row[i]? = some r) (he : isEnd r = true) : stopOf row = i := by
  rcases Nat.lt_or_ge i (stopOf row) with q | q
  · have := List.not_of_lt_findIdx (p := isEnd) (xs := row) q
    have hl := (List.getElem?_eq_some_iff.mp hr)
    obtain ⟨hl, e⟩ := hl
    rw [e, he] at this; cases this
  · lia
theorem stop_not {i r : Nat} (hi : i ≤ stopOf row) (hr : row[i]? = some r) (he : isEnd r = false) : i < stopOf row := by
  rcases Nat.lt_or_ge i (stopOf row) with q | q
  · exact q
  · have e : stopOf row = i := by lia
    obtain ⟨hl, e2⟩ := List.getElem?_eq_some_iff.mp hr
    have hlt : List.findIdx isEnd row < row.length := by show stopOf row < _; lia
    have := List.findIdx_getElem (p := isEnd) (w := hlt)
    have e3 : List.findIdx isEnd row = i := e
    simp only [e3] at this
    rw [e2, he] at this; cases this
theorem seg_step {a : Addr} {cd : Value} {k : Result → Sem PySem.Fin} {lw : List Value} {c : Code} {p px : Pos} {kp : List Value} (hh : A.handled = none) (T : Gd mg mb h) (rl : RdL All h (iL row) vs) (gp : GP h L vs C I) (hrow : row.length ≤ 1000) (h1 : row[0]? ≠ some 0)
    (hk : ∀ n s₀ s r, (r = .ok .next ∨ r = .ok (.ret .none)) → gR C I row N n s₀ (.ok (.ret .none)) s → Seg (model prog w) A (gR C I row N) (gY h L C I row N) n s₀ c (k r) [] s)
    (n i : Nat) (s₀ s : Shared) (hi : i ≤ stopOf row) (hni : n + i = N) (G : GAt h row vs L C I i s.heap) (k0 : Kx (Own C I) s₀ s)
    (cont : ∀ n', n = n' + 1 → ∀ s'' : Shared, i + 1 ≤ stopOf row → GAt h row vs L C I (i + 1) s''.heap → ∀ s₀', Kx (Own C I) s₀' s'' → Seg (model prog w) A (gR C I row N) (gY h L C I row N) n s₀'
      (.forLoop (.Name "interval" px) (.ref I) gBody [] (gEnv C a cd)) ((model prog w).den (.forLoop (.Name "interval" px) (.ref I) gBody [] (gEnv C a cd))) [.ret k none false lw c p kp] s'') :
    Seg (model prog w) A (gR C I row N) (gY h L C I row N) (n + 1) s₀
      (.forLoop (.Name "interval" px) (.ref I) gBody [] (gEnv C a cd)) ((model prog w).den (.forLoop (.Name "interval" px) (.ref I) gBody [] (gEnv C a cd))) [.ret k none false lw c p kp] s := by
  have hNe : ∀ {m' : Nat}, m' = n → N + 1 - (m' + 1) = i := fun e => by lia
  have hh2 : (A.over (.forLoop (.Name "interval" px) (.ref I) gBody [] (gEnv C a cd)) [.ret k none false lw c p kp]).handled = none := hh
  have W := Walks.list (prog := prog) (w := w) hh2 I L gp.hL.2 vs.toArray
  have hvl : vs.toArray.size = row.length := by simp [rl.length, iL_len]
  obtain ⟨m, lv, hns, hlv, hlo⟩ := G.ns
  have hstl := stop_le row
  by_cases hlt : i < row.length
  · refine seg_forLoop (W.item i s _ _ (by lia) ⟨G.it, G.ls⟩ fun u h' tk hu st hkeep => ?_)
    refine wpAny_of_eq (a := ()) rfl (wpAny_assign_Name (wpAny_storeName_local (m := m) (by with_unfolding_all rfl) (hns.at' fun o e => hkeep C o (by simpa using gp.hCI) e) (fun h2 hn2 hs2 => ?_) (by with_unfolding_all rfl)))
    obtain ⟨r, hr⟩ : ∃ r, row[i]? = some r := ⟨row[i], by simp [hlt]⟩
    have hur : ∃ t, u = .int (r : Nat) t := by
      obtain ⟨v, e, rv⟩ := rl.get (i := i) (d := .int (r : Nat)) (by rw [iL_get, hr]; rfl)
      have : vs[i]? = some u := by simpa using hu
      rw [e] at this; cases this
      exact rd_int.mp rv
    obtain ⟨t, rfl⟩ := hur
    have kI : Kx (Own C I) s { s with heap := h', toks := tk } := by
      obtain ⟨⟨oI, hoI, _⟩, _⟩ := st
      refine ⟨fun b o n e => hkeep b o (by simpa using fun z => n (.inr z)) e, fun b e => ?_, rfl, fun _ _ e => e, fun e => e⟩
      by_cases q : b = I
      · subst q; rw [hoI] at e; cases e
      · cases z : s.heap.get? b with
        | none => rfl
        | some o => rw [hkeep b o (by simpa using q) z] at e; cases e
    obtain ⟨oC, hoC⟩ := Ns.some hn2
    have k2 : Kx (Own C I) s₀ { s with heap := h2, toks := tk + 1 } := (k0.trans kI).trans (Kx.same (s := { s with heap := h', toks := tk }) (tk := tk + 1) hs2 hoC (.inl rfl))
    have hit2 : h2.IsListIter I L (i + 1) := st.1.at fun o e => (hs2.2 I gp.hCI.symm).trans e
    have hls2 : h2.IsList L vs.toArray := st.2.at fun o e => (hs2.2 L gp.hL.1).trans e
    have sub2 : Sub h h2 := fun b o e => (hs2.2 b (fun q => by have q' : b = C := q; rw [q', gp.newC] at e; cases e)).trans (hkeep b o (by simpa using fun q => by rw [q, gp.newI] at e; cases e) (G.sub b o e))
    generalize hS2 : ({ s with heap := h2, toks := tk + 1 } : Shared) = s2 at k2
    have hS2h : h2 = s2.heap := by rw [← hS2]
    have T2 := T.sub sub2
    rw [hS2h] at hn2 hit2 hls2 sub2 T2
    have li : Looks (gEnv C a cd) s2.heap "interval" (.int (r : Nat) t) := looks_local (by with_unfolding_all rfl) (by with_unfolding_all rfl) (by decide) hn2 (by simp)
    have ll : Looks (gEnv C a cd) s2.heap "last_interval" lv := looks_local (by with_unfolding_all rfl) (by with_unfolding_all rfl) (by decide) hn2 (by
      show (if ("last_interval" : Str) = "interval" then _ else m "last_interval") = some lv
      rw [if_neg (by decide)]; exact hlv)
    obtain ⟨tc, hcm⟩ := T2.cmax
    have lc : Looks (gEnv C a cd) s2.heap "CHAR_MAX" (.int 127 tc) := (T2.glob hcm).lk
    refine seg_execs_cons (seg_If (tr_cast (b' := decide (r = 127)) (tr_cmp' (P := All) (ev_name li (rd_int.mpr ⟨t, rfl⟩)) (ev_name lc (rd_int.mpr ⟨tc, rfl⟩)) (op_eq _ _)) ?cm s2 (.refl _) _ _ fun s3 k3 => ?_))
    case cm => rw [Bool.eq_iff_iff]; simp only [beq_iff_eq, decide_eq_true_eq]; lia
    by_cases q127 : r = 127
    · rw [decide_eq_true q127, if_pos rfl]
      refine seg_execs_cons ?_
      rw [exec_Return_none]
      refine seg_bind_wrap (wpAny_standAt ?_)
      have hst := stop_end hi hr (by simp [isEnd, q127])
      refine seg_leaf (.ok (.ret .none)) (hk _ _ _ _ (.inr rfl) ⟨rfl, ?_, (k2.trans k3.kx).kw⟩)
      rw [hNe rfl, gout_ge (by lia), hst, hr]; simp [q127]
    · rw [decide_eq_false q127, if_neg Bool.false_ne_true]
      refine seg_execs_nil ?_
      have li3 := li.sub k3.keep
      have ll3 := ll.sub k3.keep
      refine seg_execs_cons (seg_If (tr_cast (b' := decide (r = 0)) (tr_cmp' (P := All) (ev_name li3 (rd_int.mpr ⟨t, rfl⟩)) (ev_int 0 _ _) (op_eq _ _)) ?cz s3 (.refl _) _ _ fun s4 k4 => ?_))
      case cz => rw [Bool.eq_iff_iff]; simp only [beq_iff_eq, decide_eq_true_eq]; lia
      have k24 := k3.trans k4
      have ll4 := ll3.sub k4.keep
      have li4 := li3.sub k4.keep
      by_cases q0 : r = 0
      · rw [decide_eq_true q0, if_pos rfl]
        have hst := stop_end hi hr (by simp [isEnd, q0])
        obtain ⟨hi0, j, t', hj, rfl⟩ : 0 < i ∧ ∃ j t, row[i - 1]? = some j ∧ lv = .int (j : Nat) t := by
          rcases hlo with ⟨z, _⟩ | z
          · subst z; exact absurd (by rw [hr, q0]) h1
          · exact z
        refine seg_execs_cons (seg_If (tr_cast (tr_cmp' (P := All) (ev_name ll4 (rd_int.mpr ⟨t', rfl⟩)) (ev_none _ _) (op_is_none_int _)) rfl s4 (.refl _) _ _ fun s5 k5 => ?_))
        rw [if_neg Bool.false_ne_true]
        refine seg_execs_nil ?_
        have k25 := k24.trans k5
        obtain ⟨oI, hoI, _⟩ := id hit2
        refine seg_execs_cons (seg_While fun p' => seg_forever (i := j) (x := "last_interval") rfl rfl (by with_unfolding_all rfl) (by with_unfolding_all rfl) (by decide) rfl (by with_unfolding_all rfl) (by with_unfolding_all rfl) i (fun j' hj' => ?_) n s₀ s5 _ t' (hn2.keeps k25.keep) (by show (if ("last_interval" : Str) = "interval" then _ else m "last_interval") = _; rw [if_neg (by decide)]; exact hlv) (k2.trans k25.kx) ⟨oI, k25.keep _ _ hoI⟩ (by lia) (by lia))
        rw [gout_ge (by lia), hst, hr, q0, if_pos rfl]; exact hj
      · rw [decide_eq_false q0, if_neg Bool.false_ne_true]
        refine seg_execs_nil ?_
        have hil : i < stopOf row := stop_not hi hr (by simp [isEnd, q0, q127])
        refine seg_execs_cons (seg_Expr_Yield rfl rfl rfl (looks_eval li4 (.refl _) fun kap hkap => ?_) (by with_unfolding_all rfl) (by with_unfolding_all rfl))
        obtain ⟨oI, hoI, _⟩ := id hit2
        obtain ⟨oC2, hoC2⟩ := Ns.some hn2
        refine ⟨⟨r, t, ?_, rfl⟩, k2.trans k24.kx, ⟨oC2, k24.keep _ _ hoC2⟩, ⟨oI, k24.keep _ _ hoI⟩, fun hpos s'' hs'' => ?_⟩
        · rw [show N - n = i by lia, gout_lt hil]; exact hr
        · obtain ⟨n', rfl⟩ : ∃ n', n = n' + 1 := ⟨n - 1, by lia⟩
          refine hkap _ _ ?_
          have sub'' : Sub h s''.heap := fun b o e => hs'' b o (.inl ⟨o, e⟩) (k24.keep b o (sub2 b o e))
          have hn'' := (hn2.keeps k24.keep).at' fun o e => hs'' C o (.inr (.inr (.inl rfl))) e
          have li'' : Looks (gEnv C a cd) s''.heap "interval" (.int (r : Nat) t) := looks_local (by with_unfolding_all rfl) (by with_unfolding_all rfl) (by decide) hn'' (by simp)
          refine seg_execs_cons (seg_wrap (wpAny_Assign_Name (looks_eval li'' (.refl _) (wpAny_storeName_local (by with_unfolding_all rfl) hn'' (fun h3 hn3 hs3 => ?_) (by with_unfolding_all rfl))) (by with_unfolding_all rfl)))
          obtain ⟨oC3, hoC3⟩ := Ns.some hn3
          refine seg_again rfl (cont n' rfl _ (by lia) ⟨⟨_, .int (r : Nat) t, hn3, by simp, .inr ⟨by lia, r, t, hr, rfl⟩⟩, ?_, ?_, ?_⟩ _ (Kx.same (tk := _) hs3 hoC3 (.inl rfl)))
          · exact (hit2.at fun o e => hs'' I o (.inr (.inr (.inr rfl))) (k24.keep _ _ e)).at fun o e => (hs3.2 I gp.hCI.symm).trans e
          · exact (hls2.at fun o e => hs'' L o (.inr (.inl rfl)) (k24.keep _ _ e)).at fun o e => (hs3.2 L gp.hL.1).trans e
          · exact fun b o e => (hs3.2 b (fun q => by have q' : b = C := q; rw [q', gp.newC] at e; cases e)).trans (sub'' b o e)
  · refine seg_forLoop (W.done s _ _ ?_ fun h' tk hkeep => ?_)
    · have : i = vs.toArray.size := by lia
      rw [← this]; exact ⟨G.it, G.ls⟩
    · have hst : stopOf row = row.length := by lia
      refine seg_again rfl (seg_block (seg_execs_nil (seg_leaf (.ok .next) (hk _ _ _ _ (.inl rfl) ⟨rfl, ?_, k0.kw.trans ⟨fun b o n e => hkeep b o (by simpa using fun z => n (.inr z)) e, rfl, fun _ _ e => e, fun e => e⟩⟩))))
      rw [hNe rfl, gout_ge (by lia), hst]; simp
end
end Mine
end
noncomputable section
open PySem PySem.W PyProof.Rows
open PySem.Sem (wp)
set_option Elab.async false
set_option autoImplicit false
set_option linter.unusedVariables false
set_option linter.unusedSimpArgs false
set_option maxRecDepth 4000
namespace Mine
section
variable {prog : Program} {w : World} {A : Around} {h : Heap} {mg mb : Str → Option Value} {row : List Nat} {N : Nat} {L C I : Addr} {vs : List Value}
theorem seg_gloop {a : Addr} {cd : Value} {k : Result → Sem PySem.Fin} {lw : List Value} {c : Code} {p px : Pos} {kp : List Value} (hh : A.handled = none) (T : Gd mg mb h) (rl : RdL All h (iL row) vs) (gp : GP h L vs C I) (hrow : row.length ≤ 1000) (h1 : row[0]? ≠ some 0)
    (hk : ∀ n s₀ s r, (r = .ok .next ∨ r = .ok (.ret .none)) → gR C I row N n s₀ (.ok (.ret .none)) s → Seg (model prog w) A (gR C I row N) (gY h L C I row N) n s₀ c (k r) [] s) :
    ∀ (n i : Nat) (s₀ s : Shared) (hi : i ≤ stopOf row) (hni : n + i = N) (G : GAt h row vs L C I i s.heap) (k0 : Kx (Own C I) s₀ s),
    Seg (model prog w) A (gR C I row N) (gY h L C I row N) (n + 1) s₀
      (.forLoop (.Name "interval" px) (.ref I) gBody [] (gEnv C a cd)) ((model prog w).den (.forLoop (.Name "interval" px) (.ref I) gBody [] (gEnv C a cd))) [.ret k none false lw c p kp] s := by
  intro n
  induction n with
  | zero => exact fun i s₀ s hi hni G k0 => seg_step hh T rl gp hrow h1 hk 0 i s₀ s hi hni G k0 fun n' e => by lia
  | succ n ih => exact fun i s₀ s hi hni G k0 => seg_step hh T rl gp hrow h1 hk (n + 1) i s₀ s hi hni G k0 fun n' e s'' hi' G' s₀' k' => ih (i + 1) s₀' s'' hi' (by lia) G' k'
theorem const_none {M : Model} {A : Around} {E : Value → Shared → Prop} {s : Shared} {env : Env} {k : Nat} {pos : Pos} {Q : Value → Shared → Prop} (h : Q .none s) : wpAny M A (eval (.Constant .none k pos) env) Q E s := by
  rw [eval_Constant]; exact wpAny_pure h
theorem seg_gfresh {a : Addr} {cd : Value} (hh : A.handled = none) (T : Gd mg mb h) (rl : RdL All h (iL row) vs) (gp : GP h L vs C I) (hrow : row.length ≤ 1000) (h1 : row[0]? ≠ some 0)
    {s : Shared} {m : Str → Option Value} (hns : s.heap.Ns C m) (hm : m "grouping" = some (.ref L)) (hls : s.heap.IsList L vs.toArray) (hsub : Sub h s.heap) (hI : s.heap.objs.size = I) :
    Seg (model prog w) A (gR C I row N) (gY h L C I row N) (N + 1) s (.func (theDef 1).body (gEnv C a cd)) ((model prog w).den (.func (theDef 1).body (gEnv C a cd))) [] s := by
  refine seg_func ?_
  refine seg_execs_cons (seg_wrap (wpAny_Assign_Name (const_none (wpAny_storeName_local (m := m) (by with_unfolding_all rfl) hns (fun h1' hn1 hs1 => ?_) (by with_unfolding_all rfl))) (by with_unfolding_all rfl)))
  have hs1C : ∀ b, b ≠ C → h1'.get? b = s.heap.get? b := fun b q => hs1.2 b q
  have hls1 : h1'.IsList L vs.toArray := hls.at fun o e => (hs1C L gp.hL.1).trans e
  have sub1 : Sub h h1' := fun b o e => (hs1C b (fun q => by rw [q, gp.newC] at e; cases e)).trans (hsub b o e)
  obtain ⟨oC, hoC⟩ := Ns.some hn1
  have lg : Looks (gEnv C a cd) h1' "grouping" (.ref L) := looks_local (by with_unfolding_all rfl) (by with_unfolding_all rfl) (by decide) hn1 (by
    show (if ("grouping" : Str) = "last_interval" then _ else m "grouping") = _
    rw [if_neg (by decide)]; exact hm)
  have hI1 : h1'.objs.size = I := hs1.1.trans hI
  refine seg_execs_cons (seg_For (looks_eval lg (.refl _) (wpAny_pyIter_list hls1 fun p lw => ?_)))
  have hIq : ({ s with heap := h1', toks := s.toks + 1 } : Shared).heap.objs.size = I := hI1
  rw [hIq]
  refine seg_gloop hh T rl gp hrow h1 (fun n s₀ s' r hr hg => ?_) N 0 _ _ (Nat.zero_le _) (by lia) ⟨⟨_, .none, hn1.push _, by simp, .inl ⟨rfl, rfl⟩⟩, ?_, hls1.push _, sub1.trans (sub_push _ _)⟩ ?_
  · rcases hr with rfl | rfl
    · exact seg_end (.ok (.ret .none)) hg
    · exact seg_end (.ok (.ret .none)) hg
  · refine ⟨{ cls := .type "list_iterator", data := .fields #[.ref L, .int 0 0] }, ?_, rfl, rfl⟩
    rw [← hI1]; exact Heap.get?_push_size _ rfl
  · exact (Kx.same (tk := s.toks + 1) hs1 hoC (.inl rfl)).trans (Kp.kx (Kp.heap (s := { s with heap := h1', toks := s.toks + 1 }) (t := s.toks + 1) (sub_push _ _)))
end
end Mine
end
noncomputable section
open PySem PySem.W PyProof.Rows
open PySem.Sem (wp)
set_option Elab.async false
set_option autoImplicit false
set_option linter.unusedVariables false
set_option linter.unusedSimpArgs false
set_option maxRecDepth 4000
namespace Mine
theorem bare_setGen {s : Shared} {g : Nat} {x : GenState} (h : AllBare s.gens) (hx : x.bare = true) : AllBare (s.setGen g x).gens := by
  intro y hy
  obtain ⟨i, hi, rfl⟩ := Array.mem_iff_getElem.mp hy
  have h1 : (s.setGen g x).gens[i]? = some ((s.setGen g x).gens[i]) := Array.getElem?_eq_getElem hi
  by_cases e : i = g
  · subst e
    have hlt : i < s.gens.size := by simpa [Shared.setGen] using hi
    have : (s.setGen i x).gens[i]? = some x := by simp [Shared.setGen, hlt]
    rw [this] at h1
    rw [← Option.some.inj h1]; exact hx
  · have : (s.setGen g x).gens[i]? = s.gens[i]? := by simp [Shared.setGen, Ne.symm e]
    rw [this] at h1
    obtain ⟨hi', e'⟩ := Array.getElem?_eq_some_iff.mp h1
    rw [← e']; exact h _ (Array.getElem_mem hi')
theorem gens_setGen {s : Shared} {g j : Nat} {x : GenState} (hj : j ≠ g) : (s.setGen g x).gens[j]? = s.gens[j]? := by simp [Shared.setGen, Ne.symm hj]
/-- All but the objects at X and the generator g's state is kept. -/
structure Kg (g : Nat) (X : Addr → Prop) (s s' : Shared) : Prop where
  keep : ∀ b o, ¬ X b → s.heap.get? b = some o → s'.heap.get? b = some o
  live : ∀ b, s'.heap.get? b = none → s.heap.get? b = none ∨ X b
  os : s'.os = s.os
  gens : ∀ (j : Nat) (x : GenState), j ≠ g → s.gens[j]? = some x → s'.gens[j]? = some x
  bare : AllBare s.gens → AllBare s'.gens
section
variable {prog : Program} {w : World} {A : Around} {E : Value → Shared → Prop} {s : Shared}
theorem pyNext_genQ {a : Addr} {g n : Nat} {gs : GenState} {P : Nat → Shared → Shared → Prop} {Y : Protocol} {Q : Option Value → Shared → Prop} (hh : A.handled = none)
    (hl : s.heap.NoLimit) (hroom : A.depth < recursionLimit)
    (hg : s.heap.IsGen a g) (hgs : s.gens[g]? = some gs)
    (hgo : gs.Goes (model prog w) A.in1 (fun n s₀ r s₁ => r = .ok (.ret .none) ∧ P n s₀ s₁) Y n (.send .none) (s.setGen g .running))
    (hY : ∀ v s₁ gs', gs'.bare = true → Y (n - 1) (s.setGen g .running) v s₁ (fun r' s'' => match n with
        | 0 => False
        | m + 1 => gs'.Goes (model prog w) A.in1 (fun n s₀ r s₁ => r = .ok (.ret .none) ∧ P n s₀ s₁) Y m r' s'') → Q (some v) (s₁.setGen g gs'))
    (hP : ∀ s₁, P n (s.setGen g .running) s₁ → ∀ h', (∀ b o, s₁.heap.get? b = some o → h'.get? b = some o) → Q none { s₁.setGen g .finished with heap := h' }) :
    wpAny (model prog w) A (pyNext (.ref a)) Q E s := by
  unfold pyNext
  refine wpAny_bind (wpAny_attempt (wpAny_callSpecial?_slot (name := Str.ofString "__next__") hg.typeIs slot_gen_next
    (wpAny_call_entry slot_gen_next hg.typeIs entry_gen_next ?_ (args_gen_next _))))
  show wpAny _ A.in1 (Builtin.Generator.genWake (.ref a) (.send .none)) _ _ s
  unfold Builtin.Generator.genWake
  refine wpAny_bind (wpAny_holding (wpAny_genNumber hg (wpAny_bind (wpAny_genState hgs ?_))))
  cases gs with
  | running => exact hgo.elim
  | finished => exact hgo.elim
  | _ =>
    refine wpAny_bind (wpAny_roomToWake hl hroom ?_)
    show wpAny _ A.in1 (.resume g (.send .none) [] _) _ _ s
    refine wpAny_resumeQ hgs hgo (fun x s₁ hx => ?_) (fun v s₁ gs' hb hv => ?_)
    · obtain ⟨rfl, hp⟩ := hx
      show wpAny _ A.in1 (newExc (.type "StopIteration") [] >>= _) _ _ _
      refine wpAny_bind ?_
      simp only [newExc, newTuple]
      refine wpAny_bind (wpAny_newObj_type ?_ (by size_fits))
      refine wpAny_bind (m := firstArgMember _ _) (wpAny_of_eq (a := Value.none) (by first | rfl | (simp only [firstArgMember]; rfl)) ?_)
      refine wpAny_newObj_type ?_ (by size_fits)
      simp only [raiseNew]
      refine wpAny_bind (wpAny_bind (wpAny_handled ?_))
      first | rw [show A.in1.handled = none from hh] | rw [hh]
      refine wpAny_throw ?_
      refine wpAny_bind (wpAny_isInstance (T := "StopIteration") (b := true) ⟨_, Heap.get?_push_size _ rfl, rfl⟩ isSubtype_stop ?_)
      exact wpAny_pure (hP s₁ hp _ fun b o hb => Heap.get?_push_of_some _ (Heap.get?_push_of_some _ hb))
    · exact wpAny_pure ⟨v, rfl, wpAny_pure (hY v s₁ gs' hb hv)⟩
variable {h : Heap} {row : List Nat} {N : Nat} {L C I : Addr} {a : Addr} {g : Nat}
/-- The generator stands so that it can be woken now. -/
def GGo (prog : Program) (w : World) (A : Around) (h : Heap) (L C I : Addr) (row : List Nat) (N g i : Nat) (s : Shared) : Prop :=
  ∃ gs, s.gens[g]? = some gs ∧ gs.Goes (model prog w) A.in1 (gR C I row N) (gY h L C I row N) (N + 1 - i) (.send .none) (s.setGen g .running)
/-- .. and in any state that keeps what it needs. -/
def GSt (prog : Program) (w : World) (A : Around) (h : Heap) (L C I : Addr) (row : List Nat) (N g i : Nat) (s : Shared) : Prop :=
  ∃ gs, s.gens[g]? = some gs ∧ ∀ s'' : Shared, (∀ b o, FPs h L C I b → s.heap.get? b = some o → s''.heap.get? b = some o) →
    gs.Goes (model prog w) A.in1 (gR C I row N) (gY h L C I row N) (N + 1 - i) (.send .none) s''
theorem GSt.go {i : Nat} (x : GSt prog w A h L C I row N g i s) : GGo prog w A h L C I row N g i s :=
  let ⟨gs, h1, h2⟩ := x; ⟨gs, h1, h2 _ fun _ _ _ e => e⟩
theorem GSt.on {i : Nat} {s' : Shared} (x : GSt prog w A h L C I row N g i s) (k : ∀ b o, FPs h L C I b → s.heap.get? b = some o → s'.heap.get? b = some o) (kg : ∀ x, s.gens[g]? = some x → s'.gens[g]? = some x) : GSt prog w A h L C I row N g i s' :=
  let ⟨gs, h1, h2⟩ := x; ⟨gs, kg _ h1, fun s'' hs'' => h2 s'' fun b o hb e => hs'' b o hb (k b o hb e)⟩
theorem next_row {i : Nat} {Q : Option Value → Shared → Prop} (hh : A.handled = none) (hl : s.heap.NoLimit) (hroom : A.depth < recursionLimit) (hg : s.heap.IsGen a g) (hi : i < N)
    (G : GGo prog w A h L C I row N g i s)
    (hQ : ∀ r t s', gout row i = some r → Kg g (Own C I) s s' → Dom s'.heap C → Dom s'.heap I → GSt prog w A h L C I row N g (i + 1) s' → Q (some (.int (r : Nat) t)) s')
    (hN : gout row i = none → ∀ s', Kg g (Own C I) s s' → Q none s') : wpAny (model prog w) A (pyNext (.ref a)) Q E s := by
  obtain ⟨gs, hgs, hgo⟩ := G
  obtain ⟨m, hm⟩ : ∃ m, N + 1 - i = m + 1 := ⟨N - i, by lia⟩
  rw [hm] at hgo
  have gk : ∀ (s₁ : Shared) (gs' : GenState), (∀ (j : Nat) (x : GenState), (s.setGen g .running).gens[j]? = some x → s₁.gens[j]? = some x) → ∀ (j : Nat) (x : GenState), j ≠ g → s.gens[j]? = some x → (s₁.setGen g gs').gens[j]? = some x := fun s₁ gs' k j x hj e => by
    rw [gens_setGen hj]
    exact k j x (by rw [gens_setGen hj]; exact e)
  have gself : ∀ (s₁ : Shared) (gs' : GenState), (∀ (j : Nat) (x : GenState), (s.setGen g .running).gens[j]? = some x → s₁.gens[j]? = some x) → (s₁.setGen g gs').gens[g]? = some gs' := fun s₁ gs' k =>
    setGen_self (gs := .running) (k g _ (setGen_self hgs))
  refine pyNext_genQ (P := fun n s₀ s => gout row (N + 1 - n) = none ∧ Kw (Own C I) s₀ s) hh hl hroom hg hgs hgo (fun v s₁ gs' hb hv => ?_) (fun s₁ hp h' hk => ?_)
  · obtain ⟨⟨r, t, hr, rfl⟩, kx, dC, dI, hkap⟩ := hv
    rw [show N - (m + 1 - 1) = i by lia] at hr
    refine hQ r t _ hr ⟨fun b o n e => kx.keep b o n e, fun b e => .inl (kx.live b e), kx.os, gk s₁ gs' kx.gens, fun e => bare_setGen (kx.bare (bare_setGen e rfl)) hb⟩ dC dI ⟨gs', gself s₁ gs' kx.gens, fun s'' hs'' => ?_⟩
    have : N + 1 - (i + 1) = m := by lia
    rw [this]
    exact hkap (by lia) s'' hs''
  · obtain ⟨hout, kw⟩ := hp
    rw [show N + 1 - (m + 1) = i by lia] at hout
    refine hN hout _ ⟨fun b o n e => hk b o (kw.keep b o n e), fun b e => ?_, kw.os, gk s₁ .finished kw.gens, fun e => bare_setGen (kw.bare (bare_setGen e rfl)) rfl⟩
    by_cases q : Own C I b
    · exact .inr q
    · refine .inl ?_
      cases z : s.heap.get? b with
      | none => rfl
      | some o => have z2 : h'.get? b = some o := hk b o (kw.keep b o q z); rw [show h'.get? b = none from e] at z2; cases z2
end
end Mine
end
noncomputable section
open PySem PySem.W PyProof.Rows
open PySem.Sem (wp)
set_option Elab.async false
set_option autoImplicit false
set_option linter.unusedVariables false
set_option linter.unusedSimpArgs false
set_option maxRecDepth 4000
namespace Mine
theorem ok1 : FnOk (theDef 1) ["grouping"] :=
  ⟨fun pm cd doc vs hl => by
    obtain ⟨a, rfl⟩ := one_of hl
    with_unfolding_all rfl, by decide, by with_unfolding_all decide, by with_unfolding_all rfl, by with_unfolding_all rfl, by with_unfolding_all decide⟩
/-- A generator made anew. -/
structure GNew (h : Heap) (row : List Nat) (L C a : Addr) (g : Nat) (s s' : Shared) : Prop where
  kp : Kp s s'
  a_new : s.heap.get? a = none
  c_new : s.heap.get? C = none
  g_new : s.gens[g]? = none
  ac : a ≠ C
  isg : s'.heap.IsGen a g
  ns : ∃ m a1 cd, s'.heap.Ns C m ∧ m "grouping" = some (.ref L) ∧ s'.gens[g]? = some (.fresh (.func (theDef 1).body (gEnv C a1 cd)))
  ls : ∃ vs, s'.heap.IsList L vs.toArray ∧ RdL All h (iL row) vs
section
variable {prog : Program} {w : World} {A : Around} {E : Value → Shared → Prop} {s : Shared} {h : Heap} {env : Env} {P : Addr → Prop} {mg mb : Str → Option Value} {row : List Nat}
theorem RdL.nats {P P' : Addr → Prop} {h h' : Heap} : ∀ {ns : List Nat} {vs : List Value}, RdL P h (iL ns) vs → RdL P' h' (iL ns) vs
  | [], vs, r => by
    have : vs = [] := rdL_nil.mp r
    subst this; exact rdL_nil.mpr rfl
  | n :: ns, vs, r => by
    obtain ⟨v, q, rfl, h1, h2⟩ := rdL_cons.mp r
    exact rdL_cons.mpr ⟨v, q, rfl, h1.flat rfl, RdL.nats h2⟩
theorem ev_gen {f : Str} {p pos : Pos} {a1 : Addr} {cd : Value} {e : Expr} {n : Nat} {Q : Value → Shared → Prop} (oA : OkA (n + 1) A) (l : Looks env s.heap f (.ref a1)) (F : FnAt s.heap a1 (theDef 1) cd)
    (x : EvL prog w A env P s.heap [e] [.list (iL row)])
    (hQ : ∀ L C a g s', Nw P s L → Dom s'.heap L → GNew h row L C a g s s' → Q (.ref a) s') : wpAny (model prog w) A (eval (.Call (.Name f p) [e] [] pos) env) Q E s := by
  obtain ⟨o, pm, doc, ho, hd⟩ := F.obj
  refine wpAny_Call_NameR (looks_eval l (.refl _) ?_)
  refine Calls.callWith_function (o := o) (fd := _) (x.args s (.refl _) _ _ fun vs s1 k r => ⟨⟨k.keep _ _ ho, hd⟩, ?_⟩)
  obtain ⟨v, q, rfl, r1, r2⟩ := rdL_cons.mp r
  rw [rdL_nil.mp r2]
  obtain ⟨L, us, rfl, hp, hls, ru⟩ := rd_list.mp r1
  have F1 := F.sub k.keep
  refine wpAny_call (codeAny_call_generator oA.room (k.keep _ _ ho) hd (by with_unfolding_all rfl) (by with_unfolding_all rfl) rfl F1.code ?_)
  show wpAny _ A.in1 (bindArgs _ ⟨[.ref L], []⟩) _ _ s1
  rw [ok1.bind pm cd doc [.ref L] rfl]
  refine wpAny_pure (wpAny_newFunctionEnv_cells (by with_unfolding_all rfl) ?_ fun env' he s' X => ?_)
  · intro x hx
    have : x = ((Str.ofString "grouping"), Value.ref L) := by simpa using hx
    subst this
    exact .inl (by with_unfolding_all rfl)
  · subst he
    refine ⟨F1.lim.keeps X.toInCall.keep, ?_⟩
    obtain ⟨h₁, tk, rfl, hk⟩ := X.done
    have kk : Kp s1 { s1 with heap := h₁, toks := tk } := Kp.heap hk
    refine hQ L s1.heap.objs.size h₁.objs.size s1.gens.size _ hp ?_ ⟨?_, ?_, ?_, ?_, ?_, ?_, ?_, ?_⟩
    · obtain ⟨o, ho, _⟩ := hls; exact ⟨o, Heap.get?_push_of_some _ (hk _ _ ho)⟩
    · refine k.trans (kk.trans ⟨sub_push _ _, rfl, fun g x e => ?_, fun e => e.push rfl⟩)
      show (s1.gens.push _)[g]? = some x
      rw [Array.getElem?_push]
      have hlt : g < s1.gens.size := (Array.getElem?_eq_some_iff.mp e).1
      rw [if_neg (by lia)]; exact e
    · exact none_of_kp (k.trans kk) (get_size _)
    · exact none_of_kp k (get_size _)
    · cases q : s.gens[s1.gens.size]? with
      | none => rfl
      | some x => have := k.gens _ _ q; simp at this
    · intro q
      have := X.toInCall.ns.lt
      exact absurd this (by
        have q' : h₁.objs.size = s1.heap.objs.size := q
        show ¬ s1.heap.objs.size < h₁.objs.size
        lia)
    · exact ⟨_, _, _, Heap.get?_push_size _ rfl, rfl, rfl, rfl⟩
    · exact ⟨_, a1, cd, X.toInCall.ns.push _, by with_unfolding_all rfl, by simp; with_unfolding_all rfl⟩
    · exact ⟨us, (isList_sub hk hls).push _, ru.nats⟩
end
end Mine
end
noncomputable section
open PySem PySem.W PyProof.Rows
open PySem.Sem (wp)
set_option Elab.async false
set_option autoImplicit false
set_option linter.unusedVariables false
set_option linter.unusedSimpArgs false
set_option maxRecDepth 4000
namespace Mine
section
variable {sb : Shared} {G : Addr → Prop} {env : Env} {X : Addr → Prop} {sa s : Shared} {vars : List (Str × D)} {O : Addr → Prop} {g : Nat}
theorem Sta.avoidS {s' : Shared} (S : Sta sb G env X sa vars s) (k : Kp s s') (hC : ∀ b, O b → s.heap.get? b = none) (hD : ∀ b, O b → Dom s'.heap b) : Sta sb (fun b => G b ∧ ¬ O b) env X sa vars s' := by
  have S' := S.kp k
  obtain ⟨ρ, F, hv⟩ := S.fs
  refine ⟨S'.kx, ⟨ρ, F.sub k.keep, fun x d e => ?_⟩, S'.live, S'.new, fun b e => ⟨S'.fresh b e, fun q => ?_⟩⟩
  · obtain ⟨h1, h2, v, h3, h4⟩ := hv x d e
    refine ⟨h1, h2, v, h3, (h4.there.sub k.keep).mono fun b e => ⟨e.1.1, e.1.2, fun q => ?_⟩⟩
    obtain ⟨o, ho⟩ := e.2; rw [hC b q] at ho; cases ho
  · obtain ⟨o, ho⟩ := hD b q; rw [ho] at e; cases e
theorem Sta.turnS {s' : Shared} (S : Sta sb (fun b => G b ∧ ¬ O b) env X sa vars s) (k : Kg g O s s') (hD : ∀ b, O b → Dom s'.heap b) (hx : ∀ b, O b → ¬ XX env X b) (hsa : ∀ b, O b → sa.heap.get? b = none) (hsb : ∀ b, O b → sb.heap.get? b = none) (hg : sa.gens[g]? = none) : Sta sb (fun b => G b ∧ ¬ O b) env X sa vars s' := by
  obtain ⟨ρ, F, hv⟩ := S.fs
  have lv : ∀ b, s'.heap.get? b = none → ¬ O b ∧ s.heap.get? b = none := fun b e => by
    have nO : ¬ O b := fun q => by obtain ⟨o, ho⟩ := hD b q; rw [ho] at e; cases e
    exact ⟨nO, (k.live b e).resolve_right nO⟩
  refine ⟨⟨fun b o n e => k.keep b o (fun z => by rw [hsa b z] at e; cases e) (S.kx.keep b o n e), fun b e => S.kx.live b (lv b e).2, k.os.trans S.kx.os, fun j z e => k.gens j z (fun q => by rw [q, hg] at e; cases e) (S.kx.gens j z e), fun e => k.bare (S.kx.bare e)⟩,
    ⟨ρ, F.on fun b o e q => k.keep b o (fun z => ?_) q, fun x d e => ?_⟩, fun b e => ?_, S.new, fun b e => S.fresh b (lv b e).2⟩
  · rcases e with e | e
    · exact hx b z (.inl e)
    · rw [hsb b z] at e; cases e
  · obtain ⟨h1, h2, v, h3, h4⟩ := hv x d e
    exact ⟨h1, h2, v, h3, h4.on (fun _ e => e) fun a o e q => k.keep a o e.2.2 q⟩
  · obtain ⟨o, ho⟩ := S.live b e
    exact ⟨o, k.keep b o (fun q => hx b q e) ho⟩
theorem Sta.dropS {s' : Shared} (S : Sta sb (fun b => G b ∧ ¬ O b) env X sa vars s) (k : Kg g O s s') (hx : ∀ b, O b → ¬ XX env X b) (hsa : ∀ b, O b → sa.heap.get? b = none) (hsb : ∀ b, O b → sb.heap.get? b = none) (hg : sa.gens[g]? = none) (hG : ∀ b, O b → G b) : Sta sb G env X sa vars s' := by
  obtain ⟨ρ, F, hv⟩ := S.fs
  refine ⟨⟨fun b o n e => k.keep b o (fun z => by rw [hsa b z] at e; cases e) (S.kx.keep b o n e), fun b e => (k.live b e).elim (S.kx.live b) (hsa b), k.os.trans S.kx.os, fun j z e => k.gens j z (fun q => by rw [q, hg] at e; cases e) (S.kx.gens j z e), fun e => k.bare (S.kx.bare e)⟩,
    ⟨ρ, F.on fun b o e q => k.keep b o (fun z => ?_) q, fun x d e => ?_⟩, fun b e => ?_, S.new, fun b e => (k.live b e).elim (fun e => (S.fresh b e).1) (hG b)⟩
  · rcases e with e | e
    · exact hx b z (.inl e)
    · rw [hsb b z] at e; cases e
  · obtain ⟨h1, h2, v, h3, h4⟩ := hv x d e
    exact ⟨h1, h2, v, h3, h4.on (fun _ e => ⟨e.1, e.2.1⟩) fun a o e q => k.keep a o e.2.2 q⟩
  · obtain ⟨o, ho⟩ := S.live b e
    exact ⟨o, k.keep b o (fun q => hx b q e) ho⟩
theorem Kg.kp_new {s2 s' : Shared} (k : Kg g O s2 s') (k0 : Kp s s2) (hC : ∀ b, O b → s.heap.get? b = none) (hg : s.gens[g]? = none) : Kp s s' :=
  ⟨fun b o e => k.keep b o (fun z => by rw [hC b z] at e; cases e) (k0.keep b o e), k.os.trans k0.os, fun j x e => k.gens j x (fun q => by rw [q, hg] at e; cases e) (k0.gens j x e), fun e => k.bare (k0.bare e)⟩
variable {prog : Program} {w : World} {A : Around} {h : Heap} {mg mb : Str → Option Value} {row : List Nat}
/-- A for over what the generator hands out. -/
theorem staG_for {x f : Str} {px pos p ppos : Pos} {e : Expr} {body : List Stmt} {a1 : Addr} {cd : Value} {n N : Nat} {Q : Flow → Shared → Prop} {E : Value → Shared → Prop} (V : Nat → List (Str × D)) (Jx : Nat → Shared → Prop)
    (oA : OkA (n + 1) A) (T : Gd mg mb h) (hsb : Sub h sb.heap) (l : Looks env s.heap f (.ref a1)) (F : FnAt s.heap a1 (theDef 1) cd) (xl : EvL prog w A env (PP G env X s.heap) s.heap [e] [.list (iL row)])
    (S : Sta sb G env X sa vars s) (h1 : row[0]? ≠ some 0) (hrow : row.length ≤ 1000)
    (V0 : ∀ p ∈ V 0, vars.lookup p.1 = some p.2) (J0 : ∀ s', Kp s s' → Jx 0 s')
    (hJ : ∀ (Y : Addr → Prop) i s1 s2, (∀ b, XX env X b → ¬ Y b) → Jx i s1 → (∀ b o, ¬ Y b → s1.heap.get? b = some o → s2.heap.get? b = some o) → Jx i s2) (hJf : ∀ i s1 s2, Jx i s1 → Kx (FrA env) s1 s2 → Jx i s2)
    (hN : ∀ i s1, Jx i s1 → i < N)
    (turn : ∀ G' i r s1, gout row i = some r → (∀ b, G' b → G b) → (∀ b, Dom s.heap b → G b → G' b) → Kx (XX env X) sa s1 → Sta sb G' env X s1 ((x, .int (r : Nat)) :: V i) s1 → Jx i s1 →
      wpAny (model prog w) A (execs body env) (LoopPost sb G' env X s1 (V (i + 1)) (Jx (i + 1)) Q) (loopE prog w A env E) s1)
    (done : ∀ i s', gout row i = none → Sta sb G env X sa (V i) s' → Jx i s' → Q .next s')
    (hk : env.kindOf x = some .local ∨ env.kindOf x = some .cell := by first | exact Or.inl (by with_unfolding_all rfl) | exact Or.inr (by with_unfolding_all rfl)) (hd : (x == ("__debug__" : Str)) = false := by decide)
    (hs : ∀ y, foldedSetIterable (.Call (.Name f p) [e] [] ppos) env y = pure y := by intro _; rfl) (ht : ∀ it v, letOwnedTupleGo (.Name x px) it v = pure () := by intro _ _; rfl) :
    wpAny (model prog w) A (exec (.For (.Name x px) (.Call (.Name f p) [e] [] ppos) body [] pos) env) Q E s := by
  refine wpAny_For (ev_gen (h := h) oA l F xl fun L C a g s2 hLP hLD gn => ?_) hs
  refine wpAny_pyIter_gen gn.isg ?_
  obtain ⟨m, a1', cd', hns, hm, hgs⟩ := gn.ns
  obtain ⟨vs, hls, rl⟩ := gn.ls
  have hI : s.heap.get? s2.heap.objs.size = none := none_of_kp gn.kp (get_size _)
  generalize hIe : s2.heap.objs.size = I at hI
  have T2 := T.sub ((hsb.trans S.keep).trans gn.kp.keep)
  have lim2 := T2.lim
  have subh : Sub h s.heap := hsb.trans S.keep
  have nX : ∀ b, s.heap.get? b = none → ¬ XX env X b := fun b e => S.notX e
  have ox : ∀ b, Own C I b → s.heap.get? b = none := fun b e => by rcases e with rfl | rfl; exact gn.c_new; exact hI
  have hCI : C ≠ I := fun q => by
    obtain ⟨o, ho⟩ := Ns.some hns
    rw [q, ← hIe, get_size] at ho; cases ho
  have haI : a ≠ I := fun q => by
    obtain ⟨o, _, _, ho, _⟩ := gn.isg
    rw [q, ← hIe, get_size] at ho; cases ho
  have hnone : ∀ b, s.heap.get? b = none → h.get? b = none := fun b e => by
    cases q : h.get? b with
    | none => rfl
    | some o => rw [subh b o q] at e; cases e
  have LX : ¬ XX env X L := (S.good hLP).1
  have hLI : L ≠ I := fun q => by obtain ⟨o, ho⟩ := hLD; rw [q, ← hIe, get_size] at ho; cases ho
  have hLC : L ≠ C := fun q => by
    obtain ⟨o, ho, _, _, hd⟩ := hls
    obtain ⟨o2, es, _, ho2, hd2, _⟩ := hns
    rw [q, ho2] at ho; cases ho
    rw [hd2] at hd; cases hd
  have gp : GP h L vs C I := ⟨hnone _ gn.c_new, hnone _ hI, ⟨hLC, hLI⟩, hCI⟩
  have fpX : ∀ b, FPs h L C I b → ¬ XX env X b := fun b e q => by
    rcases e with ⟨o, ho⟩ | rfl | rfl | rfl
    · have := S.new b q; rw [hsb b o ho] at this; cases this
    · exact LX q
    · exact nX _ gn.c_new q
    · exact nX _ hI q
  have hga : sa.gens[g]? = none := by
    cases q : sa.gens[g]? with
    | none => rfl
    | some y => have := S.kx.gens g y q; rw [gn.g_new] at this; cases this
  have go0 : GGo prog w A h L C I row N g 0 s2 := by
    refine ⟨_, hgs, rfl, ?_⟩
    exact seg_gfresh (A := A.in1) oA.handled T rl gp hrow h1 (s := s2.setGen g .running) hns hm hls (subh.trans gn.kp.keep) hIe
  have aO : ¬ Own C I a := fun q => q.elim gn.ac haI
  have aX : ¬ XX env X a := nX _ gn.a_new
  have hlimk : ∀ s' : Shared, Sub h s'.heap → s'.heap.NoLimit := fun s' k => (T.sub k).lim
  refine codeAny_forLoop_any (I := fun k s' => ∃ i, k = N + 1 - i ∧ i ≤ N ∧ Jx i s' ∧ ((i = 0 ∧ s' = s2) ∨ (0 < i ∧ s'.heap.IsGen a g ∧ GSt prog w A h L C I row N g i s' ∧ Sta sb (fun b => G b ∧ ¬ Own C I b) env X sa (V i) s'))) (fun k s1 hk1 => ?_) (N + 1)
    ⟨0, rfl, Nat.zero_le _, J0 _ gn.kp, .inl ⟨rfl, rfl⟩⟩
  obtain ⟨i, rfl, hiN, j1, inv⟩ := hk1
  have hiN' : i < N := hN i s1 j1
  have jOwn : ∀ s', Kg g (Own C I) s1 s' → Jx i s' := fun s' k => hJ (Own C I) i s1 s' (fun b q z => nX b (ox b z) q) j1 k.keep
  have isg1 : s1.heap.IsGen a g := by
    rcases inv with ⟨_, rfl⟩ | ⟨_, z, _⟩
    · exact gn.isg
    · exact z
  have sub1 : Sub h s1.heap := by
    rcases inv with ⟨_, rfl⟩ | ⟨_, _, _, S1⟩
    · exact subh.trans gn.kp.keep
    · exact hsb.trans S1.keep
  have go1 : GGo prog w A h L C I row N g i s1 := by
    rcases inv with ⟨rfl, rfl⟩ | ⟨_, _, z, _⟩
    · exact go0
    · exact z.go
  refine next_row oA.handled (hlimk _ sub1) oA.room isg1 hiN' go1 (fun r t s' hr kg dC dI gst => ?_) fun hr s' kg => ?_
  · have dO : ∀ b, Own C I b → Dom s'.heap b := fun b e => by rcases e with rfl | rfl; exact dC; exact dI
    have S' : Sta sb (fun b => G b ∧ ¬ Own C I b) env X sa (V i) s' := by
      rcases inv with ⟨rfl, rfl⟩ | ⟨_, _, _, S1⟩
      · exact (S.weak V0).avoidS (kg.kp_new gn.kp ox gn.g_new) ox dO
      · exact S1.turnS kg dO (fun b q => nX b (ox b q)) (fun b q => S.kx.live b (ox b q)) (fun b q => S.old (ox b q)) hga
    refine wpAny_of_eq (ht _ _) (wpAny_assign_Name ?_)
    refine S'.here.store (d := .int (r : Nat)) (rd_int.mpr ⟨t, rfl⟩) hk hd fun s3 k3 S3 => ?_
    have kx3 : Kx (XX env X) sa s3 := S'.kx.trans (k3.mono fun b e => .inl e)
    refine wpAny_mono (turn (fun b => G b ∧ ¬ Own C I b) i r s3 hr (fun b e => e.1) (fun b e q => ⟨q, fun z => by obtain ⟨o, ho⟩ := e; rw [ox b z] at ho; cases ho⟩) kx3 S3.here (hJf i s' s3 (jOwn s' kg) k3)) (fun fl s4 q => ?_) fun _ _ e => e
    have fin : Sta sb (fun b => G b ∧ ¬ Own C I b) env X s3 (V (i + 1)) s4 ∧ Jx (i + 1) s4 → ∃ m, m < N + 1 - i ∧ ∃ i, m = N + 1 - i ∧ i ≤ N ∧ Jx i s4 ∧ ((i = 0 ∧ s4 = s2) ∨ (0 < i ∧ s4.heap.IsGen a g ∧ GSt prog w A h L C I row N g i s4 ∧ Sta sb (fun b => G b ∧ ¬ Own C I b) env X sa (V i) s4)) := by
      rintro ⟨S4, j4⟩
      have kx4 : Kx (XX env X) s' s4 := (k3.mono fun b e => .inl e).trans S4.kx
      refine ⟨N + 1 - (i + 1), by lia, i + 1, rfl, by lia, j4, .inr ⟨by lia, ?_, gst.on (fun b o hb e => kx4.keep b o (fpX b hb) e) (kx4.gens g), S4.base kx3⟩⟩
      obtain ⟨o, nm, qn, ho, rest⟩ := isg1
      exact ⟨o, nm, qn, kx4.keep _ _ aX (kg.keep _ _ aO ho), rest⟩
    cases fl with
    | next => exact fin q
    | cont => exact fin q
    | brk => exact q
    | ret v => exact q
  · refine wpAny_execs_nil ?_
    refine done i s' hr ?_ (jOwn s' kg)
    rcases inv with ⟨rfl, rfl⟩ | ⟨_, _, _, S1⟩
    · exact (S.weak V0).kp (kg.kp_new gn.kp ox gn.g_new)
    · exact S1.dropS kg (fun b q => nX b (ox b q)) (fun b q => S.kx.live b (ox b q)) (fun b q => S.old (ox b q)) hga (fun b q => S.fresh b (ox b q))
end
end Mine
end
noncomputable section
open PySem PySem.W PyProof.Rows
open PySem.Sem (wp)
set_option Elab.async false
set_option autoImplicit false
set_option linter.unusedVariables false
set_option linter.unusedSimpArgs false
set_option maxRecDepth 4000
namespace Mine
/-! Lists that grow. -/
def flats (ds : List D) : Prop := ∀ d ∈ ds, d.flat = true
theorem RdL.flats {P P' : Addr → Prop} {h h' : Heap} : ∀ {ds : List D} {vs : List Value}, Mine.flats ds → RdL P h ds vs → RdL P' h' ds vs
  | [], vs, _, r => by rw [rdL_nil.mp r]; exact rdL_nil.mpr rfl
  | d :: ds, vs, f, r => by
    obtain ⟨v, q, rfl, h1, h2⟩ := rdL_cons.mp r
    exact rdL_cons.mpr ⟨v, q, rfl, h1.flat (f d List.mem_cons_self), RdL.flats (fun d hd => f d (List.mem_cons_of_mem _ hd)) h2⟩
def ML (h : Heap) (B : Addr) (ds : List D) : Prop := flats ds ∧ ∃ vs : List Value, PlainL h B vs.toArray ∧ RdL All h ds vs
theorem ML.at {h h' : Heap} {B : Addr} {ds : List D} (x : ML h B ds) (k : ∀ o, h.get? B = some o → h'.get? B = some o) : ML h' B ds :=
  let ⟨f, vs, ⟨o, n, ho, r⟩, q⟩ := x; ⟨f, vs, ⟨o, n, k o ho, r⟩, q.flats f⟩
theorem ML.dom {h : Heap} {B : Addr} {ds : List D} (x : ML h B ds) : Dom h B := let ⟨_, _, ⟨o, _, ho, _⟩, _⟩ := x; ⟨o, ho⟩
theorem ML.rd {h : Heap} {B : Addr} {ds : List D} {P : Addr → Prop} (x : ML h B ds) (hB : P B) : Rd P h (.list ds) (.ref B) :=
  let ⟨f, vs, l, q⟩ := x; rd_list.mpr ⟨B, vs, rfl, hB, l.isList, q.flats f⟩
section
variable {prog : Program} {w : World} {A : Around} {env : Env} {P : Addr → Prop} {h : Heap}
theorem ev_ml {e : Expr} {B : Addr} {ds : List D} (x : Ev prog w A env P h e (.addr B)) (m : ML h B ds) : Ev prog w A env All h e (.list ds) := fun s hs Q E hQ =>
  x s hs Q E fun v s' k r => hQ v s' k (by
    rw [rd_addr.mp r]
    exact (m.at fun o e => k.keep _ _ (hs _ _ e)).rd (.inl trivial))
end
section
variable {sb : Shared} {G : Addr → Prop} {env : Env} {X : Addr → Prop} {sa s : Shared} {vars : List (Str × D)}
variable {prog : Program} {w : World} {A : Around}
/-- `x = [..]`, a list that is going to grow. -/
theorem st_mklist {E : Value → Shared → Prop} {x : Str} {px p pos : Pos} {es : List Expr} {ds : List D} {Q : Flow → Shared → Prop} (S : Sta sb G env X sa vars s) (hv : EvL prog w A env (PP G env X s.heap) s.heap es ds) (hf : flats ds) (hn : ds.length ≤ 1000)
    (hQ : ∀ s' B, s.heap.get? B = none → sa.heap.get? B = none → G B → ¬ XX env X B → ML s'.heap B ds → Sta sb G env (fun b => X b ∨ b = B) sa ((x, .addr B) :: vars) s' → Q .next s')
    (hk : env.kindOf x = some .local ∨ env.kindOf x = some .cell := by first | exact Or.inl (by with_unfolding_all rfl) | exact Or.inr (by with_unfolding_all rfl)) (hd : (x == ("__debug__" : Str)) = false := by decide)
    (hs : swapsWith (.List es p) (some (.Name x px)) pos.line env = pure false := by with_unfolding_all rfl) : wpAny (model prog w) A (exec (.Assign [.Name x px] (.List es p) pos) env) Q E s := by
  refine wpAny_Assign_Name (wpAny_List (hv.spliced s (.refl _) _ _ fun vs s1 k1 r1 => ⟨by rw [r1.length, sizeLine_is]; lia, ?_⟩)) hs
  have hB : s.heap.get? s1.heap.objs.size = none := none_of_kp k1 (get_size _)
  generalize hBe : s1.heap.objs.size = B at *
  have pl : PlainL (s1.heap.push { cls := .type "list", data := .seq vs.toArray vs.length }) B vs.toArray := ⟨_, _, by rw [← hBe]; exact Heap.get?_push_size _ rfl, rfl, rfl, rfl⟩
  have kk : Kp s { s1 with heap := s1.heap.push { cls := .type "list", data := .seq vs.toArray } } := k1.trans (Kp.heap (t := s1.toks) (sub_push _ _))
  have pl' : PlainL (s1.heap.push { cls := .type "list", data := .seq vs.toArray }) B vs.toArray := ⟨_, _, by rw [← hBe]; exact Heap.get?_push_size _ rfl, rfl, rfl, rfl⟩
  have hBF : ¬ FrA env B := fun z => S.notX hB (.inl z)
  obtain ⟨oB, nB, hoB, _⟩ := id pl'
  refine (S.grow kk hB ⟨_, hoB⟩).store (d := .addr B) (rd_addr.mpr rfl) hk hd fun s3 k3 S3 => ?_
  refine hQ s3 B hB (S.kx.live B hB) (S.fresh B hB) (S.notX hB) ⟨hf, vs, ?_, (r1.mono fun _ _ => trivial).flats hf⟩ S3
  obtain ⟨o, n, ho, r⟩ := pl'
  exact ⟨o, n, k3.keep B _ hBF ho, r⟩
/-- `x.append(e)` -/
theorem st_append {E : Value → Shared → Prop} {x : Str} {p1 apos pos spos : Pos} {e : Expr} {d : D} {ds : List D} {B : Addr} {Q : Flow → Shared → Prop} (S : Sta sb G env X sa vars s) (hx : vars.lookup x = some (.addr B)) (hB : X B) (hBF : ¬ FrA env B) (m : ML s.heap B ds)
    (he : Ev prog w A env All s.heap e d) (hf : d.flat = true) (hn : ds.length ≤ 1000)
    (hQ : ∀ s', Kx (· = B) s s' → ML s'.heap B (ds ++ [d]) → Sta sb G env X sa vars s' → Q .next s')
    (hbase : attributeBase (.Name x p1) "append" env (eval (.Name x p1) env) = eval (.Name x p1) env := by with_unfolding_all rfl)
    (hfew : ((backTo pos (starEach [e] env)).all (fun x => !x.1) && (backToKw pos (keywordEach [] env)).all (fun x => x.1.isSome)
      && decide (([e] : List Expr).length + ([] : List Keyword).length + (if ([] : List Keyword).isEmpty then 0 else 1) < 30)) = true := by first | exact few_one rfl | with_unfolding_all rfl)
    (hline : (apos.endLine == pos.line) = true := by with_unfolding_all rfl)
    (htrees : backTo pos (starEach [e] env) = [(false, eval e env)] := by first | exact backTo_one rfl | with_unfolding_all rfl)
    (hint : interactive env = false := by with_unfolding_all rfl)
    (hsw2 : swapsWith (.Call (.Attribute (.Name x p1) "append" apos) [e] [] pos) none spos.line env = pure false := by with_unfolding_all rfl) :
    wpAny (model prog w) A (exec (.Expr (.Call (.Attribute (.Name x p1) "append" apos) [e] [] pos) spos) env) Q E s := by
  obtain ⟨v, l, r⟩ := S.has hx
  rw [rd_addr.mp r] at l
  obtain ⟨f, vs, pl, q⟩ := id m
  refine wpAny_Expr (wpAny_Call_append hbase hfew hline htrees (looks_eval l (.refl _) ⟨B, vs.toArray, rfl, pl, ?_⟩)) hint hsw2
  refine he s (.refl _) _ _ fun y s1 k1 ry => ?_
  have hl := q.length
  refine list_append_plainL (its := vs.toArray) (hsz := by rw [sizeLine_is, List.size_toArray, hl]; lia) (by
    obtain ⟨o, n, ho, rr⟩ := pl
    exact ⟨o, n, k1.keep _ _ ho, rr⟩) fun h2 pl2 hs2 => ?_
  obtain ⟨o2, n2, ho2, _⟩ := id pl2
  have kx : Kx (· = B) s { s1 with heap := h2 } := k1.kx.trans (Kx.same (tk := s1.toks) hs2 ho2 rfl)
  refine hQ _ kx ⟨fun d' hd' => ?_, vs ++ [y], by simpa using pl2, (q.flats f).append (rdL_cons'.mpr ⟨ry.flat hf, rdL_nil.mpr rfl⟩)⟩ (S.on kx fun b e => by
    have e' : b = B := e
    rw [e']; exact ⟨hB, hBF⟩)
  rcases List.mem_append.mp hd' with h | h
  · exact f d' h
  · rw [List.mem_singleton.mp h]; exact hf
/-- It does not grow any more. -/
theorem Sta.settle {x : Str} {B : Addr} {ds : List D} (S : Sta sb G env (fun b => X b ∨ b = B) sa vars s) (hx : vars.lookup x = some (.addr B)) (m : ML s.heap B ds) (hsa : sa.heap.get? B = none) (hG : G B) (hB : ¬ XX env X B) : Sta sb G env X sa ((x, .list ds) :: vars) s := by
  have S1 := S.shut hsa
  obtain ⟨ρ, F, hv⟩ := S1.fs
  refine ⟨S1.kx, ⟨ρ, F, fun y d e => ?_⟩, S1.live, S1.new, S1.fresh⟩
  rw [List.lookup_cons] at e
  by_cases q : y = x
  · subst q
    simp only [beq_self_eq_true] at e
    cases e
    obtain ⟨h1, h2, v, h3, h4⟩ := hv y _ hx
    refine ⟨h1, h2, v, h3, ?_⟩
    rw [rd_addr.mp h4]
    exact m.rd ⟨hB, hG⟩
  · have : (y == x) = false := by simpa using q
    rw [this] at e
    exact hv y d e
end
end Mine
end
noncomputable section
open PySem PySem.W PyProof.Rows
open PySem.Sem (wp)
set_option Elab.async false
set_option autoImplicit false
set_option linter.unusedVariables false
set_option linter.unusedSimpArgs false
set_option maxRecDepth 100000
namespace Mine
theorem bj_slot : Slot "bytes" "join" "bytes.join" :=
  .of (owner := "bytes") (n := "join") (by rw [typeLookup_type, builtinLookup_eq_fast]; kernel_rfl) (by decide +kernel) (by decide +kernel) (by decide +kernel)
    (by first | exact .inl (by decide +kernel) | exact .inr (by decide +kernel)) (by rw [isSubtype_type]; kernel_rfl)
theorem bj_type : typeOf (.builtin "bytes.join") = pure (.type "method_descriptor") := by show builtinType _ = _; rw [builtinType_eq_fast]; kernel_rfl
theorem bj_entry : entryFor table "bytes.join" = some Builtin.«bytes.join» := entryFor_of_tree (by kernel_rfl)
theorem bj_args (a b : Value) : argsOk "bytes.join" ⟨[a, b], []⟩ := by
  unfold argsOk; rw [signature?_of (id := "bytes.join") (n := ['n', 'i', 'o', 'j']) (o := ['s', 'e', 't', 'y', 'b']) (by kernel_rfl) PySem.W.FB.owner_bytes]; kernel_rfl
theorem bj_self (a b : Value) : selfAndOne "bytes.join" ⟨[a, b], []⟩ = pure (a, b) := by first | rfl | kernel_rfl
theorem take_eq {id : String} {b : Array UInt8} {t : Tok} : Builtin.Bytes.takeBufferQuiet? id (.bytes b t) 0 = pure (some (b, none)) := by
  unfold Builtin.Bytes.takeBufferQuiet? Builtin.Bytes.takeBuffer?
  rw [KBy.special_eq KBy.look_buffer, KBy.own_buffer, show ((0 : Int) == Builtin.Bytes.fullReadOnly) = false from by decide, KBy.buffer_eq]
  kernel_rfl
theorem joined_nil : ∀ (l : List (Array UInt8 × Nat)) (out : Array UInt8), l.foldl (fun out (p, i) => (if i > 0 then out ++ (#[] : Array UInt8) else out) ++ p) out = out ++ (l.map (·.1.toList)).flatten.toArray
  | [], out => by simp
  | (p, i) :: r, out => by
    rw [List.foldl_cons, joined_nil r]
    apply Array.ext'
    simp
theorem joined_flat (parts : List (List UInt8)) : Builtin.Bytes.joined #[] (parts.map (·.toArray)) = parts.flatten.toArray := by
  unfold Builtin.Bytes.joined
  have := joined_nil ((parts.map (·.toArray)).zipIdx) #[]
  rw [this]
  have e : ∀ (l : List (Array UInt8)) (n : Nat), (l.zipIdx n).map (fun x => x.1.toList) = l.map (·.toList) := by
    intro l
    induction l with
    | nil => intro n; rfl
    | cons a l ih => intro n; simp [List.zipIdx_cons, ih]
  rw [e]
  simp [Function.comp_def]
theorem sizes_flat : ∀ (parts : List (List UInt8)) (n : Nat), (parts.map (·.toArray)).foldl (fun (n : Nat) (p : Array UInt8) => n + p.size) n = n + parts.flatten.length
  | [], n => by simp
  | p :: r, n => by
    rw [List.map_cons, List.foldl_cons, sizes_flat r]
    simp; lia
theorem take_push {parts : List (List UInt8)} {x : Nat} (hlt : x < parts.length) : (((parts.take x).map (·.toArray)).toArray).push (parts[x]'hlt).toArray = ((parts.take (x + 1)).map (·.toArray)).toArray := by
  rw [List.take_add_one, List.getElem?_eq_getElem hlt, Option.toList_some, List.map_append, List.map_cons, List.map_nil, List.push_toArray]
theorem join_fits {parts : List (List UInt8)} {n : Nat} (hs : parts.flatten.length ≤ 1000) : Builtin.Bytes.tooLong ((((parts.map (·.toArray)).toArray)).foldl (fun (n : Nat) (p : Array UInt8) => n + p.size) ((#[] : Array UInt8).size * n)) = false := by
  rw [← Array.foldl_toList]
  have := sizes_flat parts 0
  show Builtin.Bytes.tooLong ((parts.map (·.toArray)).foldl _ ((#[] : Array UInt8).size * n)) = false
  rw [show (#[] : Array UInt8).size * n = 0 by simp, this]
  exact KBy.tooLong_not (by lia)
section
variable {prog : Program} {w : World} {A : Around} {E : Value → Shared → Prop} {s : Shared}
theorem join_letGo {Q : Unit → Shared → Prop} : ∀ (taken : List (Value × Option Value)) (keep : List Value), (∀ x ∈ taken, x.2 = none) → Q () s → wpAny (model prog w) A (Builtin.Bytes.joinLetGo taken keep) Q E s
  | [], keep, _, h => wpAny_pure h
  | (x, w') :: r, keep, hw, h => by
    have : w' = none := hw (x, w') List.mem_cons_self
    subst this
    unfold Builtin.Bytes.joinLetGo
    dsimp only
    first
      | exact wpAny_bind (wpAny_letGo (join_letGo r keep (fun y hy => hw y (List.mem_cons_of_mem _ hy)) h))
      | exact wpAny_bind (wpAny_pure (wpAny_bind (wpAny_letGo (join_letGo r keep (fun y hy => hw y (List.mem_cons_of_mem _ hy)) h))))
set_option maxHeartbeats 1000000 in
theorem join_bytes {t : Tok} {L : Addr} {P : Addr → Prop} {parts : List (List UInt8)} {Q : Value → Shared → Prop} (r : Rd P s.heap (.list (parts.map D.bytes)) (.ref L)) (hn : parts.length ≤ 1000) (h1p : 1 ≤ parts.length) (hs : parts.flatten.length ≤ 1000)
    (hQ : ∀ t' tk, Q (.bytes parts.flatten.toArray t') { s with toks := tk }) : wpAny (model prog w) A (call (.builtin "bytes.join") [.bytes #[] t, .ref L]) Q E s := by
  obtain ⟨L', vs, e, _, hl, rl⟩ := rd_list.mp r
  cases e
  refine wpAny_call_entry bj_slot (typeIs_bytes _ _ _) bj_entry ?_ (bj_args _ _)
  unfold Builtin.«bytes.join» Builtin.Bytes.joinM
  dsimp only
  refine wpAny_bind (wpAny_of_eq (bj_self _ _) ?_)
  rw [if_pos (by decide)]
  have e1 : ∀ {Q1 : Value → Shared → Prop}, Q1 (.ref L) s → wpAny (model prog w) A.in1 (Builtin.Bytes.joinItems (.ref L)) Q1 (fun e s' => E e s') s := fun hq => by
    unfold Builtin.Bytes.joinItems
    refine wpAny_bind (wpAny_typeOf hl.typeIs ?_)
    exact wpAny_of_eq (a := Value.ref L) rfl hq
  refine wpAny_bind (e1 ?_)
  have e2 : ∀ {Q1 : Option (Array Value) → Shared → Prop} {E1 : Value → Shared → Prop}, Q1 (some vs.toArray) s → wpAny (model prog w) A.in1 (seqItems? (.ref L)) Q1 E1 s := fun hq => by
    obtain ⟨o, ho, hc, n, hd⟩ := hl
    unfold seqItems?
    refine wpAny_bind (wpAny_load ho ?_)
    rw [hd]
    exact wpAny_pure hq
  refine wpAny_bind (e2 ?_)
  dsimp only
  rw [if_pos (by decide)]
  have hlen := rl.length
  rw [List.length_map] at hlen
  by_cases h1 : parts.length = 1
  · obtain ⟨x, rfl⟩ : ∃ x, parts = [x] := List.length_eq_one_iff.mp h1
    obtain ⟨v, q, rfl, r1, r2⟩ := rdL_cons.mp rl
    have hq := rdL_nil.mp r2
    subst hq
    obtain ⟨t', rfl⟩ := rd_bytes.mp r1
    refine wpAny_bind (wpAny_typeOf (typeIs_bytes _ _ _) ?_)
    rw [if_pos (by decide)]
    refine wpAny_bind (wpAny_rule (wpAny_pure ⟨_, rfl, ?_⟩))
    have h2 := hQ t' s.toks
    rw [show [x].flatten = x by simp] at h2
    exact h2
  · rcases vs with _ | ⟨v1, _ | ⟨v2, us⟩⟩
    · simp at hlen; lia
    · exact absurd hlen.symm h1
    refine wpAny_bind ?_
    generalize hvs : v1 :: v2 :: us = vs at *
    have hvn : vs.toArray.size = parts.length := by rw [List.size_toArray, hlen]
    rw [Std.Legacy.Range.forIn_eq_forIn_range']
    simp only [Std.Legacy.Range.size, Nat.sub_zero, Nat.add_sub_cancel, Nat.div_one]
    rw [hvn]
    refine wpAny_forIn_list _ (fun rest b s' => s' = s ∧ ∃ i, rest = List.range' i (parts.length - i) ∧ i ≤ parts.length ∧ b.1 = ((parts.take i).map (·.toArray)).toArray ∧ (∀ x ∈ b.2, x.1.onHeap = false ∧ x.2 = none)) _ ?_ ?_ _ _ ⟨rfl, 0, by simp, Nat.zero_le _, by simp, fun x hx => by cases hx⟩
    · rintro x rest b s' ⟨rfl, i, hr, hi, hb1, hb2⟩
      have hlt : i < parts.length := by
        rcases Nat.lt_or_ge i parts.length with h | h
        · exact h
        · rw [Nat.sub_eq_zero_of_le h] at hr; simp at hr
      obtain ⟨rfl, hrest⟩ : x = i ∧ rest = List.range' (i + 1) (parts.length - (i + 1)) := by
        have e : parts.length - i = (parts.length - (i + 1)) + 1 := by lia
        rw [e, List.range'_succ] at hr
        injection hr with h1 h2
        exact ⟨h1, h2⟩
      obtain ⟨v, hv, rv⟩ := rl.get (i := x) (d := .bytes (parts[x]'hlt)) (by simp [hlt])
      obtain ⟨t', rfl⟩ := rd_bytes.mp rv
      have hg : vs.toArray.getD x Value.none = .bytes (parts[x]'hlt).toArray t' := by
        have : vs.toArray[x]? = some (.bytes (parts[x]'hlt).toArray t') := by simpa using hv
        simp [Array.getD_eq_getD_getElem?, this]
      refine wpAny_bind (e2 ?_)
      dsimp only
      have hany : (Builtin.Bytes.Kind.bytes == Builtin.Bytes.Kind.bytearray || b.2.any fun x => x.1.onHeap) = false := by
        have : (b.2.any fun x => x.1.onHeap) = false := by
          rw [List.any_eq_false]; intro y hy; simp [(hb2 y hy).1]
        rw [this]; decide
      rw [hany, if_neg Bool.false_ne_true, hg]
      refine wpAny_bind (wpAny_holding (wpAny_of_eq take_eq ?_))
      dsimp only
      refine wpAny_bind (e2 ?_)
      dsimp only
      rw [hvn, if_neg (by simp)]
      refine wpAny_pure ⟨rfl, x + 1, hrest, hlt, ?_, fun y hy => ?_⟩
      · rw [hb1]; exact take_push hlt
      · rcases List.mem_append.mp hy with h | h
        · exact hb2 y h
        · rw [List.mem_singleton.mp h]; exact ⟨rfl, rfl⟩
    · rintro b s' ⟨rfl, i, hr, hi, hb1, hb2⟩
      have hil : i = parts.length := by
        have := congrArg List.length hr
        simp at this; lia
      subst hil
      rw [List.take_length] at hb1
      refine wpAny_bind (wpAny_of_eq (a := (#[] : Array UInt8)) rfl ?_)
      have htl := join_fits (n := b.1.size - 1) hs
      rw [← hb1] at htl
      show wpAny _ _ (if Builtin.Bytes.tooLong (b.1.foldl (fun (n : Nat) (p : Array UInt8) => n + p.size) ((#[] : Array UInt8).size * (b.1.size - 1))) = true then _ else _) _ _ _
      rw [htl, if_neg Bool.false_ne_true]
      have hj : Builtin.Bytes.joined #[] b.1.toList = parts.flatten.toArray := by
        rw [hb1]; exact joined_flat parts
      rw [hj]
      refine wpAny_bind (m := Builtin.Bytes.Kind.bytes.new _) ?_
      refine wpAny_mkBytes ?_ (by rw [sizeLine_is, List.size_toArray]; lia)
      refine wpAny_bind (wpAny_holding (wpAny_point ?_))
      refine wpAny_bind (join_letGo _ _ (fun x hx => (hb2 x hx).2) ?_)
      exact wpAny_pure ⟨_, rfl, hQ _ _⟩
end
end Mine
end
noncomputable section
open PySem PySem.W PyProof.Rows
open PySem.Sem (wp)
set_option Elab.async false
set_option autoImplicit false
set_option linter.unusedVariables false
set_option linter.unusedSimpArgs false
set_option maxRecDepth 100000
namespace Mine
section
variable {prog : Program} {w : World} {A : Around} {env : Env} {P : Addr → Prop} {h : Heap}
theorem bj_method {M : Model} {E : Value → Shared → Prop} {s : Shared} {b : Array UInt8} {t : Tok} {pl : Sem Bool} {Q : Value × List Value → Shared → Prop} (h : Q (.builtin "bytes.join", [.bytes b t]) s) : wpAny M A (getMethod (.bytes b t) "join" pl) Q E s := by
  with_reducible exact KBd.method_of (.bytes b t) (typeIs_bytes _ _ _) bj_slot bj_type KBd.noRef h
theorem evN_join {k : Nat} {p1 apos pos : Pos} {e : Expr} {parts : List (List UInt8)} (x : EvN prog w A env P h e (.list (parts.map D.bytes))) (hn : parts.length ≤ 1000) (h1p : 1 ≤ parts.length) (hs : parts.flatten.length ≤ 1000)
    (hfew : ((backTo pos (starEach [e] env)).all (fun x => !x.1) && (backToKw pos (keywordEach [] env)).all (fun x => x.1.isSome)
      && decide (([e] : List Expr).length + ([] : List Keyword).length + (if ([] : List Keyword).isEmpty then 0 else 1) < 30)) = true := by with_unfolding_all rfl)
    (hbase : attributeBase (.Constant (.bytes []) k p1) "join" env (eval (.Constant (.bytes []) k p1) env) = eval (.Constant (.bytes []) k p1) env := by with_unfolding_all rfl)
    (hline : (apos.endLine == pos.line) = true := by with_unfolding_all rfl) (hse : starEach [e] env = [(false, eval e env)] := by first | exact star_one rfl | with_unfolding_all rfl) :
    EvN prog w A env P h (.Call (.Attribute (.Constant (.bytes []) k p1) "join" apos) [e] [] pos) (.bytes parts.flatten) := fun s hss Q E hQ => by
  rw [arm_eval_Call, hbase]
  refine wpN_bind (wpN_of (ev_bytes (P := P) (h := h) [] k p1 s hss _ _ fun v s1 k1 r1 => ?_))
  obtain ⟨t, rfl⟩ := rd_bytes.mp r1
  refine wpN_bind (wpN_standAt ?_)
  have hform : methodCallForm (([e] : List Expr).length + ([] : List Keyword).length) (backTo pos (starEach [e] env)) (backToKw pos (keywordEach [] env)) = true := hfew
  have hpos : methodCallPos true (.Constant (.bytes []) k p1) env apos pos = pure pos := by unfold methodCallPos; simp [hline]
  unfold methodCall
  rw [hform]
  refine wpN_bind (wpN_holding (wpN_of (bj_method ?_)))
  refine wpN_bind (wpN_of_eq hpos ?_)
  have xl : EvLN prog w A env P h [e] [.list (parts.map D.bytes)] := evlN_one x hse
  show wpN _ A (callWith pos (.builtin "bytes.join") [.bytes #[] t] (backTo pos (starEach [e] env)) []) Q E s1
  unfold callWith
  refine wpN_bind (wpN_holding (xl.args s1 (hss.trans k1.keep) _ _ fun vs s2 k2 r => wpN_bind (wpN_standAt ?_)))
  obtain ⟨v, q, rfl, rl, r2⟩ := rdL_cons.mp r
  have hq := rdL_nil.mp r2
  subst hq
  obtain ⟨L, us, rfl, _⟩ := rd_list.mp rl
  have go : wpN (model prog w) A (call (.builtin "bytes.join") [.bytes #[] t, .ref L]) Q E s2 := wpN_of (join_bytes rl hn h1p hs fun t' tk => hQ _ _ (k1.trans (k2.trans Kp.tok)) (rd_bytes.mpr ⟨t', rfl⟩))
  have tail : ∀ {t : Sem Value}, wpN (model prog w) A t Q E s2 → wpN (model prog w) A (t >>= fun r => holding [r] point >>= fun _ => pure r) Q E s2 :=
    fun ht => wpN_bind (wpN_mono ht (fun r s₂ hr => wpN_of (wpAny_bind (wpAny_holding (wpAny_point (wpAny_pure hr))))) fun _ _ x => x)
  have hpl : (backTo pos (starEach [e] env)).any (fun x => x.1) = false := xl.plain
  simp only [hpl, List.any_nil, Bool.or_false]
  refine wpN_bind (m := keeperOf (.builtin "bytes.join")) (wpN_pure ?_)
  exact tail go
end
end Mine
end
noncomputable section
open PySem PySem.W PyProof.Rows
set_option Elab.async false
set_option autoImplicit false
set_option linter.unusedVariables false
set_option linter.unusedSimpArgs false
namespace Mine
/-! What the turning by groups leaves: pure. -/
theorem told_get {row : List Nat} {many i : Nat} (h1 : 1 ≤ stopOf row) (hi : i < many) : (told row many)[i]? = gout row i := by
  have hst := stop_le row
  unfold told
  rw [List.getElem?_take, if_pos hi]
  rcases Nat.lt_or_ge i (stopOf row) with q | q
  · rw [List.getElem?_append_left (by simp; lia), List.getElem?_take, if_pos q, gout_lt q]
  · rw [List.getElem?_append_right (by simp; lia), gout_ge q]
    have hl : (row.take (stopOf row)).length = stopOf row := by simp; lia
    rw [hl]
    by_cases z : row[stopOf row]? = some 0
    · have hlt : stopOf row < row.length := (List.getElem?_eq_some_iff.mp z).1
      have e1 : (row.drop (stopOf row)).take 1 = [0] := by
        rw [List.drop_eq_getElem_cons hlt]
        have := (List.getElem?_eq_some_iff.mp z).2
        simp [this]
      have e2 : (row.drop (stopOf row - 1)).take 1 = [row[stopOf row - 1]'(by lia)] := by
        rw [List.drop_eq_getElem_cons (show stopOf row - 1 < row.length by lia)]; rfl
      rw [e1, e2, if_pos z, if_pos (by decide)]
      have e3 : ∀ (m : Nat) (y : Nat), (List.replicate m [y]).flatten = List.replicate m y := by
        intro m y
        induction m with
        | zero => rfl
        | succ m ih => rw [List.replicate_succ, List.flatten_cons, ih]; rfl
      rw [e3, List.getElem?_replicate, if_pos (by lia), List.getElem?_eq_getElem (by lia)]
    · have e1 : ((row.drop (stopOf row)).take 1 == [0]) = false := by
        rw [beq_eq_false_iff_ne]
        intro e
        apply z
        have := congrArg (fun l => l[0]?) e
        simp only [List.getElem?_take, List.getElem?_drop] at this
        simpa using this
      rw [e1, if_neg z, if_neg (by decide)]
      simp
theorem gout_pos {row : List Nat} {i r : Nat} (h1 : 1 ≤ stopOf row) (h : gout row i = some r) : 0 < r := by
  have key : ∀ j, j < stopOf row → ∀ r, row[j]? = some r → 0 < r := by
    intro j hj r hr
    have h2 := List.not_of_lt_findIdx (p := isEnd) (xs := row) hj
    obtain ⟨hl, e⟩ := List.getElem?_eq_some_iff.mp hr
    rw [e] at h2
    rcases Nat.eq_zero_or_pos r with z | z
    · subst z; simp [isEnd] at h2
    · exact z
  rcases Nat.lt_or_ge i (stopOf row) with q | q
  · rw [gout_lt q] at h; exact key i q r h
  · rw [gout_ge q] at h
    split at h
    · exact key _ (by lia) r h
    · cases h
theorem told_pos {row : List Nat} {many : Nat} (h1 : 1 ≤ stopOf row) : ∀ r ∈ told row many, 0 < r := by
  intro r hr
  obtain ⟨i, hi⟩ := List.getElem?_of_mem hr
  have hlt : i < many := by
    have := (List.getElem?_eq_some_iff.mp hi).1
    have := told_len row many
    lia
  rw [told_get h1 hlt] at hi
  exact gout_pos h1 hi
theorem take_sum_succ {t : List Nat} {i r : Nat} (h : t[i]? = some r) : (t.take (i + 1)).sum = (t.take i).sum + r := by
  rw [List.take_add_one, h]; simp
theorem take_sum_le {t : List Nat} (hp : ∀ r ∈ t, 0 < r) : ∀ i, i ≤ t.length → i ≤ (t.take i).sum
  | 0, _ => Nat.zero_le _
  | i + 1, h => by
    have := take_sum_le hp i (by lia)
    rw [take_sum_succ (List.getElem?_eq_getElem (show i < t.length by lia))]
    have := hp _ (List.getElem_mem (show i < t.length by lia))
    lia
theorem take_sum_lt {t : List Nat} (hp : ∀ r ∈ t, 0 < r) {i j : Nat} (hij : i < j) (hj : j ≤ t.length) : (t.take i).sum < (t.take j).sum := by
  induction j with
  | zero => lia
  | succ j ih =>
    rw [take_sum_succ (List.getElem?_eq_getElem (show j < t.length by lia))]
    have := hp _ (List.getElem_mem (show j < t.length by lia))
    rcases Nat.lt_or_ge i j with q | q
    · have := ih q (by lia); lia
    · have : i = j := by lia
      subst this; lia
/-- The ends so far, from the right. -/
def esOf (t : List Nat) (n i : Nat) : List Nat := (List.range (i + 1)).map fun k => n - (t.take k).sum
theorem esOf_len (t : List Nat) (n i : Nat) : (esOf t n i).length = i + 1 := by simp [esOf]
theorem esOf_get {t : List Nat} {n i k : Nat} (hk : k ≤ i) : (esOf t n i)[k]? = some (n - (t.take k).sum) := by
  unfold esOf
  rw [List.getElem?_map, List.getElem?_range (by lia)]; rfl
theorem esOf_succ (t : List Nat) (n i : Nat) : esOf t n (i + 1) = esOf t n i ++ [n - (t.take (i + 1)).sum] := by
  simp [esOf, List.range_succ]
theorem esOf_desc {t : List Nat} (hp : ∀ r ∈ t, 0 < r) {n i : Nat} (hi : i ≤ t.length) (hs : (t.take i).sum < n) : (esOf t n i).Pairwise (fun a b => b < a) := by
  unfold esOf
  rw [List.pairwise_map]
  have : (List.range (i + 1)).Pairwise (· < ·) := List.pairwise_lt_range
  refine this.imp_of_mem fun {a b} ha hb h => ?_
  have hb' := List.mem_range.mp hb
  have h2 := take_sum_lt hp h (by lia)
  have h3 : (t.take b).sum ≤ (t.take i).sum := by
    rcases Nat.lt_or_ge b i with q | q
    · exact Nat.le_of_lt (take_sum_lt hp q hi)
    · rw [show b = i by lia]; exact Nat.le_refl _
  lia
theorem edges_eq {t : List Nat} (hp : ∀ r ∈ t, 0 < r) {n i : Nat} (hi : i ≤ t.length) (hs : (t.take i).sum < n) (he : i = t.length ∨ n ≤ (t.take (i + 1)).sum) : edgesOf t n = (esOf t n i ++ [0]).reverse := by
  unfold edgesOf
  have hf : (List.range (t.length + 1)).filter (fun k => decide ((t.take k).sum < n)) = List.range (i + 1) := by
    have e : List.range (t.length + 1) = List.range (i + 1) ++ (List.range (t.length - i)).map (i + 1 + ·) := by
      rw [← List.range_add]; congr 1; lia
    rw [e, List.filter_append]
    have e1 : (List.range (i + 1)).filter (fun k => decide ((t.take k).sum < n)) = List.range (i + 1) := by
      rw [List.filter_eq_self]
      intro k hk
      have hk' := List.mem_range.mp hk
      have : (t.take k).sum ≤ (t.take i).sum := by
        rcases Nat.lt_or_ge k i with q | q
        · exact Nat.le_of_lt (take_sum_lt hp q hi)
        · rw [show k = i by lia]; exact Nat.le_refl _
      simp; lia
    have e2 : ((List.range (t.length - i)).map (i + 1 + ·)).filter (fun k => decide ((t.take k).sum < n)) = [] := by
      rw [List.filter_eq_nil_iff]
      intro k hk
      obtain ⟨j, hj, rfl⟩ := List.mem_map.mp hk
      have hj' := List.mem_range.mp hj
      rcases he with he | he
      · lia
      · have : (t.take (i + 1)).sum ≤ (t.take (i + 1 + j)).sum := by
          rcases Nat.lt_or_ge (i + 1) (i + 1 + j) with q | q
          · exact Nat.le_of_lt (take_sum_lt hp q (by lia))
          · rw [show i + 1 + j = i + 1 by lia]; exact Nat.le_refl _
        simp; lia
    rw [e1, e2, List.append_nil]
  rw [hf]
  show 0 :: isort (esOf t n i) = _
  rw [List.reverse_append]
  congr 1
  have hd := esOf_desc hp hi hs
  refine List.Perm.eq_of_pairwise (l₂ := (esOf t n i).reverse) (fun a b _ _ h1 h2 => Nat.le_antisymm h1 h2) (isort_sorted _) ?_ ((isort_perm _).trans (List.reverse_perm _).symm)
  show ((esOf t n i).reverse).Pairwise (· ≤ ·)
  rw [List.pairwise_reverse]
  exact hd.imp fun {a b} h => Nat.le_of_lt h
end Mine
end
noncomputable section
open PySem PySem.W PyProof.Rows
set_option Elab.async false
set_option autoImplicit false
set_option linter.unusedVariables false
set_option linter.unusedSimpArgs false
namespace Mine
def blocks {α : Type} (xs : List α) : List Nat → List (List α)
  | a :: b :: r => ((xs.drop a).take (b - a)) :: blocks xs (b :: r)
  | _ => []
theorem diffs_cons (a b : Nat) (r : List Nat) : diffs (a :: b :: r) = (b - a) :: diffs (b :: r) := by
  unfold diffs
  simp only [List.length_cons, Nat.add_sub_cancel]
  rw [List.range_succ_eq_map]
  simp
theorem mirT_blocks {α : Type} (xs : List α) : ∀ (es : List Nat) (a : Nat) (t : List α), t.length = a → (a :: es).Pairwise (· ≤ ·) → (∀ e ∈ es, e ≤ xs.length) →
    mirT xs t (diffs (a :: es)) = t ++ ((blocks xs (a :: es)).map List.reverse).flatten
  | [], a, t, _, _, _ => by simp [diffs, mirT, blocks]
  | b :: r, a, t, ht, hp, hl => by
    rw [diffs_cons, mirT, ht]
    have hab : a ≤ b := (List.pairwise_cons.mp hp).1 b List.mem_cons_self
    have hb : b ≤ xs.length := hl b List.mem_cons_self
    rw [mirT_blocks xs r b _ (by simp; lia) (List.pairwise_cons.mp hp).2 fun e he => hl e (List.mem_cons_of_mem _ he)]
    simp [blocks]
theorem blocks_range {α : Type} (xs : List α) : ∀ (es : List Nat), blocks xs es = (List.range (es.length - 1)).map fun k => (xs.drop (es.getD k 0)).take (es.getD (k + 1) 0 - es.getD k 0)
  | [] => rfl
  | [a] => rfl
  | a :: b :: r => by
    rw [blocks, blocks_range xs (b :: r)]
    simp only [List.length_cons, Nat.add_sub_cancel]
    rw [List.range_succ_eq_map]
    simp
/-- The pieces from the right, the last first. -/
theorem blocks_rev {α : Type} (xs : List α) (es : List Nat) : ((List.range (es.length - 1)).map fun k => (xs.drop (es.getD (k + 1) 0)).take (es.getD k 0 - es.getD (k + 1) 0)).reverse = blocks xs es.reverse := by
  rw [blocks_range]
  apply List.ext_getElem
  · simp
  · intro k h1 h2
    have hk : k < es.length - 1 := by simpa using h1
    simp only [List.getElem_reverse, List.getElem_map, List.getElem_range, List.length_map, List.length_range]
    have e1 : es.reverse.getD k 0 = es.getD (es.length - 1 - 1 - k + 1) 0 := by
      rw [List.getD_eq_getElem?_getD, List.getD_eq_getElem?_getD, List.getElem?_reverse (by lia)]
      congr 2; lia
    have e2 : es.reverse.getD (k + 1) 0 = es.getD (es.length - 1 - 1 - k) 0 := by
      rw [List.getD_eq_getElem?_getD, List.getD_eq_getElem?_getD, List.getElem?_reverse (by lia)]
      congr 2; lia
    rw [e1, e2]
theorem laid_rev {x : List UInt8} (hx : 1 ≤ x.length) : laid x x.length 1 0 = x.reverse := by
  apply List.ext_getElem
  · simp [laid]
  · intro p h1 h2
    have hp : p < x.length := by simpa using h2
    have e1 : p / x.length = 0 := Nat.div_eq_of_lt hp
    have e2 : p % x.length = p := Nat.mod_eq_of_lt hp
    simp only [laid, List.getElem_map, List.getElem_range, List.getElem_reverse]
    rw [if_pos (by left; lia)]
    unfold mix
    rw [e1, e2, Nat.zero_mul, Nat.zero_add, List.getD_eq_getElem?_getD, List.getElem?_eq_getElem (by lia)]
    rfl
theorem turned_eq {α : Type} {t : List Nat} (hp : ∀ r ∈ t, 0 < r) {x : List α} {n i : Nat} (hx : x.length = n) (hi : i ≤ t.length) (hs : (t.take i).sum < n) (he : i = t.length ∨ n ≤ (t.take (i + 1)).sum) :
    ((((List.range (i + 1)).map fun k => (x.drop ((esOf t n i ++ [0]).getD (k + 1) 0)).take ((esOf t n i ++ [0]).getD k 0 - (esOf t n i ++ [0]).getD (k + 1) 0)).reverse).map List.reverse).flatten = mir x (diffs (edgesOf t n)) := by
  have hl : (esOf t n i ++ [0]).length - 1 = i + 1 := by simp [esOf_len]
  have := blocks_rev x (esOf t n i ++ [0])
  rw [hl] at this
  rw [this, edges_eq hp hi hs he]
  unfold mir
  have e : (esOf t n i ++ [0]).reverse = 0 :: (esOf t n i).reverse := by simp
  rw [e, mirT_blocks x _ 0 [] rfl]
  · rfl
  · rw [List.pairwise_cons, List.pairwise_reverse]
    exact ⟨fun _ _ => Nat.zero_le _, (esOf_desc hp hi hs).imp fun {a b} h => Nat.le_of_lt h⟩
  · intro e he
    have := List.mem_reverse.mp he
    unfold esOf at this
    obtain ⟨k, _, rfl⟩ := List.mem_map.mp this
    lia
end Mine
end
noncomputable section
open PySem PySem.W PyProof.Rows
open PySem.Sem (wp)
set_option Elab.async false
set_option autoImplicit false
set_option linter.unusedVariables false
set_option linter.unusedSimpArgs false
set_option maxRecDepth 4000
namespace Mine
theorem ok7 : FnOk (theDef 7) ["text", "row"] :=
  ⟨fun pm cd doc vs hl => by
    obtain ⟨a, b, rfl⟩ := two_of hl
    with_unfolding_all rfl, by decide, by with_unfolding_all decide, by with_unfolding_all rfl, by with_unfolding_all rfl, by with_unfolding_all decide⟩
theorem head_ne {row : List Nat} (h1 : 1 ≤ stopOf row) : row[0]? ≠ some 0 := fun e => by
  have := stop_end (row := row) (i := 0) (Nat.zero_le _) e (by decide)
  lia
section
variable {prog : Program} {w : World} {A : Around} {env : Env} {P : Addr → Prop} {h : Heap}
theorem ev_last {value slice : Expr} {pos : Pos} {xs : List D} {d : D} (h1 : Ev prog w A env P h value (.list xs)) (h2 : Ev prog w A env P h slice (.int (-1))) (hx : xs.getLast? = some d)
    (hs : ∀ v t, subscripted slice false v (.int (-1) t) = operate [v, .int (-1) t] (getItem v (.int (-1) t)) := by intro _ _; with_unfolding_all rfl) : Ev prog w A env P h (.Subscript value slice pos) d := by
  have hne : 1 ≤ xs.length := by
    cases xs with
    | nil => simp at hx
    | cons a b => simp
  refine ev_item h1 h2 (item_list_neg (by lia) (by lia) (by lia) ?_ hs)
  rw [List.getLast?_eq_getElem?] at hx
  rw [← hx]; congr 1; lia
end
section
variable {prog : Program} {w : World} {A : Around} {h : Heap} {mg mb : Str → Option Value}
theorem ctN_turned {n : Nat} {a : Addr} {cd : Value} (oA : OkA (n + 2) A) (T : Gd mg mb h) (F : FnAt h a (theDef 7) cd) (x : List UInt8) (row : List Nat) (hx1 : 1 ≤ x.length) (hx2 : x.length ≤ 20) (hr : row.length ≤ 20) (h1 : 1 ≤ stopOf row) :
    CtN prog w A h (.ref a) [.bytes x, .list (iL row)] (.bytes (mir x (sizesOf row x.length))) := by
  refine ctN_fn oA F ok7 rfl (by with_unfolding_all rfl) fun sb P0 L s0 hs0 k0 S0 => ?_
  have oA' : OkA (n + 1) (A.deeper (envOfC (theDef 7).name (theDef 7).scope L a cd)) := oA.deeper _
  generalize hA' : A.deeper (envOfC (theDef 7).name (theDef 7).scope L a cd) = A' at oA' ⊢
  have T0 := T.sub (hs0.trans S0.keep)
  have htx := S0.has (x := "text") (d := .bytes x) (by with_unfolding_all rfl)
  refine wpN_execs_cons (wpN_of (st_mklist (ds := [.int x.length]) S0 (evl_one (ev_len_bytes (T0.blt (x := "len") boot_len).lk (ev_has htx) rfl (by lia))) (fun d hd => by rw [List.mem_singleton.mp hd]; rfl) (by simp) fun s1 B hB hBa hGB hBX m1 S1 => ?_))
  have hBF : ¬ FrA (envOfC (theDef 7).name (theDef 7).scope L a cd) B := fun z => hBX (.inl z)
  generalize hn : x.length = n0 at *
  generalize ht : told row n0 = t
  have hp : ∀ r ∈ t, 0 < r := ht ▸ told_pos h1
  have htl : t.length ≤ n0 := ht ▸ told_len row n0
  have m1' : ML s1.heap B (iL (esOf t n0 0)) := by
    have : esOf t n0 0 = [n0] := by simp [esOf]
    rw [this]; exact m1
  have T1 := T.sub (hs0.trans S1.keep)
  obtain ⟨ag, cg, gg, Fg⟩ := T1.at (i := 1)
  -- the loop
  refine wpN_execs_cons (wpN_mono (Q := fun f s3 => f = .next ∧ ∃ G' i, (∀ b, G' b → Nw P0 sb b) ∧ G' B ∧ Sta sb G' (envOfC (theDef 7).name (theDef 7).scope L a cd) (fun b => False ∨ b = B) s0 [("ends", .addr B), ("text", .bytes x)] s3 ∧ ML s3.heap B (iL (esOf t n0 i)) ∧ i ≤ t.length ∧ (t.take i).sum < n0 ∧ (i = t.length ∨ n0 ≤ (t.take (i + 1)).sum))
    (wpN_of (staG_for (N := n0) (row := row) (fun _ => [("ends", .addr B), ("text", .bytes x)]) (fun i s => ML s.heap B (iL (esOf t n0 i)) ∧ i ≤ t.length ∧ (t.take i).sum < n0) oA' T hs0 (T1.glob gg).lk Fg
      (evl_one (ev_has (S1.has (x := "row") (d := .list (iL row)) (by with_unfolding_all rfl)))) S1 (head_ne h1) (by lia) ?V0 (fun s' k => ⟨m1'.at fun o e => k.keep _ _ e, Nat.zero_le _, by simp; lia⟩)
      (fun Y i s2 s3 hY j k => ⟨j.1.at fun o e => k B o (hY B (.inr (.inr rfl))) e, j.2⟩) (fun i s2 s3 j k => ⟨j.1.at fun o e => k.keep B o hBF e, j.2⟩)
      (fun i s2 j => ?hN) (fun G' i r s2 hr' hG hG2 kx S2 j => ?turn) (fun i s2 hr' S2 j => ?done))) (fun f s3 hf => ?_) fun _ _ e => e)
  case V0 =>
    intro p hp'
    simp only [List.mem_cons, List.not_mem_nil, or_false] at hp'
    rcases hp' with rfl | rfl <;> with_unfolding_all rfl
  case hN =>
    have := take_sum_le hp i j.2.1
    have := j.2.2
    lia
  case done =>
    refine ⟨rfl, _, i, fun b e => e, hGB, S2, j.1, j.2.1, j.2.2, .inl ?_⟩
    have hin : i < n0 := by have := take_sum_le hp i j.2.1; have := j.2.2; lia
    have : t[i]? = none := by rw [← ht, told_get h1 hin]; exact hr'
    have := List.getElem?_eq_none_iff.mp this
    have := j.2.1
    lia
  case turn =>
    obtain ⟨m2, hil, his⟩ := j
    have hin : i < n0 := by have := take_sum_le hp i hil; lia
    have hti : t[i]? = some r := by rw [← ht, told_get h1 hin]; exact hr'
    have hsucc := take_sum_succ hti
    have hlt : i < t.length := (List.getElem?_eq_some_iff.mp hti).1
    have hend := ev_ml (ev_has (prog := prog) (w := w) (A := A') (pos := ⟨63, 11, 63, 15⟩) (S2.has (x := "ends") (d := .addr B) (by with_unfolding_all rfl))) m2
    have hlast : (iL (esOf t n0 i)).getLast? = some (.int ((n0 - (t.take i).sum : Nat) : Int)) := by
      rw [List.getLast?_eq_getElem?, iL_len, esOf_len, iL_get, Nat.add_sub_cancel, esOf_get (Nat.le_refl _)]; rfl
    refine wpAny_execs_cons (st_if (b := decide (n0 - (t.take i).sum ≤ r)) (tr_cast (tr_cmp' (P := All) (ev_last (ev_ml (ev_has (S2.has (x := "ends") (d := .addr B) (by with_unfolding_all rfl))) m2) (ev_neg (ev_int _ _ _)) hlast) (ev_has (S2.has (x := "size") (d := .int r) (by with_unfolding_all rfl)).all) (op_le _ _)) ?_) (fun s3 k3 hb => ?_) fun s3 k3 hb => ?_)
    · rw [Bool.eq_iff_iff]; simp only [decide_eq_true_eq]; lia
    · have hb' := of_decide_eq_true hb
      refine wpAny_execs_cons (wpAny_Break ?_)
      refine ⟨rfl, G', i, fun b e => hG b e, hG2 B m1.dom hGB, ?_, m2.at fun o e => k3.keep _ _ e, hil, his, .inr (by lia)⟩
      refine ((S2.kp k3).base kx).weak ?_
      intro p hp'
      simp only [List.mem_cons, List.not_mem_nil, or_false] at hp'
      rcases hp' with rfl | rfl <;> with_unfolding_all rfl
    · have hb' := of_decide_eq_false hb
      have S3 := S2.kp k3
      have m3 : ML s3.heap B (iL (esOf t n0 i)) := m2.at fun o e => k3.keep _ _ e
      refine wpAny_execs_nil (wpAny_execs_cons (st_append (B := B) (ds := iL (esOf t n0 i)) (d := .int ((n0 - (t.take (i + 1)).sum : Nat) : Int)) S3 (by with_unfolding_all rfl) (.inr rfl) hBF m3 (ev_cast (ev_bin (ev_last (ev_ml (ev_has (S3.has (x := "ends") (d := .addr B) (by with_unfolding_all rfl))) m3) (ev_neg (ev_int _ _ _)) hlast) (ev_has (S3.has (x := "size") (d := .int r) (by with_unfolding_all rfl)).all) (op_sub _ _)) (by congr 1; lia)) rfl (by rw [iL_len, esOf_len]; lia) fun s4 k4 m4 S4 => wpAny_execs_nil ⟨S4.weak ?_, ?_, by lia, by lia⟩))
      · intro p hp'
        simp only [List.mem_cons, List.not_mem_nil, or_false] at hp'
        rcases hp' with rfl | rfl <;> with_unfolding_all rfl
      · have : iL (esOf t n0 (i + 1)) = iL (esOf t n0 i) ++ [.int ((n0 - (t.take (i + 1)).sum : Nat) : Int)] := by rw [esOf_succ]; simp [iL]
        rw [this]; exact m4
  · obtain ⟨rfl, G', i, hG', hG'B, S3, m3, hil, his, hend⟩ := hf
    have hin : i < n0 := by have := take_sum_le hp i hil; lia
    -- ends.append(0)
    refine wpN_execs_cons (wpN_of (st_append (B := B) (ds := iL (esOf t n0 i)) (d := .int ((0 : Nat) : Int)) S3 (by with_unfolding_all rfl) (.inr rfl) hBF m3 (ev_int 0 _ _) rfl (by rw [iL_len, esOf_len]; lia) fun s4 k4 m4 S4 => ?_))
    have m4' : ML s4.heap B (iL (esOf t n0 i ++ [0])) := by
      have : iL (esOf t n0 i ++ [0]) = iL (esOf t n0 i) ++ [.int ((0 : Nat) : Int)] := by simp [iL]
      rw [this]; exact m4
    have S5 := S4.settle (x := "ends") (X := fun _ => False) (by with_unfolding_all rfl) m4' (none_of_kp (Kp.refl _) hBa) hG'B hBX
    have hEl : (esOf t n0 i ++ [0]).length = i + 2 := by simp [esOf_len]
    have hEle : ∀ k, (esOf t n0 i ++ [0]).getD k 0 ≤ n0 := by
      intro k
      rw [List.getD_eq_getElem?_getD]
      cases q : (esOf t n0 i ++ [0])[k]? with
      | none => exact Nat.zero_le _
      | some z =>
        have hz := List.mem_of_getElem? q
        rcases List.mem_append.mp hz with hz | hz
        · unfold esOf at hz
          obtain ⟨j, _, rfl⟩ := List.mem_map.mp hz
          show n0 - _ ≤ n0
          lia
        · rw [List.mem_singleton.mp hz]; exact Nat.zero_le _
    have heq := turned_eq hp hn hil his hend
    have hdec : ∀ k, k < i + 1 → (esOf t n0 i ++ [0]).getD (k + 1) 0 < (esOf t n0 i ++ [0]).getD k 0 := by
      have hd : (esOf t n0 i ++ [0]).Pairwise (fun a b => b < a) := by
        rw [List.pairwise_append]
        refine ⟨esOf_desc hp hil his, List.pairwise_singleton _ _, fun z hz y hy => ?_⟩
        rw [List.mem_singleton.mp hy]
        unfold esOf at hz
        obtain ⟨j, hj, rfl⟩ := List.mem_map.mp hz
        have hj' := List.mem_range.mp hj
        have : (t.take j).sum ≤ (t.take i).sum := by
          rcases Nat.lt_or_ge j i with q | q
          · exact Nat.le_of_lt (take_sum_lt hp q hil)
          · rw [show j = i by lia]; exact Nat.le_refl _
        lia
      intro k hk
      rw [List.getD_eq_getElem?_getD, List.getD_eq_getElem?_getD, List.getElem?_eq_getElem (by lia), List.getElem?_eq_getElem (by lia)]
      exact List.pairwise_iff_getElem.mp hd k (k + 1) (by lia) (by lia) (by lia)
    generalize hE : esOf t n0 i ++ [0] = es at *
    let piece : Nat → List UInt8 := fun k => (x.drop (es.getD (k + 1) 0)).take (es.getD k 0 - es.getD (k + 1) 0)
    have hpl : ∀ k, k < i + 1 → 1 ≤ (piece k).length ∧ (piece k).length ≤ 20 := by
      intro k hk
      have := hdec k hk
      have := hEle k
      simp only [piece, List.length_take, List.length_drop]
      lia
    have T4 := T.sub (hs0.trans S5.keep)
    have hends := S5.has (x := "ends") (d := .list (iL es)) (by with_unfolding_all rfl)
    have htext := S5.has (x := "text") (d := .bytes x) (by with_unfolding_all rfl)
    refine wpN_execs_cons (wpN_of (st_assign_comp (ds := (List.range (i + 1)).map fun (k : Nat) => D.int k) (d := .range 0 ((i + 1 : Nat) : Int) 1) S5 scOk_of (fun _ => true) (fun k => .bytes (piece k))
      (ev_cast (ev_range1 (T4.blt (x := "range") boot_range).lk (ev_bin (ev_len_list (T4.blt (x := "len") boot_len).lk (ev_has hends) (iL_len es) (by lia)) (ev_int 1 _ _) (op_sub _ _))) (by congr 1; lia)) (fun P s v r => src_range1 oA'.handled (by lia) r) (by simp; lia) (fun K C h' k di v hk lk hdi rv => ⟨trL_nil, fun _ => ?body⟩) fun s6 k6 S6 => ?_))
    case body =>
      obtain ⟨hk1, rfl⟩ := range_at hdi
      have hends' := (hends.sub hk).free (C := C) K
      have htext' := (htext.sub hk).free (C := C) K
      have g1 : (iL es)[k + 1]? = some (.int (es.getD (k + 1) 0 : Nat)) := by
        rw [iL_get, List.getElem?_eq_getElem (by lia)]; simp [show k + 1 < es.length by lia]
      have g0 : (iL es)[k]? = some (.int (es.getD k 0 : Nat)) := by
        rw [iL_get, List.getElem?_eq_getElem (by lia)]; simp [show k < es.length by lia]
      refine ev_cast (ev_slice_bytes (ev_has htext') (.some ((ev_nth (ev_has hends'.all) (ev_bin (ev_name lk rv) (ev_int 1 _ _) (op_add _ _)) (i := k + 1) g1 (by lia)).flat rfl)) (.some ((ev_nth (ev_has hends'.all) (ev_name lk rv) (i := k) g0 (by lia)).flat rfl)) (by lia)) ?_
      rw [pick_run' _ _ _ (by lia) (by lia)]
      simp only [Int.toNat_natCast, piece]
    -- the answer
    have hpc : (List.map (fun k => D.bytes (piece k)) (List.filter (fun _ => true) (List.range ((List.range (i + 1)).map fun (k : Nat) => D.int k).length))) = ((List.range (i + 1)).map piece).map D.bytes := by
      rw [filter_all]; simp
    rw [hpc] at S6
    have T6 := T.sub (hs0.trans S6.keep)
    obtain ⟨ab, cb, gb, Fb⟩ := T6.at (i := 0)
    obtain ⟨ob, pmb, docb, hob, hfb⟩ := Fb.obj
    have hpieces := S6.has (x := "pieces") (d := .list (((List.range (i + 1)).map piece).map D.bytes)) (by with_unfolding_all rfl)
    let parts : List (List UInt8) := (((List.range (i + 1)).map piece).reverse).map List.reverse
    have hpfl : parts.flatten = mir x (sizesOf row n0) := by
      have : sizesOf row n0 = diffs (edgesOf t n0) := by rw [sizesOf, ht]
      rw [this]; exact heq
    have hplen : parts.length = i + 1 := by simp [parts]
    refine wpN_execs_cons (stN_return S6 k0 hG' (evN_cast (evN_join (parts := parts) (evN_cast (evN_comp (d := .list ((((List.range (i + 1)).map piece).reverse).map D.bytes)) (ds := (((List.range (i + 1)).map piece).reverse).map D.bytes) scOk_of (fun k => .bytes ((((List.range (i + 1)).map piece).reverse).getD k []).reverse)
      (ev_cast (ev_slice_list (ev_has hpieces) .none .none (.some (ev_neg (ev_int _ _ _))) (by decide) (by simp; lia)) (by rw [pick_rev]; simp)) (fun P s v r => src_list oA'.handled r) (fun b e => e.2) (by simp; lia) (fun K C h' k di v hk lk hdi rv => ?body2)) ?cast) (by lia) (by lia) ?flen) ?fin) fun v s7 r => r)
    case flen => rw [hpfl]; unfold mir; have := mirT_len x (sizesOf row n0) [] (Nat.zero_le _); lia
    case fin => rw [hpfl]
    case cast =>
      simp only [parts, List.length_map, List.length_reverse, List.length_range]
      congr 1
      apply List.ext_getElem
      · simp
      · intro k h1' h2'
        have hk : k < i + 1 := by simpa using h1'
        simp only [List.getElem_map, List.getElem_range]
        rw [List.getD_eq_getElem?_getD, List.getElem?_eq_getElem (by simpa using hk)]
        rfl
    case body2 =>
      have hk1 : k < i + 1 := by
        have := (List.getElem?_eq_some_iff.mp hdi).1; simpa using this
      generalize hps : ((List.range (i + 1)).map piece).reverse = ps at *
      have hpsl : ps.length = i + 1 := by rw [← hps]; simp
      have hpk : 1 ≤ (ps.getD k []).length ∧ (ps.getD k []).length ≤ 20 := by
        have hmem : ps.getD k [] ∈ ps := by
          rw [List.getD_eq_getElem?_getD, List.getElem?_eq_getElem (by lia)]; exact List.getElem_mem _
        rw [← hps] at hmem
        obtain ⟨j, hj, e⟩ := List.mem_map.mp (List.mem_reverse.mp hmem)
        rw [hps] at e
        rw [← e]
        exact hpl j (List.mem_range.mp hj)
      have hdv : di = .bytes (ps.getD k []) := by
        rw [List.getElem?_map, List.getElem?_eq_getElem (by lia)] at hdi
        rw [List.getD_eq_getElem?_getD, List.getElem?_eq_getElem (by lia)]
        exact (Option.some.inj hdi).symm
      subst hdv
      generalize hpcd : ps.getD k [] = pc at *
      have lb := ScOk.glob (C := C) K (by with_unfolding_all rfl) ((T6.sub hk).glob (env := envOfC (theDef 7).name (theDef 7).scope L a cd) gb) (by decide)
      have llen := ScOk.glob (C := C) K (by with_unfolding_all rfl) ((T6.sub hk).blt (x := "len") (env := envOfC (theDef 7).name (theDef 7).scope L a cd) boot_len) (by decide)
      refine evN_cast (evN_call_fn lb (hk _ _ hob) hfb (evlN_cons (ev_name lk (rv.flat rfl)).n (evlN_one (ev_len_bytes llen (ev_name lk (rv.flat rfl)) rfl (by lia)).n)) (ctN_byteswap oA' (T6.sub hk) (Fb.sub hk) (bsrc_bytes _ pc (by lia)) pc.length 1 hpk.1 (by lia) (by lia) (by lia))) ?_
      rw [laid_rev hpk.1]
end
end Mine
end
noncomputable section
open PySem PySem.W PyProof.Rows
open PySem.Sem (wp)
set_option Elab.async false
set_option autoImplicit false
set_option linter.unusedVariables false
set_option linter.unusedSimpArgs false
set_option maxRecDepth 4000
namespace Mine
/-! Exceptions: what a frame that is left does to the heap. -/
def FrS (l : List Env) (b : Addr) : Prop := b ∈ l.filterMap (·.frame)
/-- Kept, but for the frames of l, of which the slots alone may change, and for the objects at X. -/
structure Kf (l : List Env) (X : Addr → Prop) (s s' : Shared) : Prop where
  keep : ∀ b o, ¬ FrS l b → ¬ X b → s.heap.get? b = some o → s'.heap.get? b = some o
  slots : ∀ b o, FrS l b → ¬ X b → s.heap.get? b = some o → ∃ sl, s'.heap.get? b = some { o with slots := sl }
  live : ∀ b, s'.heap.get? b = none → s.heap.get? b = none
  os : s'.os = s.os
  gens : ∀ (g : Nat) (x : GenState), s.gens[g]? = some x → s'.gens[g]? = some x
  bare : AllBare s.gens → AllBare s'.gens
theorem Kp.kf {l : List Env} {X : Addr → Prop} {s s' : Shared} (k : Kp s s') : Kf l X s s' :=
  ⟨fun b o _ _ e => k.keep b o e, fun b o _ _ e => ⟨o.slots, k.keep b o e⟩, fun b e => none_of_kp k e, k.os, k.gens, k.bare⟩
theorem Kf.trans {l : List Env} {X : Addr → Prop} {s s' s'' : Shared} (x : Kf l X s s') (y : Kf l X s' s'') : Kf l X s s'' :=
  ⟨fun b o n n2 e => y.keep b o n n2 (x.keep b o n n2 e), fun b o n n2 e => by
    obtain ⟨sl, e1⟩ := x.slots b o n n2 e
    obtain ⟨sl2, e2⟩ := y.slots b _ n n2 e1
    exact ⟨sl2, e2⟩, fun b e => x.live b (y.live b e), y.os.trans x.os, fun g z e => y.gens g z (x.gens g z e), fun e => y.bare (x.bare e)⟩
theorem Kf.mono {l : List Env} {X Y : Addr → Prop} {s s' : Shared} (x : Kf l X s s') (h : ∀ b, X b → Y b) : Kf l Y s s' :=
  ⟨fun b o n n2 e => x.keep b o n (fun q => n2 (h b q)) e, fun b o n n2 e => x.slots b o n (fun q => n2 (h b q)) e, x.live, x.os, x.gens, x.bare⟩
/-- What may change is new: nothing old is in it. -/
theorem Kf.fresh {l : List Env} {X : Addr → Prop} {s s' : Shared} (x : Kf l X s s') (h : ∀ b, X b → s.heap.get? b = none) : Kf l (fun _ => False) s s' :=
  ⟨fun b o n _ e => x.keep b o n (fun q => by rw [h b q] at e; cases e) e, fun b o n _ e => x.slots b o n (fun q => by rw [h b q] at e; cases e) e, x.live, x.os, x.gens, x.bare⟩
theorem Kf.frames {l l' : List Env} {X : Addr → Prop} {s s' : Shared} {base : Heap} (x : Kf l X s s') (hX : ∀ b, FrS l' b → ¬ X b) (h : s.heap.FunFrames base l') : s'.heap.FunFrames base l' := by
  induction l' with
  | nil => trivial
  | cons env rest ih =>
    obtain ⟨hk, ⟨L, o, hf, hn, ho, hd⟩, hr⟩ := h
    have hL : FrS (env :: rest) L := by unfold FrS; rw [List.filterMap_cons, hf]; exact List.mem_cons_self
    refine ⟨hk, ⟨L, ?_⟩, ih (fun b hb => hX b ?_) hr⟩
    · by_cases q : FrS l L
      · obtain ⟨sl, e⟩ := x.slots L o q (hX L hL) ho
        exact ⟨_, hf, hn, e, hd⟩
      · exact ⟨o, hf, hn, x.keep L o q (hX L hL) ho, hd⟩
    · unfold FrS at hb ⊢; rw [List.filterMap_cons, hf]; exact List.mem_cons_of_mem _ hb
theorem Kf.same {l : List Env} {X : Addr → Prop} {s : Shared} {h : Heap} {tk : Nat} {a : Addr} {o : Obj} (hs : Heap.SameBut a s.heap h) (ho : h.get? a = some o) (hx : X a) : Kf l X s { s with heap := h, toks := tk } :=
  ⟨fun b o' _ n e => (hs.2 b fun q => n (q ▸ hx)).trans e, fun b o' _ n e => ⟨o'.slots, (hs.2 b fun q => n (q ▸ hx)).trans e⟩, live_same hs ho, rfl, fun _ _ e => e, fun e => e⟩
theorem Kf.slotsOnly {l : List Env} {X : Addr → Prop} {s : Shared} {h' : Heap} (x : Heap.SlotsOnly (l.filterMap (·.frame)) s.heap h') : Kf l X s { s with heap := h' } := by
  refine ⟨fun b o n _ e => (x.2.1 b n).trans e, fun b o _ _ e => x.2.2 b o e, fun b e => ?_, rfl, fun _ _ e => e, fun e => e⟩
  cases q : s.heap.get? b with
  | none => rfl
  | some o =>
    obtain ⟨sl, e2⟩ := x.2.2 b o q
    have e' : h'.get? b = none := e
    rw [e2] at e'
    cases e'
/-- The exception e, of class cls, with a head of a trace that is in no frame's hands. -/
def Tr3 (h : Heap) (e T : Addr) (cls : String) (x a0 : Value) : Prop :=
  ∃ oe vs oT ts, h.get? e = some oe ∧ oe.cls = .type cls ∧ oe.data = .fields vs ∧ vs[1]? = some (.ref T) ∧ T ≠ e ∧ h.get? T = some oT ∧ oT.data = .fields ts ∧ ts[3]? = some x ∧ vs[0]? = some a0
theorem Tr3.not_frame {h base : Heap} {e T : Addr} {cls : String} {x a0 : Value} {l : List Env} (t : Tr3 h e T cls x a0) (F : h.FunFrames base l) : ¬ FrS l e ∧ ¬ FrS l T := by
  obtain ⟨oe, vs, oT, ts, he, _, hd, _, _, hT, hdT, _, _⟩ := t
  refine ⟨fun q => ?_, fun q => ?_⟩
  · obtain ⟨_, o, ho, hnf⟩ := F.mem q
    rw [he] at ho; cases ho; exact hnf vs hd
  · obtain ⟨_, o, ho, hnf⟩ := F.mem q
    rw [hT] at ho; cases ho; exact hnf ts hdT
section
variable {M : Model} {A : Around} {E : Value → Shared → Prop} {s : Shared}
/-- A new entry of the trace. -/
theorem newEntryS {base : Heap} {env : Env} {outer : List Env} {L e : Addr} {oe : Obj} {vs : Array Value} {cls : String} {head : Value} {hadNext : Bool} {Q : Unit → Shared → Prop}
    (hfr : A.frames = some (env :: outer)) (hl : s.heap.FunFrames base (env :: outer)) (hf : env.frame = some L)
    (he : s.heap.get? e = some oe) (hc : oe.cls = .type cls) (hd : oe.data = .fields vs) (hsz : 1 < vs.size) {a0 : Value} (ha0 : vs[0]? = some a0)
    (h : ∀ s' T, Kf (env :: outer) (· = e) s s' → s.heap.get? T = none → Tr3 s'.heap e T cls (rawInt L) a0 → Q () s') :
    wpAny M A (do let a ← frameOf env; let pl ← entryPlaceOf L hadNext; let b ← EntryCells.newEntry head a .none (rawInt L) .none pl; setField (.ref e) 1 b) Q E s := by
  have hene : ¬ FrS (env :: outer) e := fun hm => by
    obtain ⟨_, o, ho, hnf⟩ := hl.mem hm
    rw [he] at ho; cases ho; exact hnf vs hd
  refine wpAny_bind (wpAny_frameOf_fun hfr hl hf fun h₁ hs₁ => ?_)
  have k1 : Kf (env :: outer) (· = e) s { s with heap := h₁ } := Kf.slotsOnly hs₁
  refine wpAny_bind (wpAny_entryPlaceOf fun pl hpl => ?_)
  unfold EntryCells.newEntry newFields
  refine wpAny_bind (wpAny_newObj_type ?_ (hpl.sizeOk5 _ _ _ _ _))
  have he₁ : h₁.get? e = some oe := (hs₁.2.1 e hene).trans he
  generalize hTn : ({ cls := .type "traceback", dict := none, data := .fields ([head, .ref L, .none, rawInt L, .none] ++ (if pl.isEmpty then List.replicate 6 Value.none else pl)).toArray } : Obj) = tb
  have he₂ := Heap.get?_push_of_some (h := h₁) tb he₁
  have hTe : h₁.objs.size ≠ e := Nat.ne_of_gt (Heap.lt_size he₁)
  have k2 : Kf (env :: outer) (· = e) { s with heap := h₁ } { s with heap := h₁.push tb } := Kp.kf (Kp.heap (s := { s with heap := h₁ }) (t := s.toks) (sub_push _ _))
  refine wpAny_setField he₂ hd hsz ?_
  have hd₃ := Obj.data_mapFields hd (·.setIfInBounds 1 (Value.ref h₁.objs.size))
  have he₃ := Heap.get?_update_self (Obj.mapFields (·.setIfInBounds 1 (Value.ref h₁.objs.size))) he₂ (Obj.isFreed_of_fields hd₃)
  have hTget : (h₁.push tb).get? h₁.objs.size = some tb := Heap.get?_push_size h₁ (by rw [← hTn]; rfl)
  have hT₃ := (Heap.get?_update_other (h₁.push tb) (Obj.mapFields (·.setIfInBounds 1 (Value.ref h₁.objs.size))) (Ne.symm hTe)).trans hTget
  refine h { s with heap := (h₁.push tb).update e (Obj.mapFields (·.setIfInBounds 1 (Value.ref h₁.objs.size))) } h₁.objs.size ((k1.trans k2).trans (Kf.same (s := { s with heap := h₁.push tb }) (tk := s.toks) (Heap.SameBut.update ..) he₃ rfl)) ?_ ⟨_, _, _, ([head, .ref L, .none, rawInt L, .none] ++ (if pl.isEmpty then List.replicate 6 Value.none else pl)).toArray, he₃, (Obj.cls_mapFields _ _).trans hc, hd₃, by simp [hsz], hTe, hT₃, by rw [← hTn], by simp, by simpa [Array.getElem?_setIfInBounds] using ha0⟩
  exact k1.live _ (get_size _)
end
theorem Kf.pop {l l' : List Env} {X : Addr → Prop} {s s' : Shared} (x : Kf l X s s') (h : ∀ b, FrS l b → FrS l' b ∨ s.heap.get? b = none) : Kf l' X s s' :=
  ⟨fun b o n n2 e => by
    by_cases q : FrS l b
    · rcases h b q with z | z
      · exact absurd z n
      · rw [z] at e; cases e
    · exact x.keep b o q n2 e, fun b o n n2 e => by
    by_cases q : FrS l b
    · exact x.slots b o q n2 e
    · exact ⟨o.slots, x.keep b o q n2 e⟩, x.live, x.os, x.gens, x.bare⟩
/-- What the exception was made of. -/
def Made (h : Heap) (a0 : Value) (its : Option (List Value)) : Prop := ∀ l, its = some l → ∃ t0, a0 = .ref t0 ∧ h.TupAt t0 l
theorem Kf.tup {l : List Env} {X : Addr → Prop} {s s' : Shared} {t : Addr} {vs : List Value} (k : Kf l X s s') (hX : ¬ X t) (x : s.heap.TupAt t vs) : s'.heap.TupAt t vs := by
  obtain ⟨o, n, ho, hc, hd⟩ := x
  by_cases q : FrS l t
  · obtain ⟨sl, e⟩ := k.slots t o q hX ho
    exact ⟨_, n, e, hc, hd⟩
  · exact ⟨o, n, k.keep t o q hX ho, hc, hd⟩
theorem Made.on {l : List Env} {X : Addr → Prop} {s s' : Shared} {a0 : Value} {its : Option (List Value)} (m : Made s.heap a0 its) (k : Kf l X s s') (hX : ∀ b, X b → ∃ o vs, s.heap.get? b = some o ∧ o.data = .fields vs) : Made s'.heap a0 its := fun l' e => by
  obtain ⟨t0, e1, x⟩ := m l' e
  refine ⟨t0, e1, k.tup (fun q => ?_) x⟩
  obtain ⟨o, vs, ho, hd⟩ := hX t0 q
  obtain ⟨o2, n, ho2, _, hd2⟩ := x
  rw [ho] at ho2; cases ho2
  rw [hd] at hd2; cases hd2
/-- An exception on its way, seen from s0: all else is kept but for the frames' slots. -/
structure Fl (l : List Env) (cls : String) (s0 s : Shared) (e : Addr) (x : Value) (its : Option (List Value)) : Prop where
  kf : Kf l (fun _ => False) s0 s
  new : s0.heap.get? e = none
  tr : ∃ T a0, s0.heap.get? T = none ∧ Tr3 s.heap e T cls x a0 ∧ Made s.heap a0 its
section
variable {l l' : List Env} {cls : String} {s0 s1 s : Shared} {e : Addr} {x : Value} {its : Option (List Value)}
theorem Fl.pop (f : Fl l cls s0 s e x its) (h : ∀ b, FrS l b → FrS l' b ∨ s0.heap.get? b = none) : Fl l' cls s0 s e x its := ⟨f.kf.pop h, f.new, f.tr⟩
theorem Fl.from (f : Fl l cls s1 s e x its) (k : Kf l (fun _ => False) s0 s1) : Fl l cls s0 s e x its :=
  ⟨k.trans f.kf, k.live e f.new, let ⟨T, a0, h1, h2⟩ := f.tr; ⟨T, a0, k.live T h1, h2⟩⟩
theorem Fl.typeIs (f : Fl l cls s0 s e x its) : s.TypeIs (.ref e) cls := let ⟨_, _, _, ⟨oe, _, _, _, he, hc, _⟩, _⟩ := f.tr; ⟨oe, he, hc⟩
end
section
variable {M : Model} {A : Around} {E : Value → Shared → Prop} {s0 s : Shared} {its : Option (List Value)}
theorem fl_note_new {base : Heap} {env : Env} {outer : List Env} {L e : Addr} {cls : String} {Q : Unit → Shared → Prop}
    (hfr : A.frames = some (env :: outer)) (hl : s0.heap.FunFrames base (env :: outer)) (hf : env.frame = some L) (k : Kp s0 s) (hnew : s0.heap.get? e = none)
    {ob : Obj} {t : Value} (he : s.heap.get? e = some ob) (hcls : ob.cls = .type cls) (hd : ob.data = .fields #[t, .none, .none, .none, .bool false, .none]) (hm : Made s.heap t its)
    (h : ∀ s', Fl (env :: outer) cls s0 s' e (rawInt L) its → Q () s') : wpAny M A (noteFrame (.ref e) env) Q E s := by
  have hl1 : s.heap.FunFrames base (env :: outer) := (Kp.kf (l := []) (X := fun _ => False) k).frames (fun _ _ q => q) hl
  unfold noteFrame
  simp only [hf]
  refine wpAny_bind (wpAny_field he hd (x := .none) rfl ?_)
  rw [if_neg (by decide)]
  refine newEntryS hfr hl1 hf he hcls hd (by simp) (a0 := t) rfl fun s' T kf hT tr => h s' ⟨?_, hnew, T, t, none_of_kp k hT, tr, hm.on kf fun b hb => ?_⟩
  · exact (Kp.kf k).trans (kf.mono fun b e => e) |>.fresh (fun b hb => by have hb' : b = e := hb; rw [hb']; exact hnew)
  · have hb' : b = e := hb
    rw [hb']; exact ⟨ob, _, he, hd⟩
theorem fl_note_next {base : Heap} {env : Env} {outer : List Env} {L e : Addr} {cls : String} {Q : Unit → Shared → Prop}
    (hfr : A.frames = some (env :: outer)) (hl : s0.heap.FunFrames base (env :: outer)) (hf : env.frame = some L) (fl : Fl (env :: outer) cls s0 s e .none its)
    (h : ∀ s', Fl (env :: outer) cls s0 s' e (rawInt L) its → Q () s') : wpAny M A (noteFrame (.ref e) env) Q E s := by
  obtain ⟨T, a0, hT, tr, hm⟩ := fl.tr
  have hl1 : s.heap.FunFrames base (env :: outer) := fl.kf.frames (fun _ _ q => q) hl
  obtain ⟨nfe, nfT⟩ := tr.not_frame hl1
  obtain ⟨oe, vs, oT, ts, he, hc, hd, h1, hTe, hoT, hdT, h3, h0⟩ := tr
  have hsz3 := (Array.getElem?_eq_some_iff.mp h3).1
  unfold noteFrame
  simp only [hf]
  refine wpAny_bind (wpAny_field he hd h1 ?_)
  rw [if_pos (show (Value.ref T != Value.none) = true from by simp)]
  refine wpAny_bind (wpAny_field hoT hdT h3 ?_)
  rw [if_neg (show ¬ ((Value.none == rawInt L) = true) from by simp [rawInt])]
  refine wpAny_bind (wpAny_setField hoT hdT hsz3 ?_)
  have hself := Heap.get?_update_self (Obj.mapFields (·.setIfInBounds 3 Value.none)) hoT (Obj.isFreed_of_fields (Obj.data_mapFields hdT _))
  have kT : Kf (env :: outer) (fun b => b = T) s { s with heap := s.heap.update T (Obj.mapFields (·.setIfInBounds 3 Value.none)) } := Kf.same (tk := s.toks) (Heap.SameBut.update ..) hself rfl
  have k1 : Kf (env :: outer) (fun b => b = e ∨ b = T) s0 { s with heap := s.heap.update T (Obj.mapFields (·.setIfInBounds 3 Value.none)) } :=
    (fl.kf.mono fun _ q => q.elim).trans (kT.mono fun b q => .inr q)
  have hm1 : Made (s.heap.update T (Obj.mapFields (·.setIfInBounds 3 Value.none))) a0 its := hm.on kT fun b hb => by
    have hb' : b = T := hb
    rw [hb']; exact ⟨oT, ts, hoT, hdT⟩
  have hl2 := k1.frames (fun b hb q => by
    rcases q with q | q
    · exact nfe (q ▸ hb)
    · exact nfT (q ▸ hb)) hl
  have he1 := (Heap.get?_update_other s.heap (Obj.mapFields (·.setIfInBounds 3 Value.none)) hTe).trans he
  refine newEntryS hfr hl2 hf he1 hc hd (Array.getElem?_eq_some_iff.mp h1).1 h0 fun s' T' kf hT' tr' => h s' ⟨?_, fl.new, T', a0, k1.live _ hT', tr', hm1.on kf fun b hb => ?_⟩
  · exact (k1.trans (kf.mono fun b e => .inl e)).fresh fun b hb => by
      rcases hb with q | q
      · rw [q]; exact fl.new
      · rw [q]; exact hT
  · have hb' : b = e := hb
    rw [hb']; exact ⟨oe, vs, he1, hd⟩
theorem fl_note_same {env : Env} {l : List Env} {L e : Addr} {cls : String} {Q : Unit → Shared → Prop} (hf : env.frame = some L) (fl : Fl l cls s0 s e (rawInt L) its) (h : Q () s) : wpAny M A (noteFrame (.ref e) env) Q E s := by
  obtain ⟨T, a0, hT, ⟨oe, vs, oT, ts, he, hc, hd, h1, hTe, hoT, hdT, h3, h0⟩, _⟩ := fl.tr
  exact wpAny_noteFrame_inFlight hf he hd h1 hoT hdT h3 h
theorem fl_flight {l : List Env} {e : Addr} {cls : String} {x : Value} {f : Option Addr} {Q : Unit → Shared → Prop} (fl : Fl l cls s0 s e x its)
    (h : ∀ s', Fl l cls s0 s' e (f.elim .none fun f => rawInt f) its → Q () s') : wpAny M A (setFlight (.ref e) f) Q E s := by
  obtain ⟨T, a0, hT, ⟨oe, vs, oT, ts, he, hc, hd, h1, hTe, hoT, hdT, h3, h0⟩, hm⟩ := fl.tr
  have hsz3 := (Array.getElem?_eq_some_iff.mp h3).1
  unfold setFlight
  refine wpAny_bind (wpAny_field he hd h1 ?_)
  rw [if_pos (show (Value.ref T != Value.none) = true from by simp)]
  refine wpAny_setField hoT hdT hsz3 ?_
  have hself := Heap.get?_update_self (Obj.mapFields (·.setIfInBounds 3 (f.elim Value.none fun f => rawInt f))) hoT (Obj.isFreed_of_fields (Obj.data_mapFields hdT _))
  have kT : Kf l (fun b => b = T) s { s with heap := s.heap.update T (Obj.mapFields (·.setIfInBounds 3 (f.elim Value.none fun f => rawInt f))) } := Kf.same (tk := s.toks) (Heap.SameBut.update ..) hself rfl
  refine h _ ⟨((fl.kf.mono fun _ q => q.elim).trans kT).fresh fun b hb => by
    have hb' : b = T := hb
    rw [hb']; exact hT, fl.new, T, a0, hT, ⟨_, _, _, _, (Heap.get?_update_other _ _ hTe).trans he, hc, hd, h1, hTe, hself, Obj.data_mapFields hdT _, by simp [hsz3], h0⟩, hm.on kT fun b hb => by
    have hb' : b = T := hb
    rw [hb']; exact ⟨oT, ts, hoT, hdT⟩⟩
theorem fl_back {l : List Env} {e : Addr} {cls : String} {x : Value} {f : Option Addr} {what : String} {Q : Unit → Shared → Prop} (fl : Fl l cls s0 s e x its)
    (h : ∀ s', Fl l cls s0 s' e (f.elim .none fun f => rawInt f) its → Q () s') : wpAny M A (do
        if (← field (.ref e) 1) == Value.none then unsupported what
        setFlight (.ref e) f) Q E s := by
  obtain ⟨T, a0, hT, ⟨oe, vs, oT, ts, he, hc, hd, h1, hTe, hoT, hdT, h3, h0⟩, hm⟩ := id fl.tr
  refine wpAny_bind (wpAny_field he hd h1 ?_)
  rw [if_neg (show ¬ ((Value.ref T == Value.none) = true) from by simp)]
  first
    | exact wpAny_bind (wpAny_pure (fl_flight fl h))
    | exact fl_flight fl h
theorem fl_leave_new {base : Heap} {env : Env} {outer : List Env} {L e : Addr} {cls : String} {Q : Unit → Shared → Prop}
    (hfr : A.frames = some (env :: outer)) (hl : s0.heap.FunFrames base (env :: outer)) (hf : env.frame = some L) (k : Kp s0 s) (hx : Heap.NewExc s0.heap s.heap e cls)
    (h : ∀ s', Fl (env :: outer) cls s0 s' e .none none → Q () s') : wpAny M A (leaving env (.ref e)) Q E s := by
  obtain ⟨ob, tp, he, hcls, hd⟩ := hx.there
  unfold leaving
  exact wpAny_bind (fl_note_new hfr hl hf k hx.new he hcls hd (its := none) (fun l e => by cases e) fun s1 f1 => fl_flight f1 h)
end
end Mine
end
noncomputable section
open PySem PySem.W PyProof.Rows
open PySem.Sem (wp)
set_option Elab.async false
set_option autoImplicit false
set_option linter.unusedVariables false
set_option linter.unusedSimpArgs false
set_option maxRecDepth 100000
namespace Mine
section
variable {prog : Program} {w : World} {A : Around} {h : Heap} {mg mb : Str → Option Value}
theorem notedBy_mono {A : Around} {env : Env} {E E' : Value → Shared → Prop} (hE : ∀ e s, E e s → E' e s) {e : Value} {s : Shared} (x : notedBy (model prog w) A env E e s) : notedBy (model prog w) A env E' e s :=
  wpAny_mono x (fun _ _ q => hE _ _ q) hE
theorem cameBackBy_mono {A : Around} {env : Env} {E E' : Value → Shared → Prop} (hE : ∀ e s, E e s → E' e s) {e : Value} {s : Shared} (x : cameBackBy (model prog w) A env E e s) : cameBackBy (model prog w) A env E' e s :=
  wpAny_mono x (fun _ _ q => hE _ _ q) hE
theorem loopE_mono {A : Around} {env : Env} {E E' : Value → Shared → Prop} (hE : ∀ e s, E e s → E' e s) {e : Value} {s : Shared} (x : loopE prog w A env E e s) : loopE prog w A env E' e s :=
  notedBy_mono (fun _ _ q => cameBackBy_mono hE q) x
theorem PassesOwn.loop {A : Around} {env : Env} {E : Value → Shared → Prop} (p : PassesOwn (model prog w) A env E) {e : Value} {s : Shared} (x : E e s) : loopE prog w A env E e s := p e s x
theorem PassesOwn.loop2 {A : Around} {env : Env} {E : Value → Shared → Prop} (p : PassesOwn (model prog w) A env E) {e : Value} {s : Shared} (x : E e s) : loopE prog w A env (loopE prog w A env E) e s := loopE_mono p (p e s x)
/-- A call that raises. -/
def Rz (prog : Program) (w : World) (A : Around) (h : Heap) (f : Value) (ds : List D) (l : List Env) (X : String) : Prop :=
  ∀ P s vs base, Sub h s.heap → RdL P s.heap ds vs → s.heap.FunFrames base l → ∀ (Q : Value → Shared → Prop) (E : Value → Shared → Prop), (∀ e s', Fl l X s s' e .none none → E (.ref e) s') → wpN (model prog w) A (call f vs) Q E s
theorem rsN_fn {n : Nat} {d : DefRec} {names : List Str} {ds : List D} {a : Addr} {cd : Value} {outer : List Env} {X : String} (oA : OkA (n + 1) A) (hfr : A.frames = some outer) (F : FnAt h a d cd) (K : FnOk d names) (hl : ds.length = names.length) (hgen : d.scope.isGenerator = false)
    (body : ∀ (sb : Shared) (P0 : Addr → Prop) (L : Addr) (s0 : Shared) (E0 : Value → Shared → Prop), Sub h sb.heap → Kp sb s0 → Sta sb (Nw P0 sb) (envOfC d.name d.scope L a cd) (fun _ => False) s0 (names.zip ds) s0 →
      PassesOwn (model prog w) (A.deeper (envOfC d.name d.scope L a cd)) (envOfC d.name d.scope L a cd) E0 →
      (∀ s1 s2 e m, Kp sb s1 → s1.heap.Ns L m → Kp s1 s2 → Heap.NewExc s1.heap s2.heap e X → E0 (.ref e) s2) →
      wpN (model prog w) (A.deeper (envOfC d.name d.scope L a cd)) (execs d.body (envOfC d.name d.scope L a cd)) (fun _ _ => False) E0 s0) :
    Rz prog w A h (.ref a) ds outer X := fun P0 sb vs base hs r hF Q E hE => by
  obtain ⟨o, pm, doc, ho, hd⟩ := F.obj
  refine wpN_call (callN_cells oA.room (hs _ _ ho) hd (F.lim.keeps hs) (F.code.keeps hs) (K.bind pm cd doc vs (by rw [r.length, hl])) (fun x hx => ?_) (fun h₁ tk Fr C => ?_) K.co hgen K.fn)
  · have hm : x.1 ∈ names := (List.of_mem_zip (a := x.1) (b := x.2) hx).1
    rcases (K.kinds x.1 hm).1 with e | e
    · exact .inl e
    · exact .inr ⟨e, cellsFrom_isSome _ _ _ (.inl (mem_of_lookup e))⟩
  · have hLn : sb.heap.get? sb.heap.objs.size = none := get_size _
    refine wpN_mono (body sb P0 _ _ _ hs (Kp.heap Fr.keep) (fn_start K hl r Fr C) PassesOwn.leaving fun s1 s2 e m k1 hns k2 hx => ?_) (fun f s' q => q.elim) fun _ _ e => e
    have hFb : sb.heap.FunFrames sb.heap [] := trivial
    have hF1 : s1.heap.FunFrames (⟨#[], sb.heap.life⟩ : Heap) (envOfC d.name d.scope sb.heap.objs.size a cd :: outer) := by
      have hempty : ∀ b, (⟨#[], sb.heap.life⟩ : Heap).get? b = none := fun b => by
        cases q : (⟨#[], sb.heap.life⟩ : Heap).get? b with
        | none => rfl
        | some o => have := Heap.lt_size q; simp at this
      have hFe : sb.heap.FunFrames (⟨#[], sb.heap.life⟩ : Heap) outer := by
        clear hFb hE hfr
        induction outer with
        | nil => trivial
        | cons env rest ih =>
          obtain ⟨a1, ⟨L, o, a2, a3, a4, a5⟩, a6⟩ := hF
          exact ⟨a1, ⟨L, o, a2, hempty L, a4, a5⟩, ih a6⟩
      refine Heap.FunFrames.cons (L := sb.heap.objs.size) (by
        show d.scope.kind ≠ .module
        rw [K.fn]; decide) rfl hns (hempty _) ?_
      exact (Kp.kf (l := []) (X := fun _ => False) k1).frames (fun _ _ q => q) hFe
    refine fl_leave_new (s0 := s1) (L := sb.heap.objs.size) (Around.frames_deeper hfr) hF1 rfl k2 hx fun s' fl => ?_
    refine hE e s' ((fl.from (Kp.kf k1)).pop fun b hb => ?_)
    unfold FrS at hb
    rw [List.filterMap_cons] at hb
    rcases List.mem_cons.mp hb with q | q
    · right; rw [q]; exact hLn
    · exact .inl q
theorem Sta.nsAt {sb : Shared} {G : Addr → Prop} {env : Env} {X : Addr → Prop} {sa s : Shared} {vars : List (Str × D)} (S : Sta sb G env X sa vars s) : ∃ m, s.heap.Ns env.locals m :=
  let ⟨_, F, _⟩ := S.fs; let ⟨m, n, _⟩ := F.ns; ⟨m, n⟩
end
end Mine
end
noncomputable section
open PySem PySem.W PyProof.Rows
open PySem.Sem (wp)
set_option Elab.async false
set_option autoImplicit false
set_option linter.unusedVariables false
set_option linter.unusedSimpArgs false
set_option maxRecDepth 100000
namespace Mine
section
variable {prog : Program} {w : World} {A : Around} {E : Value → Shared → Prop} {s : Shared}
theorem range_zero {a b : Int} {t u v : Tok} {Q : Value → Shared → Prop} (hh : A.handled = none) (hE : ∀ h' tk e, Heap.NewExc s.heap h' e "ValueError" → E (.ref e) { s with heap := h', toks := tk }) :
    wpAny (model prog w) A (call (.type "range") [.int a t, .int b u, .int 0 v]) Q E s := by
  refine callType_codes (Q₁ := fun _ _ => False) F.called_range (F.typeCall_range_3 _ _ _) F.entry_object_init ?_ (fun _ _ h => h.elim)
  refine codeAny_of_tree ?_
  show wpAny _ A.in1.in1 (do checkBuiltinCall "range.__new__" ⟨[.type "range", .int a t, .int b u, .int 0 v], []⟩; again (.builtin "range.__new__" ⟨[.type "range", .int a t, .int b u, .int 0 v], []⟩)) _ _ s
  refine wpAny_bind (wpAny_of_eq (F.newCall_range_3 _ _ _) (wpAny_pure ⟨plainId_quiet (by decide +kernel) _, codeAny_builtin F.entry_range_new ?_⟩))
  rw [Around.under_plainId (by decide +kernel)]
  have hsub := F.called_range.sub
  unfold Builtin.«range.__new__»
  obtain ⟨hp, g, d, tk, os⟩ := s
  wp_walk
  exact wpAny_raiseErrorWords plainExc_ValueError hh hE
end
section
variable {prog : Program} {w : World} {A : Around} {h : Heap} {mg mb : Str → Option Value}
theorem wpAny_call_ty {A : Around} {env : Env} {P : Addr → Prop} {h : Heap} {f : Str} {p pos : Pos} {T : String} {es : List Expr} {ds : List D} {s : Shared} {Q E : Value → Shared → Prop} (l : Looks env h f (.type T)) (hs : Sub h s.heap)
    (x : EvL prog w A env P h es ds) (c : ∀ vs s1, Kp s s1 → RdL (Nw P s) s1.heap ds vs → wpAny (model prog w) A (call (.type T) vs) Q E s1) : wpAny (model prog w) A (eval (.Call (.Name f p) es [] pos) env) Q E s := by
  refine wpAny_Call_NameR (looks_eval l hs ?_)
  exact PySem.callWith_type x.plain (x.args s hs _ _ fun vs s1 k r => c vs s1 k r)
/-- A width of nought. -/
theorem rz_byteswap_zero {n : Nat} {a : Addr} {cd : Value} {outer : List Env} (oA : OkA (n + 1) A) (hfr : A.frames = some outer) (T : Gd mg mb h) (F : FnAt h a (theDef 0) cd) {d : D} {x : List UInt8} (Bs : BSrc prog w h d x) (hn : x.length ≤ 100) :
    Rz prog w A h (.ref a) [d, .int ((0 : Nat) : Int)] outer "ValueError" := by
  refine rsN_fn oA hfr F ok0 rfl (by with_unfolding_all rfl) fun sb P0 L s0 E0 hs0 k0 S0 pE hE => ?_
  have oA' : OkA n (A.deeper (envOfC (theDef 0).name (theDef 0).scope L a cd)) := oA.deeper _
  generalize hA' : A.deeper (envOfC (theDef 0).name (theDef 0).scope L a cd) = A' at oA' pE ⊢
  have T0 := T.sub (hs0.trans S0.keep)
  refine wpN_execs_cons (wpN_Assign_Name (wpN_call_ty (T0.blt (x := "bytearray") PyProof.Rows.Boot.«bytearray»).lk (.refl _) (evl_one (ev_call_bi (T0.blt (x := "len") boot_len).lk (evl_one (ev_has (S0.has (d := d) (by with_unfolding_all rfl)))) (Bs.len A' _ (hs0.trans S0.keep)))) fun vs s1 k1 r1 => ?_))
  obtain ⟨v, q, rfl, r1, r2⟩ := rdL_cons.mp r1
  rw [rdL_nil.mp r2]
  obtain ⟨t, rfl⟩ := rd_int.mp r1
  refine call_ba_int oA'.guards (by lia) fun h2 hs2 b2 => ?_
  generalize hB : s1.heap.objs.size = B at *
  have kk : Kp s0 { s1 with heap := h2 } := k1.trans (Kp.heap (t := s1.toks) hs2)
  have hBn : s0.heap.get? B = none := by rw [← hB]; exact none_of_kp k1 (get_size _)
  refine (S0.grow kk hBn ⟨_, b2⟩).store (d := .addr B) (rd_addr.mpr rfl) (.inl (by with_unfolding_all rfl)) (by decide) fun s3 k3 S3 => ?_
  have T3 := T.sub (hs0.trans S3.keep)
  have k03 : Kp sb s3 := S3.sbKp k0
  refine wpN_execs_cons (wpN_of (wpAny_For ?_))
  refine wpAny_call_ty (T3.blt (x := "range") boot_range).lk (.refl _) (evl_cons (ev_int 0 _ _) (evl_cons (ev_call_bi (T3.blt (x := "len") boot_len).lk (evl_one (ev_has (S3.has (d := d) (by with_unfolding_all rfl)))) (Bs.len A' _ (hs0.trans S3.keep))) (evl_one (ev_has (S3.has (d := .int ((0 : Nat) : Int)) (by with_unfolding_all rfl)))))) fun vs s4 k4 r4 => ?_
  obtain ⟨v1, q1, rfl, r41, r4⟩ := rdL_cons.mp r4
  obtain ⟨v2, q2, rfl, r42, r4⟩ := rdL_cons.mp r4
  obtain ⟨v3, q3, rfl, r43, r4⟩ := rdL_cons.mp r4
  have hq := rdL_nil.mp r4
  subst hq
  obtain ⟨t1, rfl⟩ := rd_int.mp r41
  obtain ⟨t2, rfl⟩ := rd_int.mp r42
  obtain ⟨t3, rfl⟩ := rd_int.mp r43
  have S4 := S3.kp k4
  obtain ⟨m, hns⟩ := S4.nsAt
  refine range_zero oA'.handled fun h' tk e hx => hE s4 _ e m (k03.trans k4) hns (Kp.heap (s := s4) (t := tk) hx.keeps) hx
end
end Mine
end
noncomputable section
open PySem PySem.W PyProof.Rows
open PySem.Sem (wp)
set_option Elab.async false
set_option autoImplicit false
set_option linter.unusedVariables false
set_option linter.unusedSimpArgs false
set_option maxRecDepth 100000
namespace Mine
theorem rangeSize_rest {wd k r : Nat} (hr : 0 < r) (hrw : r < wd) : Builtin.Range.rangeSize 0 ((k * wd + r : Nat) : Int) (wd : Nat) = ((k + 1 : Nat) : Int) := by
  unfold Builtin.Range.rangeSize
  rw [if_pos (by lia), if_pos (by lia)]
  have e : ((k * wd + r : Nat) : Int) - 0 - 1 = (((r - 1) + wd * k : Nat) : Int) := by
    rw [Nat.mul_comm k wd]; lia
  rw [e, ← Int.natCast_ediv, Nat.add_mul_div_left _ _ (by lia), Nat.div_eq_of_lt (by lia)]
  lia
section
variable {prog : Program} {w : World} {A : Around} {h : Heap} {mg mb : Str → Option Value}
theorem rz_byteswap_rest {n : Nat} {a : Addr} {cd : Value} {outer : List Env} (oA : OkA (n + 1) A) (hfr : A.frames = some outer) (T : Gd mg mb h) (F : FnAt h a (theDef 0) cd) {d : D} {x : List UInt8} (Bs : BSrc prog w h d x) (wd k r : Nat) (hr : 0 < r) (hrw : r < wd) (hx : x.length = k * wd + r) (hn : x.length ≤ 100) (hwn : wd ≤ 100) :
    Rz prog w A h (.ref a) [d, .int (wd : Nat)] outer "IndexError" := by
  have hw : 1 ≤ wd := by lia
  refine rsN_fn oA hfr F ok0 rfl (by with_unfolding_all rfl) fun sb P0 L s0 E0 hs0 k0 S0 pE hE => ?_
  have oA' : OkA n (A.deeper (envOfC (theDef 0).name (theDef 0).scope L a cd)) := oA.deeper _
  generalize hA' : A.deeper (envOfC (theDef 0).name (theDef 0).scope L a cd) = A' at oA' pE ⊢
  have T0 := T.sub (hs0.trans S0.keep)
  refine wpN_execs_cons (wpN_Assign_Name (wpN_call_ty (T0.blt (x := "bytearray") PyProof.Rows.Boot.«bytearray»).lk (.refl _) (evl_one (ev_call_bi (T0.blt (x := "len") boot_len).lk (evl_one (ev_has (S0.has (d := d) (by with_unfolding_all rfl)))) (Bs.len A' _ (hs0.trans S0.keep)))) fun vs s1 k1 r1 => ?_))
  obtain ⟨v, q, rfl, r1, r2⟩ := rdL_cons.mp r1
  rw [rdL_nil.mp r2]
  obtain ⟨t, rfl⟩ := rd_int.mp r1
  refine call_ba_int oA'.guards (by lia) fun h2 hs2 b2 => ?_
  generalize hB : s1.heap.objs.size = B at *
  have kk : Kp s0 { s1 with heap := h2 } := k1.trans (Kp.heap (t := s1.toks) hs2)
  have hBn : s0.heap.get? B = none := by rw [← hB]; exact none_of_kp k1 (get_size _)
  refine (S0.grow kk hBn ⟨_, b2⟩).store (d := .addr B) (rd_addr.mpr rfl) (.inl (by with_unfolding_all rfl)) (by decide) fun s3 k3 S3 => ?_
  have hBX : ¬ FrA (envOfC (theDef 0).name (theDef 0).scope L a cd) B := fun z => S0.notX hBn (.inl z)
  have b3 : BA s3.heap B (laid x wd 0 0) := by rw [laid_zero x hw]; exact k3.keep B _ hBX b2
  have T3 := T.sub (hs0.trans S3.keep)
  have hk100 : k ≤ 100 := by
    have := Nat.le_mul_of_pos_right k (m := wd) (by lia)
    lia
  refine wpN_execs_cons (wpN_of (sta_for (d := .range 0 (x.length : Nat) (wd : Nat)) (ds := (rangeL 0 (wd : Nat) (k + 1)).map D.int) (fun _ => [("swapped_data", .addr B), ("data", d), ("width", .int (wd : Nat))]) (fun i s => i ≤ k ∧ BA s.heap B (laid x wd i 0)) S3 ?iter ?src ?V0 (fun s' k' => ⟨Nat.zero_le _, k'.keep _ _ b3⟩) (fun I i s1 s2 hI j kw => ⟨j.1, kw.keep B _ (fun z => hI (.inr (.inr z.symm))) j.2⟩) (fun i s1 s2 j kx => ⟨j.1, kx.keep B _ hBX j.2⟩)
    (fun G' i di s4 hdi hG kx4 S4 b4 => ?turn) fun s4 S4 b4 => ?done))
  case iter =>
    exact ev_call_ty (T3.blt (x := "range") boot_range).lk (evl_cons (ev_int 0 _ _) (evl_cons (ev_call_bi (T3.blt (x := "len") boot_len).lk (evl_one (ev_has (S3.has (d := d) (by with_unfolding_all rfl)))) (Bs.len A' _ (hs0.trans S3.keep))) (evl_one (ev_has (S3.has (d := .int (wd : Nat)) (by with_unfolding_all rfl))))))
      (ct_range3 (by lia) (PyProof.noPylong_small (by lia)))
  case src =>
    intro P s v rr
    have hrs : Builtin.Range.rangeSize 0 (x.length : Nat) (wd : Nat) = ((k + 1 : Nat) : Int) := by rw [hx]; exact rangeSize_rest hr hrw
    refine src_range oA'.handled ?_ hrs rr
    unfold Builtin.Range.small
    rw [hrs]
    simp only [Builtin.Range.rangeFitsLong]
    rw [if_pos (by lia)]
    simp only [Bool.and_eq_true, Bool.or_eq_true, decide_eq_true_eq]
    refine ⟨⟨⟨⟨?_, ?_⟩, ?_⟩, ?_⟩, .inr ?_⟩ <;> (constructor <;> lia)
  case V0 =>
    intro p hp
    simp only [List.mem_cons, List.not_mem_nil, or_false] at hp
    rcases hp with rfl | rfl | rfl <;> with_unfolding_all rfl
  case done =>
    have hlen : ((rangeL 0 (wd : Nat) (k + 1)).map D.int).length = k + 1 := by simp [rangeL]
    rw [hlen] at b4
    lia
  case turn =>
    obtain ⟨hi, rfl⟩ : i < k + 1 ∧ di = D.int ((i * wd : Nat) : Int) := by
      have hl := (List.getElem?_eq_some_iff.mp hdi).1
      have hi : i < k + 1 := by simpa [rangeL] using hl
      refine ⟨hi, ?_⟩
      rw [List.getElem?_eq_getElem hl] at hdi
      rw [← Option.some.inj hdi]
      simp [rangeL]
    obtain ⟨_, b4⟩ := b4
    have T4 := T.sub (hs0.trans S4.keep)
    have hiw : i * wd ≤ k * wd := Nat.mul_le_mul_right wd (by lia)
    have hikc : i < k → i * wd + wd ≤ x.length := fun q => by
      have := Nat.mul_le_mul_right wd (show i + 1 ≤ k from q)
      rw [Nat.add_mul, Nat.one_mul] at this; lia
    refine wpAny_execs_cons (sta_for (d := .range 0 (wd : Nat) 1) (ds := (List.range wd).map fun (j : Nat) => D.int j) (fun _ => [("i", .int ((i * wd : Nat) : Int)), ("swapped_data", .addr B), ("data", d), ("width", .int (wd : Nat))]) (fun j s => (j = 0 ∨ i < k) ∧ BA s.heap B (laid x wd i j)) S4 (ev_range1 (T4.blt (x := "range") boot_range).lk (ev_has (S4.has (d := .int (wd : Nat)) (by with_unfolding_all rfl)))) (fun P s v r => src_range1 oA'.handled (by lia) r) ?V1 (fun s' k' => ⟨.inl rfl, k'.keep _ _ b4⟩) (fun I i s1 s2 hI j kw => ⟨j.1, kw.keep B _ (fun z => hI (.inr (.inr z.symm))) j.2⟩) (fun i s1 s2 j kx => ⟨j.1, kx.keep B _ hBX j.2⟩)
      (fun G2 j dj s5 hdj hG2 kx5 S5 b5 => ?turn2) fun s5 S5 b5 => ?done2)
    case V1 =>
      intro p hp
      simp only [List.mem_cons, List.not_mem_nil, or_false] at hp
      rcases hp with rfl | rfl | rfl | rfl <;> with_unfolding_all rfl
    case done2 =>
      have hlen : ((List.range wd).map fun (j : Nat) => D.int j).length = wd := by simp
      rw [hlen, laid_next x i hw] at b5
      refine wpAny_execs_nil ⟨S5.weak ?_, by lia, b5.2⟩
      intro p hp
      simp only [List.mem_cons, List.not_mem_nil, or_false] at hp
      rcases hp with rfl | rfl | rfl <;> with_unfolding_all rfl
    case turn2 =>
      obtain ⟨hj, rfl⟩ := range_at hdj
      obtain ⟨hj0, b5⟩ := b5
      have hij : i * wd + j < x.length := by
        rcases hj0 with q | q
        · lia
        · have := hikc q; lia
      have ei := fun pos => ev_has (prog := prog) (w := w) (A := A') (pos := pos) (S5.has (x := "i") (d := .int ((i * wd : Nat) : Int)) (by with_unfolding_all rfl))
      have ej := fun pos => ev_has (prog := prog) (w := w) (A := A') (pos := pos) (S5.has (x := "j") (d := .int (j : Nat)) (by with_unfolding_all rfl))
      have ew := fun pos => ev_has (prog := prog) (w := w) (A := A') (pos := pos) (S5.has (x := "width") (d := .int (wd : Nat)) (by with_unfolding_all rfl))
      refine wpAny_execs_cons (wpAny_Assign_Subscript (ev_itemB (i := i * wd + j) Bs (hs0.trans S5.keep) (ev_has (S5.has (x := "data") (d := d) (by with_unfolding_all rfl))) (ev_cast (ev_bin (ei _) (ej _) (op_add _ _)) (by simp)) hij (by intro _ _; with_unfolding_all rfl) s5 (.refl _) _ _ fun v s6 k6 r6 => ?_))
      refine ev_has (prog := prog) (w := w) (A := A') ((S5.kp k6).has (x := "swapped_data") (d := .addr B) (by with_unfolding_all rfl)) s6 (.refl _) _ _ fun ov s7 k7 r7 => ?_
      rw [rd_addr.mp r7]
      refine ev_cast (d' := .int ((i * wd + wd - 1 - j : Nat) : Int)) (ev_bin (ev_bin (ev_bin (ei _) (ew _) (op_add _ _)) (ev_int 1 _ _) (op_sub _ _)) (ej _) (op_sub _ _)) (by congr 1; lia) s7 (k6.trans k7).keep _ _ fun iv s8 k8 r8 => ?_
      obtain ⟨t6, rfl⟩ := rd_int.mp r6
      obtain ⟨t8, rfl⟩ := rd_int.mp r8
      have kk8 := k6.trans (k7.trans k8)
      have b8 : BA s8.heap B (laid x wd i j) := kk8.keep _ _ b5
      refine set_ba b8 (by rw [laid_len]; lia) oA'.handled (by lia) (fun hlt h9 b9 hs9 => ?_) fun hlt h9 tk9 e9 hx9 => ?_
      · rw [laid_len] at hlt
        have hik : i < k := by
          rcases Nat.lt_or_ge i k with q | q
          · exact q
          · have hik' : i = k := by lia
            subst hik'
            rcases hj0 with z | z
            · lia
            · lia
        rw [laid_set x hw hj (hikc hik)] at b9
        refine wpAny_execs_nil ⟨((S5.kp kk8).on (Kx.same (tk := s8.toks) (X := fun b => b = B) hs9 b9 rfl) fun b e => ⟨.inr e, fun z => hBX (e ▸ z)⟩).weak ?_, .inr hik, b9⟩
        intro p hp
        simp only [List.mem_cons, List.not_mem_nil, or_false] at hp
        rcases hp with rfl | rfl | rfl | rfl <;> with_unfolding_all rfl
      · refine PassesOwn.loop2 pE ?_
        have S8 := S5.kp kk8
        obtain ⟨m, hns⟩ := S8.nsAt
        refine hE s8 _ e9 m ?_ hns (Kp.heap (s := s8) (t := tk9) hx9.keeps) hx9
        exact ((S8.base kx5).base kx4).sbKp k0
end
end Mine
end
noncomputable section
open PySem PySem.W PyProof.Rows
open PySem.Sem (wp)
set_option Elab.async false
set_option autoImplicit false
set_option linter.unusedVariables false
set_option linter.unusedSimpArgs false
set_option maxRecDepth 100000
namespace Mine
theorem Heap.FunFrames.none_of {h base : Heap} {l : List Env} (F : h.FunFrames base l) {b : Addr} (x : FrS l b) : base.get? b = none := (F.mem x).1
theorem Kf.sub {l : List Env} {s s' : Shared} {h : Heap} (k : Kf l (fun _ => False) s s') (F : s.heap.FunFrames h l) (hs : Sub h s.heap) : Sub h s'.heap := fun b o e =>
  k.keep b o (fun q => by rw [Heap.FunFrames.none_of F q] at e; cases e) id (hs b o e)
/-- A call in whose course the frames around may be looked at: their slots alone change. Its answer has no address. -/
def CtF (prog : Program) (w : World) (A : Around) (h : Heap) (f : Value) (ds : List D) (d : D) (l : List Env) : Prop :=
  ∀ P s vs, Sub h s.heap → RdL P s.heap ds vs → s.heap.FunFrames h l → ∀ (Q : Value → Shared → Prop) (E : Value → Shared → Prop), (∀ v s', Kf l (fun _ => False) s s' → Rd All s'.heap d v → Q v s') → wpN (model prog w) A (call f vs) Q E s
section
variable {prog : Program} {w : World} {A : Around} {h : Heap} {mg mb : Str → Option Value}
theorem evN_call_gen {env : Env} {P : Addr → Prop} {f : Str} {p pos : Pos} {a : Addr} {o : Obj} {fd : FuncData} {es : List Expr} {ds : List D} {s : Shared} {Q E : Value → Shared → Prop} (l : Looks env s.heap f (.ref a)) (ho : s.heap.get? a = some o) (hf : o.data = .func fd)
    (x : EvLN prog w A env P s.heap es ds) (c : ∀ vs s1, Kp s s1 → RdL (Nw P s) s1.heap ds vs → wpN (model prog w) A (call (.ref a) vs) Q E s1) : wpN (model prog w) A (eval (.Call (.Name f p) es [] pos) env) Q E s := by
  show wpN _ A (do callWith pos (← eval (.Name f p) env) [] (backTo pos (starEach es env)) (backToKw pos (keywordEach [] env))) Q E s
  refine wpN_bind (wpN_of (looks_eval l (.refl _) ?_))
  show wpN _ A (callWith pos (.ref a) [] (backTo pos (starEach es env)) []) Q E s
  unfold callWith
  refine wpN_bind (wpN_holding (x.args s (.refl _) _ _ fun vs s1 k r => wpN_bind (wpN_standAt ?_)))
  have go : wpN (model prog w) A (call (.ref a) vs) Q E s1 := c vs s1 k r
  have tail : ∀ {t : Sem Value}, wpN (model prog w) A t Q E s1 → wpN (model prog w) A (t >>= fun r => holding [r] point >>= fun _ => pure r) Q E s1 :=
    fun ht => wpN_bind (wpN_mono ht (fun r s₂ hr => wpN_of (wpAny_bind (wpAny_holding (wpAny_point (wpAny_pure hr))))) fun _ _ x => x)
  simp only [x.plain, List.any_nil, Bool.or_false]
  refine wpN_bind (m := keeperOf (.ref a)) ?_
  unfold keeperOf
  refine wpN_bind (wpN_of (wpAny_load (k.keep _ _ ho) ?_))
  rw [hf]
  refine wpN_pure ?_
  show wpN _ A (if (backTo pos (starEach es env)).length + 2 * 0 > 30 then _ else _) Q E s1
  split
  · exact tail go
  · exact tail (wpN_keep go)
theorem wpN_Try {env : Env} {s : Shared} {E : Value → Shared → Prop} {body : List Stmt} {h₀ : ExceptHandler} {hs : List ExceptHandler} {pos : Pos} {Q : Flow → Shared → Prop}
    (h : wpN (model prog w) A (execs body env) (fun f s₁ => Q f s₁)
      (fun e s₁ => wpAny (model prog w) A (noteFrame e env) (fun _ s₂ => wpAny (model prog w) A (setFlight e none) (fun _ s₃ => wpAny (model prog w) A (handleBy e env (h₀ :: hs)) Q E s₃) E s₂) E s₁) s) :
    wpN (model prog w) A (exec (.Try body (h₀ :: hs) [] [] pos) env) Q E s := by
  rw [arm_exec_Try]
  refine wpN_bind (wpN_standAt ?_)
  unfold tryStmt
  simp only [List.isEmpty_nil, if_true, List.isEmpty_cons, Bool.false_and, Bool.false_eq_true, if_false]
  refine wpN_bind (wpN_attempt (wpN_mono h (fun f s₁ h₁ => ?_) fun e s₁ h₁ => ?_))
  · cases f <;> exact wpN_pure h₁
  · exact wpN_of (wpAny_bind (wpAny_mono h₁ (fun _ _ h₂ => wpAny_bind h₂) fun _ _ x => x))
theorem cfN_fn {n : Nat} {d : DefRec} {names : List Str} {ds : List D} {dr : D} {a : Addr} {cd : Value} {outer : List Env} (oA : OkA (n + 1) A) (hfr : A.frames = some outer) (F : FnAt h a d cd) (K : FnOk d names) (hl : ds.length = names.length) (hgen : d.scope.isGenerator = false)
    (body : ∀ (sb : Shared) (P0 : Addr → Prop) (L : Addr) (s0 : Shared), Sub h sb.heap → Kp sb s0 → Sta sb (Nw P0 sb) (envOfC d.name d.scope L a cd) (fun _ => False) s0 (names.zip ds) s0 →
      s0.heap.FunFrames h (envOfC d.name d.scope L a cd :: outer) → (A.deeper (envOfC d.name d.scope L a cd)).frames = some (envOfC d.name d.scope L a cd :: outer) → 
      wpN (model prog w) (A.deeper (envOfC d.name d.scope L a cd)) (execs d.body (envOfC d.name d.scope L a cd)) (fun f s' => Kf (envOfC d.name d.scope L a cd :: outer) (fun _ => False) s0 s' ∧ Rd All s'.heap dr (match f with | .ret v => v | _ => .none)) (fun _ _ => False) s0) :
    CtF prog w A h (.ref a) ds dr outer := fun P0 sb vs hs r hF Q E hQ => by
  obtain ⟨o, pm, doc, ho, hd⟩ := F.obj
  refine wpN_call (callN_cells oA.room (hs _ _ ho) hd (F.lim.keeps hs) (F.code.keeps hs) (K.bind pm cd doc vs (by rw [r.length, hl])) (fun x hx => ?_) (fun h₁ tk Fr C => ?_) K.co hgen K.fn)
  · have hm : x.1 ∈ names := (List.of_mem_zip (a := x.1) (b := x.2) hx).1
    rcases (K.kinds x.1 hm).1 with e | e
    · exact .inl e
    · exact .inr ⟨e, cellsFrom_isSome _ _ _ (.inl (mem_of_lookup e))⟩
  · have hLn : sb.heap.get? sb.heap.objs.size = none := get_size _
    have k0 : Kp sb { sb with heap := h₁, toks := tk } := Kp.heap Fr.keep
    have hF0 : h₁.FunFrames h (envOfC d.name d.scope sb.heap.objs.size a cd :: outer) := by
      refine Heap.FunFrames.cons (L := sb.heap.objs.size) (by
        show d.scope.kind ≠ .module
        rw [K.fn]; decide) rfl Fr.ns ?_ ((Kp.kf (l := []) (X := fun _ => False) k0).frames (fun _ _ q => q) hF)
      cases q : h.get? sb.heap.objs.size with
      | none => rfl
      | some o => have := hs _ _ q; rw [hLn] at this; cases this
    refine wpN_mono (body sb P0 _ _ hs k0 (fn_start K hl r Fr C) hF0 (Around.frames_deeper hfr)) (fun f s' q => ?_) fun _ _ e => e.elim
    refine hQ _ s' ((k0.kf.trans q.1).pop fun b hb => ?_) q.2
    unfold FrS at hb
    rw [List.filterMap_cons] at hb
    rcases List.mem_cons.mp hb with q | q
    · right; rw [q]; exact hLn
    · exact .inl q
end
theorem ok8 : FnOk (theDef 8) ["text", "width"] :=
  ⟨fun pm cd doc vs hl => by
    obtain ⟨a, b, rfl⟩ := two_of hl
    with_unfolding_all rfl, by decide, by with_unfolding_all decide, by with_unfolding_all rfl, by with_unfolding_all rfl, by with_unfolding_all decide⟩
theorem sub_IV : isSubtype (.type "IndexError") (.type "ValueError") = pure false := by rw [isSubtype_type]; kernel_rfl
section
variable {prog : Program} {w : World} {A : Around} {h : Heap} {mg mb : Str → Option Value}
/-- What _law_swapped gives. -/
def swD (x : List UInt8) (wd : Nat) : D := if wd = 0 then .str "width" else if x.length % wd = 0 then .bytes (laid x wd (x.length / wd) 0) else .str "rest"
theorem ctF_swapped {n : Nat} {a : Addr} {cd : Value} {outer : List Env} (oA : OkA (n + 2) A) (hfr : A.frames = some outer) (T : Gd mg mb h) (F : FnAt h a (theDef 8) cd) (x : List UInt8) (wd : Nat) (hx : x.length ≤ 100) (hw : wd ≤ x.length) :
    CtF prog w A h (.ref a) [.bytes x, .int (wd : Nat)] (swD x wd) outer := by
  refine cfN_fn oA hfr F ok8 rfl (by with_unfolding_all rfl) fun sb P0 L s0 hs0 k0 S0 hF0 hfr' => ?_
  have oA' : OkA (n + 1) (A.deeper (envOfC (theDef 8).name (theDef 8).scope L a cd)) := oA.deeper _
  generalize hA' : A.deeper (envOfC (theDef 8).name (theDef 8).scope L a cd) = A' at oA' hfr' ⊢
  have hsub0 := hs0.trans S0.keep
  have T0 := T.sub hsub0
  obtain ⟨ab, cb, gb, Fb⟩ := T0.at (i := 0)
  obtain ⟨ob, pmb, docb, hob, hfb⟩ := Fb.obj
  have arg : EvLN prog w A' (envOfC (theDef 8).name (theDef 8).scope L a cd) (PP (Nw P0 sb) (envOfC (theDef 8).name (theDef 8).scope L a cd) (fun _ => False) s0.heap) s0.heap [.Name "text" ⟨71, 25, 71, 29⟩, .Name "width" ⟨71, 31, 71, 36⟩] [.bytes x, .int (wd : Nat)] :=
    evlN_cons (ev_has (S0.has (x := "text") (by with_unfolding_all rfl))).n (evlN_one (ev_has (S0.has (x := "width") (by with_unfolding_all rfl))).n)
  refine wpN_execs_cons (wpN_Try (wpN_execs_cons (wpN_Return_some (evN_call_gen (T0.glob gb).lk hob hfb arg fun vs s1 k1 r1 => ?_))))
  have hF1 : s1.heap.FunFrames h (envOfC (theDef 8).name (theDef 8).scope L a cd :: outer) := (Kp.kf (l := []) (X := fun _ => False) k1).frames (fun _ _ q => q) hF0
  have hsub1 := hsub0.trans k1.keep
  have gd : ∀ {X : String} {e : Addr} {s2 : Shared} {y : Value} {its : Option (List Value)}, Fl (envOfC (theDef 8).name (theDef 8).scope L a cd :: outer) X s1 s2 e y its → Gd mg mb s2.heap := fun fl => T.sub (fl.kf.sub hF1 hsub1)
  by_cases hw0 : wd = 0
  · subst hw0
    refine rz_byteswap_zero oA' hfr' (T.sub hsub1) (Fb.sub k1.keep) (bsrc_bytes _ x (by lia)) hx _ s1 vs h (.refl _) r1 hF1 _ _ fun e s2 fl => ?_
    refine fl_note_next hfr' hF1 rfl fl fun s3 f3 => fl_flight f3 fun s4 f4 => ?_
    refine wpAny_handleBy_builtin (X := "ValueError") (T := "ValueError") (b := true) PySem.F.isExc_ValueError PySem.F.notTuple_ValueError PySem.F.self_ValueError (looks_eval ((gd f4).blt (x := "ValueError") PyProof.Rows.Boot.«ValueError»).lk (.refl _) ⟨rfl, f4.typeIs, ?_⟩)
    rw [if_pos rfl]
    refine fl_flight f4 fun s5 f5 => wpAny_execs_cons (wpAny_Return_some ?_)
    refine ev_str (P := All) (h := s5.heap) _ _ _ s5 (.refl _) _ _ fun v s6 k6 r6 => ⟨(k1.kf.trans f5.kf).trans k6.kf, ?_⟩
    exact r6.flat rfl
  · by_cases hm : x.length % wd = 0
    · have hxe : x.length = x.length / wd * wd := by
        have := Nat.div_add_mod x.length wd
        rw [hm, Nat.mul_comm] at this; lia
      refine ctN_byteswap oA' (T.sub hsub1) (Fb.sub k1.keep) (bsrc_bytes _ x (by lia)) wd (x.length / wd) (by lia) hxe hx (by lia) _ s1 vs (.refl _) r1 _ _ fun v s2 k2 r2 => ⟨(k1.trans k2).kf, ?_⟩
      have : swD x wd = .bytes (laid x wd (x.length / wd) 0) := by simp [swD, hw0, hm]
      rw [this]
      exact r2.flat rfl
    · have hxe : x.length = x.length / wd * wd + x.length % wd := by
        have := Nat.div_add_mod x.length wd
        rw [Nat.mul_comm] at this; lia
      refine rz_byteswap_rest oA' hfr' (T.sub hsub1) (Fb.sub k1.keep) (bsrc_bytes _ x (by lia)) wd (x.length / wd) (x.length % wd) (by lia) (Nat.mod_lt _ (by lia)) hxe hx (by lia) _ s1 vs h (.refl _) r1 hF1 _ _ fun e s2 fl => ?_
      refine fl_note_next hfr' hF1 rfl fl fun s3 f3 => fl_flight f3 fun s4 f4 => ?_
      refine wpAny_handleBy_builtin (X := "IndexError") (T := "ValueError") (b := false) PySem.F.isExc_ValueError PySem.F.notTuple_ValueError sub_IV (looks_eval ((gd f4).blt (x := "ValueError") PyProof.Rows.Boot.«ValueError»).lk (.refl _) ⟨rfl, f4.typeIs, ?_⟩)
      rw [if_neg Bool.false_ne_true]
      refine wpAny_handleBy_builtin (X := "IndexError") (T := "IndexError") (b := true) PySem.F.isExc_IndexError PySem.F.notTuple_IndexError PySem.F.self_IndexError (looks_eval ((gd f4).blt (x := "IndexError") PyProof.Rows.Boot.«IndexError»).lk (.refl _) ⟨rfl, f4.typeIs, ?_⟩)
      rw [if_pos rfl]
      refine fl_flight f4 fun s5 f5 => wpAny_execs_cons (wpAny_Return_some ?_)
      refine ev_str (P := All) (h := s5.heap) _ _ _ s5 (.refl _) _ _ fun v s6 k6 r6 => ⟨(k1.kf.trans f5.kf).trans k6.kf, ?_⟩
      have : swD x wd = .str "rest" := by simp [swD, hw0, hm]
      rw [this]
      exact r6.flat rfl
end
end Mine
end
noncomputable section
open PySem PySem.W PyProof.Rows
open PySem.Sem (wp)
set_option Elab.async false
set_option autoImplicit false
set_option linter.unusedVariables false
set_option linter.unusedSimpArgs false
set_option maxRecDepth 4000
namespace Mine
theorem ok6 : FnOk (theDef 6) ["row", "many"] :=
  ⟨fun pm cd doc vs hl => by
    obtain ⟨a, b, rfl⟩ := two_of hl
    with_unfolding_all rfl, by decide, by with_unfolding_all decide, by with_unfolding_all rfl, by with_unfolding_all rfl, by with_unfolding_all decide⟩
section
variable {prog : Program} {w : World} {A : Around} {h : Heap} {mg mb : Str → Option Value}
theorem wpAny_Try_ok {env : Env} {s : Shared} {E : Value → Shared → Prop} {body : List Stmt} {h₀ : ExceptHandler} {hs : List ExceptHandler} {pos : Pos} {Q : Flow → Shared → Prop}
    (h : wpAny (model prog w) A (execs body env) (fun f s₁ => Q f s₁) (fun _ _ => False) s) :
    wpAny (model prog w) A (exec (.Try body (h₀ :: hs) [] [] pos) env) Q E s :=
  wpAny_Try_except (wpAny_mono h (fun f s₁ h₁ => by cases f <;> first | exact h₁ | exact wpAny_execs_nil h₁) fun _ _ e => e.elim)
theorem ct_front {n : Nat} {a : Addr} {cd : Value} (oA : OkA (n + 2) A) (T : Gd mg mb h) (F : FnAt h a (theDef 6) cd) (row t : List Nat) (many : Nat) (hr : row.length ≤ 20) (h1 : row[0]? ≠ some 0) (hm1 : 1 ≤ many) (hm2 : many ≤ 20)
    (ht : t.length ≤ many) (htg : ∀ i, i < many → t[i]? = gout row i) :
    Ct prog w A h (.ref a) [.list (iL row), .int (many : Nat)] (.list (iL t)) := by
  refine ct_fn oA F ok6 rfl (by with_unfolding_all rfl) fun sb P0 L s0 hs0 k0 S0 => ?_
  have oA' : OkA (n + 1) (A.deeper (envOfC (theDef 6).name (theDef 6).scope L a cd)) := oA.deeper _
  generalize hA' : A.deeper (envOfC (theDef 6).name (theDef 6).scope L a cd) = A' at oA' ⊢
  refine wpAny_execs_cons (st_mklist (ds := []) S0 .nil (fun d hd => by cases hd) (by simp) fun s1 B hB hBa hGB hBX m1 S1 => ?_)
  have hBF : ¬ FrA (envOfC (theDef 6).name (theDef 6).scope L a cd) B := fun z => hBX (.inl z)
  have m1' : ML s1.heap B (iL (t.take 0)) := by simpa [iL] using m1
  have T1 := T.sub (hs0.trans S1.keep)
  obtain ⟨ag, cg, gg, Fg⟩ := T1.at (i := 1)
  refine wpAny_execs_cons (wpAny_Try_ok (wpAny_execs_cons (wpAny_mono (Q := fun f s3 => f = .next ∧ ∃ G', (∀ b, G' b → Nw P0 sb b) ∧ G' B ∧ Sta sb G' (envOfC (theDef 6).name (theDef 6).scope L a cd) (fun b => False ∨ b = B) s0 [("told", .addr B)] s3 ∧ ML s3.heap B (iL t))
    (staG_for (N := many) (row := row) (fun _ => [("told", .addr B), ("many", .int (many : Nat))]) (fun i s => ML s.heap B (iL (t.take i)) ∧ i < many ∧ i ≤ t.length) oA' T hs0 (T1.glob gg).lk Fg
      (evl_one (ev_has (S1.has (x := "row") (d := .list (iL row)) (by with_unfolding_all rfl)))) S1 h1 (by lia) ?V0 (fun s' k => ⟨m1'.at fun o e => k.keep _ _ e, by lia, Nat.zero_le _⟩)
      (fun Y i s2 s3 hY j k => ⟨j.1.at fun o e => k B o (hY B (.inr (.inr rfl))) e, j.2⟩) (fun i s2 s3 j k => ⟨j.1.at fun o e => k.keep B o hBF e, j.2⟩)
      (fun i s2 j => j.2.1) (fun G' i r s2 hr' hG hG2 kx S2 j => ?turn) (fun i s2 hr' S2 j => ?done)) (fun f s3 hf => ?_) fun _ _ e => e)))
  case V0 =>
    intro p hp'
    simp only [List.mem_cons, List.not_mem_nil, or_false] at hp'
    rcases hp' with rfl | rfl <;> with_unfolding_all rfl
  case done =>
    obtain ⟨m2, him, hil⟩ := j
    have : t[i]? = none := by rw [htg i him]; exact hr'
    have := List.getElem?_eq_none_iff.mp this
    have e : t.take i = t := List.take_of_length_le this
    rw [e] at m2
    refine ⟨rfl, _, fun b e => e, hGB, S2.weak ?_, m2⟩
    intro p hp'
    simp only [List.mem_cons, List.not_mem_nil, or_false] at hp'
    rcases hp' with rfl <;> with_unfolding_all rfl
  case turn =>
    obtain ⟨m2, him, hil⟩ := j
    have hti : t[i]? = some r := by rw [htg i him]; exact hr'
    have hlt : i < t.length := (List.getElem?_eq_some_iff.mp hti).1
    refine wpAny_execs_cons (st_append (B := B) (ds := iL (t.take i)) (d := .int (r : Nat)) S2 (by with_unfolding_all rfl) (.inr rfl) hBF m2 (ev_has (S2.has (x := "size") (d := .int r) (by with_unfolding_all rfl)).all) rfl (by rw [iL_len, List.length_take]; lia) fun s4 k4 m4 S4 => ?_)
    have m4' : ML s4.heap B (iL (t.take (i + 1))) := by
      have : iL (t.take (i + 1)) = iL (t.take i) ++ [.int (r : Nat)] := by rw [List.take_add_one, hti]; simp [iL]
      rw [this]; exact m4
    have T4 := T.sub (hs0.trans S4.keep)
    have hlen : (iL (t.take (i + 1))).length = i + 1 := by rw [iL_len, List.length_take]; lia
    refine wpAny_execs_cons (st_if (b := decide (i + 1 = many)) (tr_cast (tr_cmp' (P := All) (ev_len_list (T4.blt (x := "len") boot_len).lk (ev_ml (ev_has (S4.has (x := "told") (d := .addr B) (by with_unfolding_all rfl))) m4') hlen (by lia)) (ev_has (S4.has (x := "many") (d := .int many) (by with_unfolding_all rfl)).all) (op_eq _ _)) ?_) (fun s5 k5 hb => ?_) fun s5 k5 hb => ?_)
    · rw [Bool.eq_iff_iff]; simp only [beq_iff_eq, decide_eq_true_eq]; lia
    · have hb' := of_decide_eq_true hb
      have e : t.take (i + 1) = t := List.take_of_length_le (by lia)
      rw [e] at m4'
      refine wpAny_execs_cons (wpAny_Break ⟨rfl, G', fun b e => hG b e, hG2 B m1.dom hGB, ?_, m4'.at fun o e => k5.keep _ _ e⟩)
      refine ((S4.kp k5).base kx).weak ?_
      intro p hp'
      simp only [List.mem_cons, List.not_mem_nil, or_false] at hp'
      rcases hp' with rfl <;> with_unfolding_all rfl
    · have hb' := of_decide_eq_false hb
      refine wpAny_execs_nil (wpAny_execs_nil ⟨(S4.kp k5).weak ?_, m4'.at fun o e => k5.keep _ _ e, by lia, by lia⟩)
      intro p hp'
      simp only [List.mem_cons, List.not_mem_nil, or_false] at hp'
      rcases hp' with rfl | rfl <;> with_unfolding_all rfl
  · obtain ⟨rfl, G', hG', hG'B, S3, m3⟩ := hf
    refine wpAny_execs_nil ?_
    have S4 := S3.settle (x := "told") (X := fun _ => False) (by with_unfolding_all rfl) m3 hBa hG'B hBX
    exact wpAny_execs_cons (st_return S4 k0 hG' (ev_has (S4.has (x := "told") (d := .list (iL t)) (by with_unfolding_all rfl))) fun v s5 r => r)
end
end Mine
end
noncomputable section
open PySem PySem.W PyProof.Rows
open PySem.Sem (wp)
set_option Elab.async false
set_option autoImplicit false
set_option linter.unusedVariables false
set_option linter.unusedSimpArgs false
set_option maxRecDepth 4000
namespace Mine
def zR (l : List Env) (C I : Addr) : GenEnd := fun n s₀ r s => ∃ e s1 tk, r = .error (.ref e) ∧ Kx (Own C I) s₀ s1 ∧ Fl l "ValueError" s1 s e .none (some [.str "invalid grouping" tk])
def zY : Protocol := fun _ _ _ _ _ => False
section
variable {prog : Program} {w : World} {A : Around} {h : Heap} {mg mb : Str → Option Value} {row : List Nat} {N : Nat} {L C I : Addr} {vs : List Value}
theorem over_frames {tgt : Expr} {it : Value} {b o : List Stmt} {env : Env} {k : Result → Sem PySem.Fin} {g : Bool} {lw kp : List Value} {body : List Stmt} {p : Pos} {outer : List Env} (hfr : A.frames = some outer) :
    (A.over (.forLoop tgt it b o env) [.ret k none g lw (.func body env) p kp]).frames = some (env :: outer) := by
  show pushEnvs (Code.forLoop tgt it b o env).envs (pushEnvs (envsOf [(Code.func body env, p)]) A.frames) = _
  rw [hfr]; rfl
theorem back_error {env : Env} {K : Flow → Sem PySem.Fin} {H : Value → Sem PySem.Fin} {gd : Bool → Bool} {lv : List Value → List Value} {e : Value} :
    backIn env K H gd lv (.error e) = (do
        if (← field e 1) == Value.none then unsupported "frame.own-activation:exception-without-traceback"
        setFlight e env.frame : Sem Unit).wrap (fun _ => H e) H gd lv := by
  unfold backIn
  show ((do
        if (← field e 1) == Value.none then unsupported "frame.own-activation:exception-without-traceback"
        setFlight e env.frame : Sem Unit).bind fun _ => (.raise e : Sem Flow)).wrap K H gd lv = _
  rw [Sem.bind_eq_wrap, Sem.wrap_wrap]
  rfl
theorem seg_zero {a : Addr} {cd : Value} {outer : List Env} {base : Heap} (hh : A.handled = none) (hfr : A.frames = some outer) (T : Gd mg mb h) (rl : RdL All h (iL row) vs) (gp : GP h L vs C I) (hz : row[0]? = some 0)
    {s : Shared} {m : Str → Option Value} (hns : s.heap.Ns C m) (hm : m "grouping" = some (.ref L)) (hls : s.heap.IsList L vs.toArray) (hsub : Sub h s.heap) (hI : s.heap.objs.size = I) (hF : s.heap.FunFrames base outer) (hCb : base.get? C = none) (hOF : ∀ b, FrS outer b → ¬ Own C I b) :
    Seg (model prog w) A (zR (gEnv C a cd :: outer) C I) zY N s (.func (theDef 1).body (gEnv C a cd)) ((model prog w).den (.func (theDef 1).body (gEnv C a cd))) [] s := by
  refine seg_func ?_
  refine seg_execs_cons (seg_wrap (wpAny_Assign_Name (const_none (wpAny_storeName_local (m := m) (by with_unfolding_all rfl) hns (fun h1' hn1 hs1 => ?_) (by with_unfolding_all rfl))) (by with_unfolding_all rfl)))
  have hs1C : ∀ b, b ≠ C → h1'.get? b = s.heap.get? b := fun b q => hs1.2 b q
  have hls1 : h1'.IsList L vs.toArray := hls.at fun o e => (hs1C L gp.hL.1).trans e
  have sub1 : Sub h h1' := fun b o e => (hs1C b (fun q => by rw [q, gp.newC] at e; cases e)).trans (hsub b o e)
  obtain ⟨oC, hoC⟩ := Ns.some hn1
  have lg : Looks (gEnv C a cd) h1' "grouping" (.ref L) := looks_local (by with_unfolding_all rfl) (by with_unfolding_all rfl) (by decide) hn1 (by
    show (if ("grouping" : Str) = "last_interval" then _ else m "grouping") = _
    rw [if_neg (by decide)]; exact hm)
  have hI1 : h1'.objs.size = I := hs1.1.trans hI
  refine seg_execs_cons (seg_For (looks_eval lg (.refl _) (wpAny_pyIter_list hls1 fun p lw => ?_)))
  have hIq : ({ s with heap := h1', toks := s.toks + 1 } : Shared).heap.objs.size = I := hI1
  rw [hIq]
  have kx1 : Kx (Own C I) s { s with heap := h1'.push { cls := .type "list_iterator", data := .fields #[.ref L, .int 0 0] }, toks := s.toks + 1 } :=
    (Kx.same (tk := s.toks + 1) hs1 hoC (.inl rfl)).trans (Kp.kx (Kp.heap (s := { s with heap := h1', toks := s.toks + 1 }) (t := s.toks + 1) (sub_push _ _)))
  have it1 : (h1'.push { cls := .type "list_iterator", data := .fields #[.ref L, .int 0 0] }).IsListIter I L 0 := ⟨_, by rw [← hI1]; exact Heap.get?_push_size _ rfl, rfl, rfl⟩
  have ls1 : (h1'.push { cls := .type "list_iterator", data := .fields #[.ref L, .int 0 0] }).IsList L vs.toArray := hls1.push _
  have sub2 : Sub h (h1'.push { cls := .type "list_iterator", data := .fields #[.ref L, .int 0 0] }) := sub1.trans (sub_push _ _)
  have ns1 := hn1.push { cls := .type "list_iterator", data := .fields #[.ref L, .int 0 0] }
  generalize hS1 : ({ s with heap := h1'.push { cls := .type "list_iterator", data := .fields #[.ref L, .int 0 0] }, toks := s.toks + 1 } : Shared) = sx at kx1
  have hS1h : h1'.push { cls := .type "list_iterator", data := .fields #[.ref L, .int 0 0] } = sx.heap := by rw [← hS1]
  rw [hS1h] at it1 ls1 sub2 ns1
  have hrow0 : 0 < row.length := (List.getElem?_eq_some_iff.mp hz).1
  have hvl : vs.toArray.size = row.length := by simp [rl.length, iL_len]
  -- the first turn
  have hh2 : ∀ (c : Code) (k : Result → Sem PySem.Fin) (lw : List Value) (c' : Code) (p : Pos) (kp : List Value), (A.over c [.ret k none false lw c' p kp]).handled = none := fun _ _ _ _ _ _ => hh
  refine seg_forLoop ((Walks.list (prog := prog) (w := w) (hh2 _ _ _ _ _ _) I L gp.hL.2 vs.toArray).item 0 sx _ _ (by lia) ⟨it1, ls1⟩ fun u h' tk hu st hkeep => ?_)
  refine wpAny_of_eq (a := ()) rfl (wpAny_assign_Name (wpAny_storeName_local (by with_unfolding_all rfl) (ns1.at' fun o e => hkeep C o (by simpa using gp.hCI) e) (fun h2 hn2 hs2 => ?_) (by with_unfolding_all rfl)))
  have hur : ∃ t, u = .int ((0 : Nat) : Int) t := by
    obtain ⟨v, e, rv⟩ := rl.get (i := 0) (d := .int ((0 : Nat) : Int)) (by rw [iL_get, hz]; rfl)
    have : vs[0]? = some u := by simpa using hu
    rw [e] at this; cases this
    exact rd_int.mp rv
  obtain ⟨t, rfl⟩ := hur
  have kI : Kx (Own C I) sx { sx with heap := h', toks := tk } := by
    obtain ⟨⟨oI, hoI, _⟩, _⟩ := st
    refine ⟨fun b o n e => hkeep b o (by simpa using fun z => n (.inr z)) e, fun b e => ?_, rfl, fun _ _ e => e, fun e => e⟩
    by_cases q : b = I
    · subst q; rw [hoI] at e; cases e
    · cases z : sx.heap.get? b with
      | none => rfl
      | some o => rw [hkeep b o (by simpa using q) z] at e; cases e
  obtain ⟨oC2, hoC2⟩ := Ns.some hn2
  have k2 : Kx (Own C I) s { sx with heap := h2, toks := tk + 1 } := (kx1.trans kI).trans (Kx.same (s := { sx with heap := h', toks := tk }) (tk := tk + 1) hs2 hoC2 (.inl rfl))
  have sub3 : Sub h h2 := fun b o e => (hs2.2 b (fun q => by have q' : b = C := q; rw [q', gp.newC] at e; cases e)).trans (hkeep b o (by simpa using fun q => by rw [q, gp.newI] at e; cases e) (sub2 b o e))
  generalize hS2 : ({ sx with heap := h2, toks := tk + 1 } : Shared) = s2 at k2
  have hS2h : h2 = s2.heap := by rw [← hS2]
  rw [hS2h] at hn2 sub3
  have T2 := T.sub sub3
  have li : Looks (gEnv C a cd) s2.heap "interval" (.int ((0 : Nat) : Int) t) := looks_local (by with_unfolding_all rfl) (by with_unfolding_all rfl) (by decide) hn2 (by simp)
  have ll : Looks (gEnv C a cd) s2.heap "last_interval" .none := looks_local (by with_unfolding_all rfl) (by with_unfolding_all rfl) (by decide) hn2 (by
    show (if ("last_interval" : Str) = "interval" then _ else if ("last_interval" : Str) = "last_interval" then some Value.none else m "last_interval") = some Value.none
    rw [if_neg (by decide), if_pos rfl])
  obtain ⟨tc, hcm⟩ := T2.cmax
  have lc : Looks (gEnv C a cd) s2.heap "CHAR_MAX" (.int 127 tc) := (T2.glob hcm).lk
  refine seg_execs_cons (seg_If (tr_cast (b' := false) (tr_cmp' (P := All) (ev_name li (rd_int.mpr ⟨t, rfl⟩)) (ev_name lc (rd_int.mpr ⟨tc, rfl⟩)) (op_eq _ _)) (by decide) s2 (.refl _) _ _ fun s3 k3 => ?_))
  rw [if_neg Bool.false_ne_true]
  refine seg_execs_nil ?_
  refine seg_execs_cons (seg_If (tr_cast (b' := true) (tr_cmp' (P := All) (ev_name (li.sub k3.keep) (rd_int.mpr ⟨t, rfl⟩)) (ev_int 0 _ _) (op_eq _ _)) (by decide) s3 (.refl _) _ _ fun s4 k4 => ?_))
  rw [if_pos rfl]
  refine seg_execs_cons (seg_If (tr_cast (tr_cmp' (P := All) (ev_name ((ll.sub k3.keep).sub k4.keep) (rd_none.mpr rfl)) (ev_none _ _) op_is_none_none) rfl s4 (.refl _) _ _ fun s5 k5 => ?_))
  rw [if_pos rfl]
  have k25 := k3.trans (k4.trans k5)
  have T5 := T2.sub k25.keep
  refine seg_execs_cons (seg_wrap (wpAny_Raise_call PySem.F.excCall_ValueError PySem.F.excRaise_ValueError (hh2 _ _ _ _ _ _) (by with_unfolding_all rfl) (looks_eval (T5.blt (x := "ValueError") PyProof.Rows.Boot.«ValueError»).lk (.refl _) ⟨rfl, ?_⟩)))
  refine (evl_one (ev_str (P := All) (h := s5.heap) "invalid grouping" _ _)).args s5 (.refl _) _ _ fun vs6 s6 k6 r6 => ⟨rfl, ?_, fun h7 e7 hx7 => ?_⟩
  · rw [r6.length, sizeLine_is]; decide
  · obtain ⟨v6, q6, rfl, r61, r62⟩ := rdL_cons.mp r6
    have hq6 := rdL_nil.mp r62
    subst hq6
    obtain ⟨tk6, rfl⟩ := rd_str.mp r61
    have k26 := k25.trans k6
    have hns6 := hn2.keeps k26.keep
    have hF6 : s6.heap.FunFrames base (gEnv C a cd :: outer) := by
      refine Heap.FunFrames.cons (L := C) (fun q => nomatch (show ScopeKind.function = ScopeKind.module from q)) rfl hns6 hCb ?_
      have k06 : Kx (Own C I) s s6 := k2.trans k26.kx
      exact Kf.frames (l := []) (X := Own C I) ⟨fun b o _ n e => k06.keep b o n e, fun b o q _ e => (by cases q), k06.live, k06.os, k06.gens, k06.bare⟩ (fun b hb => hOF b hb) hF
    obtain ⟨t0, he7, ht0n, ht0⟩ := hx7.there
    show Seg (model prog w) A (zR (gEnv C a cd :: outer) C I) zY N s _ (turnE (gEnv C a cd) (.ref e7)) _ _
    unfold turnE
    refine seg_wrap (wpAny_bind (fl_note_new (s0 := s6) (its := some [.str "invalid grouping" tk6]) (outer := outer) (L := C) (over_frames hfr) hF6 rfl (Kp.heap (s := s6) (t := s6.toks) hx7.keeps) hx7.new he7 rfl rfl (fun l e => by cases e; exact ⟨t0, rfl, _, _, ht0, rfl, rfl⟩) fun s8 f8 => wpAny_theTreesLotGoes ?_))
    refine seg_leaf (.error (.ref e7)) ?_
    rw [back_error]
    refine seg_wrap (fl_back f8 fun s9 f9 => ?_)
    refine seg_wrap (m := leaving (gEnv C a cd) (.ref e7)) ?_
    unfold leaving
    refine wpAny_bind (fl_note_same (L := C) rfl f9 (fl_flight f9 fun s10 f10 => ?_))
    exact seg_end (.error (.ref e7)) ⟨e7, s6, tk6, rfl, k2.trans k26.kx, f10⟩
end
end Mine
end
noncomputable section
open PySem PySem.W PyProof.Rows
open PySem.Sem (wp)
set_option Elab.async false
set_option autoImplicit false
set_option linter.unusedVariables false
set_option linter.unusedSimpArgs false
set_option maxRecDepth 100000
namespace Mine
theorem sub_VS : isSubtype (.type "ValueError") (.type "StopIteration") = pure false := by rw [isSubtype_type]; kernel_rfl
section
variable {prog : Program} {w : World} {A : Around} {E : Value → Shared → Prop} {s : Shared}
theorem pyNext_genZ {a : Addr} {g n : Nat} {gs : GenState} {l : List Env} {C I : Addr} {Q : Option Value → Shared → Prop}
    (hl : s.heap.NoLimit) (hroom : A.depth < recursionLimit)
    (hg : s.heap.IsGen a g) (hgs : s.gens[g]? = some gs)
    (hgo : gs.Goes (model prog w) A.in1 (zR l C I) zY n (.send .none) (s.setGen g .running))
    (hga : ∀ s1 : Shared, Kx (Own C I) (s.setGen g .running) s1 → ∀ s2 e tk, Fl l "ValueError" s1 s2 e .none (some [.str "invalid grouping" tk]) → s2.heap.IsGen a g)
    (hE : ∀ e s1 tk s2, Kx (Own C I) (s.setGen g .running) s1 → Fl l "ValueError" s1 s2 e .none (some [.str "invalid grouping" tk]) → E (.ref e) (s2.setGen g .finished)) :
    wpAny (model prog w) A (pyNext (.ref a)) Q E s := by
  unfold pyNext
  refine wpAny_bind (wpAny_attempt (wpAny_callSpecial?_slot (name := Str.ofString "__next__") hg.typeIs slot_gen_next
    (wpAny_call_entry slot_gen_next hg.typeIs entry_gen_next ?_ (args_gen_next _))))
  show wpAny _ A.in1 (Builtin.Generator.genWake (.ref a) (.send .none)) _ _ s
  unfold Builtin.Generator.genWake
  refine wpAny_bind (wpAny_holding (wpAny_genNumber hg (wpAny_bind (wpAny_genState hgs ?_))))
  cases gs with
  | running => exact hgo.elim
  | finished => exact hgo.elim
  | _ =>
    refine wpAny_bind (wpAny_roomToWake hl hroom ?_)
    show wpAny _ A.in1 (.resume g (.send .none) [] _) _ _ s
    refine wpAny_resumeQ hgs hgo (fun x s₁ hx => ?_) (fun v s₁ gs' hb hv => hv.elim)
    obtain ⟨e, s1, tk, rfl, kx, fl⟩ := hx
    have isg := hga s1 kx s₁ e tk fl
    have ty := fl.typeIs
    show wpAny _ A.in1 (Builtin.Generator.genLeft (.ref a) (.ref e) : Sem PySem.Fin) _ _ (s₁.setGen g .finished)
    unfold Builtin.Generator.genLeft Builtin.Generator.madeByALambda
    obtain ⟨o, nm, qn, ho, hc, hd, hsl⟩ := isg
    refine wpAny_bind (wpAny_bind (wpAny_load (s := s₁.setGen g .finished) ho ?_))
    refine wpAny_pure ?_
    refine wpAny_bind (wpAny_isInstance (T := "ValueError") (b := false) ty sub_VS ?_)
    rw [Bool.and_false]
    show wpAny (model prog w) A.in1 (Builtin.Generator.genEscaped (.ref e) : Sem PySem.Fin) _ _ (s₁.setGen g .finished)
    unfold Builtin.Generator.genEscaped
    refine wpAny_bind (wpAny_isInstance (T := "ValueError") (b := false) ty sub_VS ?_)
    rw [if_pos (by decide)]
    refine wpAny_bind (wpAny_throw ?_)
    refine wpAny_bind (wpAny_isInstance (T := "ValueError") (b := false) ty sub_VS ?_)
    rw [if_neg (by decide)]
    exact wpAny_throw (hE e s1 tk s₁ kx fl)
end
end Mine
end
noncomputable section
open PySem PySem.W PyProof.Rows
open PySem.Sem (wp)
set_option Elab.async false
set_option autoImplicit false
set_option linter.unusedVariables false
set_option linter.unusedSimpArgs false
set_option maxRecDepth 4000
namespace Mine
theorem Kf.kx {l : List Env} {Y : Addr → Prop} {sb s s' : Shared} (k : Kf l (fun _ => False) sb s) (x : Kx Y s s') (hY : ∀ b, Y b → sb.heap.get? b = none) : Kf l (fun _ => False) sb s' :=
  ⟨fun b o n n2 e => x.keep b o (fun q => by rw [hY b q] at e; cases e) (k.keep b o n n2 e), fun b o n n2 e => by
    obtain ⟨sl, e2⟩ := k.slots b o n n2 e
    exact ⟨sl, x.keep b _ (fun q => by rw [hY b q] at e; cases e) e2⟩, fun b e => k.live b (x.live b e), x.os.trans k.os, fun g z e => x.gens g z (k.gens g z e), fun e => x.bare (k.bare e)⟩
theorem Ns.kf {l : List Env} {s s' : Shared} {a : Addr} {m : Str → Option Value} (n : s.heap.Ns a m) (k : Kf l (fun _ => False) s s') : s'.heap.Ns a m := by
  obtain ⟨o, es, ep, ho, hd, r⟩ := n
  by_cases q : FrS l a
  · obtain ⟨sl, e⟩ := k.slots a o q id ho
    exact ⟨_, es, ep, e, hd, r⟩
  · exact ⟨o, es, ep, k.keep a o q id ho, hd, r⟩
theorem PlainL.kf {l : List Env} {s s' : Shared} {a : Addr} {its : Array Value} (n : PlainL s.heap a its) (k : Kf l (fun _ => False) s s') : PlainL s'.heap a its := by
  obtain ⟨o, n, ho, hc, hn, hd⟩ := n
  by_cases q : FrS l a
  · obtain ⟨sl, e⟩ := k.slots a o q id ho
    exact ⟨_, n, e, hc, hn, hd⟩
  · exact ⟨o, n, k.keep a o q id ho, hc, hn, hd⟩
section
variable {prog : Program} {w : World} {A : Around} {h : Heap} {mg mb : Str → Option Value}
theorem cfN_fn2 {n : Nat} {d : DefRec} {names : List Str} {ds : List D} {dr : D} {a : Addr} {cd : Value} {outer : List Env} (oA : OkA (n + 1) A) (hfr : A.frames = some outer) (F : FnAt h a d cd) (K : FnOk d names) (hl : ds.length = names.length) (hgen : d.scope.isGenerator = false)
    (body : ∀ (sb : Shared) (P0 : Addr → Prop) (L : Addr) (s0 : Shared), Sub h sb.heap → Kp sb s0 → Sta sb (Nw P0 sb) (envOfC d.name d.scope L a cd) (fun _ => False) s0 (names.zip ds) s0 →
      sb.heap.FunFrames h outer → (A.deeper (envOfC d.name d.scope L a cd)).frames = some (envOfC d.name d.scope L a cd :: outer) → 
      wpN (model prog w) (A.deeper (envOfC d.name d.scope L a cd)) (execs d.body (envOfC d.name d.scope L a cd)) (fun f s' => Kf outer (fun _ => False) sb s' ∧ Rd All s'.heap dr (match f with | .ret v => v | _ => .none)) (fun _ _ => False) s0) :
    CtF prog w A h (.ref a) ds dr outer := fun P0 sb vs hs r hF Q E hQ => by
  obtain ⟨o, pm, doc, ho, hd⟩ := F.obj
  refine wpN_call (callN_cells oA.room (hs _ _ ho) hd (F.lim.keeps hs) (F.code.keeps hs) (K.bind pm cd doc vs (by rw [r.length, hl])) (fun x hx => ?_) (fun h₁ tk Fr C => ?_) K.co hgen K.fn)
  · have hm : x.1 ∈ names := (List.of_mem_zip (a := x.1) (b := x.2) hx).1
    rcases (K.kinds x.1 hm).1 with e | e
    · exact .inl e
    · exact .inr ⟨e, cellsFrom_isSome _ _ _ (.inl (mem_of_lookup e))⟩
  · refine wpN_mono (body sb P0 _ _ hs (Kp.heap Fr.keep) (fn_start K hl r Fr C) hF (Around.frames_deeper hfr)) (fun f s' q => ?_) fun _ _ e => e.elim
    exact hQ _ s' q.1 q.2
abbrev fEnv (L a : Addr) (cd : Value) : Env := envOfC (theDef 6).name (theDef 6).scope L a cd
theorem ctF_front_zero {n : Nat} {a : Addr} {cd : Value} {outer : List Env} (oA : OkA (n + 2) A) (hfr : A.frames = some outer) (T : Gd mg mb h) (F : FnAt h a (theDef 6) cd) (row : List Nat) (many : Nat) (hr : row.length ≤ 20) (hz : row[0]? = some 0) :
    CtF prog w A h (.ref a) [.list (iL row), .int (many : Nat)] (.list [.str "invalid grouping"]) outer := by
  refine cfN_fn2 oA hfr F ok6 rfl (by with_unfolding_all rfl) fun sb P0 L s0 hs0 k0 S0 hF hfr' => wpN_of ?_
  have oA' : OkA (n + 1) (A.deeper (fEnv L a cd)) := oA.deeper _
  show wpAny (model prog w) (A.deeper (fEnv L a cd)) (execs (theDef 6).body (fEnv L a cd)) _ _ s0
  have hfr'' : (A.deeper (fEnv L a cd)).frames = some (fEnv L a cd :: outer) := hfr'
  generalize hA' : A.deeper (fEnv L a cd) = A' at oA' hfr'' ⊢
  refine wpAny_execs_cons (st_mklist (ds := []) S0 .nil (fun d hd => by cases hd) (by simp) fun s1 B hB hBa hGB hBX m1 S1 => ?_)
  have T1 := T.sub (hs0.trans S1.keep)
  obtain ⟨ag, cg, gg, Fg⟩ := T1.at (i := 1)
  have k01 : Kp sb s1 := S1.sbKp k0
  have hLn : sb.heap.get? L = none := by
    obtain ⟨ρ, Fs1, _⟩ := S1.fs
    exact Fs1.newL
  have hBn : sb.heap.get? B = none := S0.old hB
  obtain ⟨m, hns, hmt⟩ : ∃ m, s1.heap.Ns L m ∧ m "told" = some (.ref B) := by
    obtain ⟨ρ, Fs1, hv⟩ := S1.fs
    obtain ⟨m, n1, e⟩ := Fs1.ns
    obtain ⟨_, _, v, hρ, rv⟩ := hv "told" (.addr B) (by with_unfolding_all rfl)
    refine ⟨m, n1, ?_⟩
    rw [e "told" (by with_unfolding_all rfl), hρ, rd_addr.mp rv]
  have hhL : h.get? L = none := by
    cases q : h.get? L with
    | none => rfl
    | some o => have := hs0 _ _ q; rw [hLn] at this; cases this
  have hF1 : s1.heap.FunFrames h (fEnv L a cd :: outer) :=
    Heap.FunFrames.cons (L := L) (fun q => nomatch (show ScopeKind.function = ScopeKind.module from q)) rfl hns hhL ((Kp.kf (l := []) (X := fun _ => False) k01).frames (fun _ _ q => q) hF)
  refine wpAny_execs_cons (wpAny_Try_except (wpAny_execs_cons (wpAny_For (ev_gen (h := h) oA' (T1.glob gg).lk Fg (evl_one (ev_has (S1.has (x := "row") (d := .list (iL row)) (by with_unfolding_all rfl)))) fun Lr C ga g s2 hLP hLD gn => wpAny_pyIter_gen gn.isg ?_))))
  obtain ⟨mC, a1', cd', hnsC, hmC, hgs⟩ := gn.ns
  obtain ⟨vs, hls, rl⟩ := gn.ls
  have hI : s1.heap.get? s2.heap.objs.size = none := none_of_kp gn.kp (get_size _)
  generalize hIe : s2.heap.objs.size = I at hI
  have subh1 : Sub h s1.heap := hs0.trans S1.keep
  have ox : ∀ b, Own C I b → s1.heap.get? b = none := fun b e => by rcases e with rfl | rfl; exact gn.c_new; exact hI
  have hCI : C ≠ I := fun q => by
    obtain ⟨o, ho⟩ := Ns.some hnsC
    rw [q, ← hIe, get_size] at ho; cases ho
  have haI : ga ≠ I := fun q => by
    obtain ⟨o, _, _, ho, _⟩ := gn.isg
    rw [q, ← hIe, get_size] at ho; cases ho
  have hnone : ∀ b, s1.heap.get? b = none → h.get? b = none := fun b e => by
    cases q : h.get? b with
    | none => rfl
    | some o => rw [subh1 b o q] at e; cases e
  have hLI : Lr ≠ I := fun q => by obtain ⟨o, ho⟩ := hLD; rw [q, ← hIe, get_size] at ho; cases ho
  have hLC : Lr ≠ C := fun q => by
    obtain ⟨o, ho, _, _, hd⟩ := hls
    obtain ⟨o2, es, _, ho2, hd2, _⟩ := hnsC
    rw [q, ho2] at ho; cases ho
    rw [hd2] at hd; cases hd
  have gp : GP h Lr vs C I := ⟨hnone _ gn.c_new, hnone _ hI, ⟨hLC, hLI⟩, hCI⟩
  have hF2 : s2.heap.FunFrames h (fEnv L a cd :: outer) := (Kp.kf (l := []) (X := fun _ => False) gn.kp).frames (fun _ _ q => q) hF1
  have hOF : ∀ b, FrS (fEnv L a cd :: outer) b → ¬ Own C I b := fun b hb q => by
    obtain ⟨_, o, ho, _⟩ := hF1.mem hb
    rw [ox b q] at ho; cases ho
  have lim2 := (T1.sub gn.kp.keep).lim
  have jg : ∀ (j : Nat) (x : GenState), s1.gens[j]? = some x → j ≠ g := fun j x e q => by rw [q, gn.g_new] at e; cases e
  have gFl : ∀ (sx s3 : Shared) (e : Addr) (tk : Tok), Kx (Own C I) (s2.setGen g .running) sx → Fl (gEnv C a1' cd' :: fEnv L a cd :: outer) "ValueError" sx s3 e .none (some [.str "invalid grouping" tk]) →
      Fl (fEnv L a cd :: outer) "ValueError" s1 (s3.setGen g .finished) e .none (some [.str "invalid grouping" tk]) := fun sx s3 e tk kx fl => by
    have lv : ∀ b, sx.heap.get? b = none → s1.heap.get? b = none := fun b e => none_of_kp gn.kp (kx.live b e)
    have kk : ∀ b o, s1.heap.get? b = some o → sx.heap.get? b = some o := fun b o e => kx.keep b o (fun q => by rw [ox b q] at e; cases e) (gn.kp.keep b o e)
    have nC : ∀ b o, s1.heap.get? b = some o → ¬ FrS (fEnv L a cd :: outer) b → ¬ FrS (gEnv C a1' cd' :: fEnv L a cd :: outer) b := fun b o e n q => by
      unfold FrS at q n
      rw [List.filterMap_cons] at q
      rcases List.mem_cons.mp q with z | z
      · rw [z, gn.c_new] at e; cases e
      · exact n z
    obtain ⟨T', a0, hT', tr, md⟩ := fl.tr
    refine ⟨⟨fun b o n _ e => fl.kf.keep b o (nC b o e n) id (kk b o e), fun b o n _ e => ?_, fun b e => lv b (fl.kf.live b e), fl.kf.os.trans (kx.os.trans gn.kp.os), fun j x e => ?_, fun e => ?_⟩, lv _ fl.new, T', a0, lv _ hT', tr, md⟩
    · by_cases q : FrS (gEnv C a1' cd' :: fEnv L a cd :: outer) b
      · exact fl.kf.slots b o q id (kk b o e)
      · exact ⟨o.slots, fl.kf.keep b o q id (kk b o e)⟩
    · rw [gens_setGen (jg j x e)]
      exact fl.kf.gens j x (kx.gens j x (by rw [gens_setGen (jg j x e)]; exact gn.kp.gens j x e))
    · exact bare_setGen (fl.kf.bare (kx.bare (bare_setGen (gn.kp.bare e) rfl))) rfl
  refine codeAny_forLoop_any (I := fun k s' => s' = s2) (fun k s' hk => ?_) 0 rfl
  subst hk
  have sz := seg_zero (prog := prog) (w := w) (A := A'.in1) (N := 1) (h := h) (cd := cd') (a := a1') (base := h) oA'.handled (show A'.in1.frames = some (fEnv L a cd :: outer) from hfr'') T rl gp hz (s := s'.setGen g .running) hnsC hmC hls (subh1.trans gn.kp.keep) hIe hF2 (hnone _ gn.c_new) hOF
  refine pyNext_genZ lim2 oA'.room gn.isg hgs ⟨rfl, sz⟩ (fun sx kx s3 e tk fl => ?_) fun e sx tk s3 kx fl => ?_
  · obtain ⟨o, nm, qn, ho, r⟩ := gn.isg
    have haO : ¬ Own C I ga := fun q => q.elim gn.ac haI
    have hga1 : s1.heap.get? ga = none := gn.a_new
    have h1 : sx.heap.get? ga = some o := kx.keep _ _ haO ho
    refine ⟨o, nm, qn, fl.kf.keep _ _ (fun q => ?_) id h1, r⟩
    unfold FrS at q
    rw [List.filterMap_cons] at q
    rcases List.mem_cons.mp q with z | z
    · exact gn.ac z
    · obtain ⟨_, o2, ho2, _⟩ := hF1.mem (b := ga) z
      rw [hga1] at ho2; cases ho2
  · refine PassesOwn.loop PassesOwn.looking ?_
    have f0 := gFl sx s3 e tk kx fl
    generalize s3.setGen g .finished = s4 at f0
    refine fl_note_next hfr'' hF1 rfl f0 fun s5 f5 => fl_flight f5 fun s6 f6 => ?_
    have kf16 := f6.kf
    have T6 := T.sub (kf16.sub hF1 subh1)
    refine wpAny_handleBy_builtin_as (X := "ValueError") (T := "ValueError") (b := true) PySem.F.isExc_ValueError PySem.F.notTuple_ValueError PySem.F.self_ValueError (looks_eval (T6.blt (x := "ValueError") PyProof.Rows.Boot.«ValueError»).lk (.refl _) ⟨rfl, f6.typeIs, ?_⟩)
    rw [if_pos rfl]
    refine fl_flight f6 fun s7 f7 => ?_
    have T7 := T.sub (f7.kf.sub hF1 subh1)
    have hns7 : s7.heap.Ns L m := Ns.kf hns f7.kf
    refine wpAny_storeName_local (by with_unfolding_all rfl) hns7 (fun h8 hn8 hs8 => ?_) (by with_unfolding_all rfl)
    obtain ⟨oL8, hoL8⟩ := Ns.some hn8
    have kx8 : Kx (fun b => b = L ∨ b = B) s7 { s7 with heap := h8, toks := s7.toks + 1 } := Kx.same hs8 hoL8 (.inl rfl)
    -- the exception and what it was made of
    obtain ⟨T', a0, hT', tr7, md7⟩ := f7.tr
    obtain ⟨t0, ea0, ⟨ot, nt, hot, hct, hdt⟩⟩ := md7 _ rfl
    subst ea0
    obtain ⟨oL7, esL, epL, hoL7, hdL7, _⟩ := id hns7
    obtain ⟨oe, vse, oT, tse, hoe, hce, hde, _, _, _, _, _, hv0⟩ := tr7
    have heL : e ≠ L := fun q => by
      rw [q, hoL7] at hoe; cases hoe; rw [hdL7] at hde; cases hde
    have ht0L : t0 ≠ L := fun q => by
      rw [q, hoL7] at hot; cases hot; rw [hdL7] at hdt; cases hdt
    have hBL : B ≠ L := fun q => hBX (.inl (.inl q))
    have hBe : e ≠ B := fun q => by
      have := f7.new
      obtain ⟨o, ho⟩ := m1.dom
      rw [q, ho] at this; cases this
    obtain ⟨_, vs0, pl0, q0⟩ := id m1
    have hvs0 := rdL_nil.mp q0
    subst hvs0
    have pl7 : PlainL s7.heap B #[] := PlainL.kf pl0 f7.kf
    have pl8 : PlainL h8 B #[] := by
      obtain ⟨o, n, ho, r⟩ := pl7
      exact ⟨o, n, (hs8.2 B hBL).trans ho, r⟩
    have sub8 : Sub h h8 := fun b o e => (hs8.2 b (fun q => by have q' : b = L := q; rw [q', hhL] at e; cases e)).trans (kf16.sub hF1 subh1 |> fun _ => f7.kf.sub hF1 subh1 b o e)
    have T8 := T.sub sub8
    have ltold : Looks (fEnv L a cd) h8 "told" (.ref B) := looks_local (by with_unfolding_all rfl) (by with_unfolding_all rfl) (by decide) hn8 (by
      show (if ("told" : Str) = "error" then _ else m "told") = _
      rw [if_neg (by decide)]; exact hmt)
    have lerr : Looks (fEnv L a cd) h8 "error" (.ref e) := looks_local (by with_unfolding_all rfl) (by with_unfolding_all rfl) (by decide) hn8 (by simp)
    refine wpAny_execs_cons (wpAny_Expr (wpAny_Call_append (by with_unfolding_all rfl) (by with_unfolding_all rfl) (by with_unfolding_all rfl) (by with_unfolding_all rfl) (looks_eval ltold (.refl _) ⟨B, #[], rfl, pl8, ?_⟩)) (by with_unfolding_all rfl) (by with_unfolding_all rfl))
    refine wpAny_call_ty (P := All) (h := h8) (T8.blt (x := "str") PyProof.Rows.Boot.«str»).lk (.refl _) (evl_one (ev_name (d := .addr e) lerr (rd_addr.mpr rfl))) fun vs9 s9 k9 r9 => ?_
    obtain ⟨v9, q9, rfl, r91, r92⟩ := rdL_cons.mp r9
    have hq9 := rdL_nil.mp r92
    subst hq9
    rw [rd_addr.mp r91]
    have exc9 : s9.heap.ExcAt e "ValueError" (.ref t0) := ⟨oe, vse, k9.keep _ _ ((hs8.2 e heL).trans hoe), hce, hde, hv0⟩
    have tup9 : s9.heap.TupAt t0 [.str "invalid grouping" tk] := ⟨ot, nt, k9.keep _ _ ((hs8.2 t0 ht0L).trans hot), hct, hdt⟩
    refine P.str_of_exc_one PySem.F.excStr_ValueError (by have := oA'.cl (k := 2) (by lia); exact this) exc9 tup9 ?_
    have pl9 : PlainL s9.heap B #[] := by
      obtain ⟨o, n, ho, r⟩ := pl8
      exact ⟨o, n, k9.keep _ _ ho, r⟩
    refine list_append_plainL (hsz := by rw [sizeLine_is]; decide) pl9 fun h10 pl10 hs10 => ?_
    obtain ⟨o10, n10, ho10, _⟩ := id pl10
    have hn10 := (hn8.keeps k9.keep).sameBut hs10 (fun q => hBL q.symm)
    refine wpAny_execs_nil (wpAny_nameGoes_keeps (by with_unfolding_all rfl) hn10 (by with_unfolding_all rfl) fun h11 u11 hn11 hs11 => ?_)
    obtain ⟨oL11, hoL11⟩ := Ns.some hn11
    have lt11 : Looks (fEnv L a cd) h11 "told" (.ref B) := looks_local (by with_unfolding_all rfl) (by with_unfolding_all rfl) (by decide) hn11 (by
      show (if ("told" : Str) = "error" then _ else if ("told" : Str) = "error" then _ else m "told") = _
      rw [if_neg (by decide), if_neg (by decide)]; exact hmt)
    have pl11 : PlainL h11 B #[.str "invalid grouping" tk] := by
      obtain ⟨o, n, ho, r⟩ := pl10
      exact ⟨o, n, (hs11.2 B hBL).trans ho, r⟩
    refine wpAny_execs_cons (wpAny_Return_some (looks_eval lt11 (.refl _) ⟨?_, ?_⟩))
    · have kA : Kf outer (fun _ => False) sb s7 := (k01.kf.trans f7.kf).pop fun b hb => by
        unfold FrS at hb
        rw [List.filterMap_cons] at hb
        rcases List.mem_cons.mp hb with q | q
        · right; rw [q]; exact hLn
        · exact .inl q
      have hY : ∀ b, (b = L ∨ b = B) → sb.heap.get? b = none := fun b q => by rcases q with rfl | rfl; exact hLn; exact hBn
      have kB := (kx8.trans k9.kx).trans (Kx.same (X := fun b => b = L ∨ b = B) (tk := s9.toks) hs10 ho10 (.inr rfl))
      exact (kA.kx kB hY).kx (Kx.same (X := fun b => b = L ∨ b = B) (s := { s9 with heap := h10 }) (tk := s9.toks + 1) hs11 hoL11 (.inl rfl)) hY
    · exact rd_list.mpr ⟨B, [.str "invalid grouping" tk], rfl, trivial, pl11.isList, rdL_cons.mpr ⟨_, [], rfl, rd_str.mpr ⟨tk, rfl⟩, rdL_nil.mpr rfl⟩⟩
end
end Mine
end
noncomputable section
open PySem PySem.W PyProof.Rows
open PySem.Sem (wp)
set_option Elab.async false
set_option autoImplicit false
set_option linter.unusedVariables false
set_option linter.unusedSimpArgs false
set_option maxRecDepth 4000
namespace Mine
/-! The table of a set: its places rise. -/
def Rise (xs : Array Nat) : Prop := ∀ i j, i < j → j < xs.size → xs.getD i 0 < xs.getD j 0
theorem below_go (xs : Array Nat) (hr : Rise xs) (j : Nat) : ∀ (fuel lo hi : Nat), lo ≤ hi → hi ≤ xs.size → hi - lo ≤ fuel → (∀ i, i < lo → xs.getD i 0 < j) → (∀ i, hi ≤ i → i < xs.size → j ≤ xs.getD i 0) →
    (SetTable.below.go xs j fuel lo hi ≤ xs.size) ∧ (∀ i, i < SetTable.below.go xs j fuel lo hi → xs.getD i 0 < j) ∧ (∀ i, SetTable.below.go xs j fuel lo hi ≤ i → i < xs.size → j ≤ xs.getD i 0)
  | 0, lo, hi, h1, h2, h3, h4, h5 => by
    have : lo = hi := by lia
    subst this
    unfold SetTable.below.go
    exact ⟨h2, h4, h5⟩
  | fuel + 1, lo, hi, h1, h2, h3, h4, h5 => by
    unfold SetTable.below.go
    by_cases q : lo < hi
    · rw [if_pos q]
      have hm1 : lo ≤ (lo + hi) / 2 := by lia
      have hm2 : (lo + hi) / 2 < hi := by lia
      have hgd : xs.getD ((lo + hi) / 2) j = xs.getD ((lo + hi) / 2) 0 := by
        have hlt : (lo + hi) / 2 < xs.size := by lia
        simp [Array.getD_eq_getD_getElem?, hlt]
      dsimp only
      rw [hgd]
      by_cases z : xs.getD ((lo + hi) / 2) 0 < j
      · rw [if_pos z]
        refine below_go xs hr j fuel _ hi (by lia) h2 (by lia) (fun i hi' => ?_) h5
        rcases Nat.lt_or_ge i ((lo + hi) / 2) with y | y
        · exact Nat.lt_trans (hr i _ y (by lia)) z
        · have : i = (lo + hi) / 2 := by lia
          rw [this]; exact z
      · rw [if_neg z]
        refine below_go xs hr j fuel lo _ hm1 (by lia) (by lia) h4 (fun i hi' hlt => ?_)
        rcases Nat.lt_or_ge ((lo + hi) / 2) i with y | y
        · exact Nat.le_trans (by lia) (Nat.le_of_lt (hr _ i y hlt))
        · have : i = (lo + hi) / 2 := by lia
          rw [this]; lia
    · rw [if_neg q]
      have : lo = hi := by lia
      subst this
      exact ⟨h2, h4, h5⟩
theorem below_spec {xs : Array Nat} (hr : Rise xs) (j : Nat) : (SetTable.below xs j ≤ xs.size) ∧ (∀ i, i < SetTable.below xs j → xs.getD i 0 < j) ∧ (∀ i, SetTable.below xs j ≤ i → i < xs.size → j ≤ xs.getD i 0) :=
  below_go xs hr j xs.size 0 xs.size (Nat.zero_le _) (Nat.le_refl _) (by lia) (fun i hi => by lia) (fun i hi hlt => by lia)
theorem below_at {xs : Array Nat} (hr : Rise xs) {i : Nat} (hi : i ≤ xs.size) {j : Nat} (h1 : ∀ k, k < i → xs.getD k 0 < j) (h2 : i < xs.size → j ≤ xs.getD i 0) : SetTable.below xs j = i := by
  obtain ⟨b1, b2, b3⟩ := below_spec hr j
  rcases Nat.lt_or_ge (SetTable.below xs j) i with q | q
  · have := h1 _ q
    have := b3 _ (Nat.le_refl _) (by lia)
    lia
  · rcases Nat.lt_or_ge i (SetTable.below xs j) with z | z
    · have := b2 i z
      have := h2 (by lia)
      lia
    · lia
theorem getD_insertAt (xs : Array Nat) (p j i : Nat) (hp : p ≤ xs.size) : (SetTable.insertAt xs p j).getD i 0 = if i < p then xs.getD i 0 else if i = p then j else xs.getD (i - 1) 0 := by
  unfold SetTable.insertAt
  simp only [Array.getD_eq_getD_getElem?]
  have hs : ((xs.extract 0 p).push j).size = p + 1 := by simp; lia
  by_cases q : i < p
  · rw [if_pos q, Array.getElem?_append_left (by lia), Array.getElem?_push]
    have : i ≠ (xs.extract 0 p).size := by simp; lia
    rw [if_neg this]
    simp [Array.getElem?_extract]; rw [if_pos (by lia)]
  · rw [if_neg q]
    by_cases z : i = p
    · rw [if_pos z, Array.getElem?_append_left (by lia), Array.getElem?_push]
      have : i = (xs.extract 0 p).size := by simp; lia
      rw [if_pos this]; rfl
    · rw [if_neg z, Array.getElem?_append_right (by lia), hs, Array.getElem?_extract]
      by_cases y : i - (p + 1) < xs.size - p
      · rw [if_pos (by simpa using y)]
        congr 2; lia
      · rw [if_neg (by simpa using y)]
        rw [Array.getElem?_eq_none (by lia)]
theorem rise_insert {xs : Array Nat} (hr : Rise xs) {j : Nat} (hj : xs[SetTable.below xs j]? ≠ some j) : Rise (SetTable.insertAt xs (SetTable.below xs j) j) := by
  obtain ⟨b1, b2, b3⟩ := below_spec hr j
  have hlt : ∀ i, SetTable.below xs j ≤ i → i < xs.size → j < xs.getD i 0 := fun i h1 h2 => by
    have h3 := b3 i h1 h2
    rcases Nat.lt_or_ge (SetTable.below xs j) i with q | q
    · have := hr _ i q h2
      have := b3 _ (Nat.le_refl _) (by lia)
      lia
    · have e : i = SetTable.below xs j := by lia
      subst e
      have : xs.getD (SetTable.below xs j) 0 ≠ j := fun e => hj (by
        rw [Array.getD_eq_getD_getElem?, Array.getElem?_eq_getElem h2] at e
        rw [Array.getElem?_eq_getElem h2]
        simpa using e)
      lia
  have hsz : (SetTable.insertAt xs (SetTable.below xs j) j).size = xs.size + 1 := by
    unfold SetTable.insertAt; simp; lia
  intro a b hab hb
  rw [hsz] at hb
  rw [getD_insertAt _ _ _ _ b1, getD_insertAt _ _ _ _ b1]
  generalize hp : SetTable.below xs j = p at *
  by_cases q1 : a < p
  · rw [if_pos q1]
    by_cases q2 : b < p
    · rw [if_pos q2]; exact hr a b hab (by lia)
    · rw [if_neg q2]
      by_cases q3 : b = p
      · rw [if_pos q3]; exact b2 a q1
      · rw [if_neg q3]
        exact Nat.lt_trans (b2 a q1) (hlt _ (by lia) (by lia))
  · have nb1 : ¬ b < p := by lia
    have nb2 : ¬ b = p := by lia
    rw [if_neg q1, if_neg nb1, if_neg nb2]
    by_cases q3 : a = p
    · rw [if_pos q3]
      exact hlt _ (by lia) (by lia)
    · rw [if_neg q3]
      exact hr _ _ (by lia) (by lia)
theorem rise_range (n : Nat) : Rise (Array.range n) := fun i j hij hj => by
  have hj' : j < n := by simpa using hj
  simp [Array.getD_eq_getD_getElem?, hj', show i < n by lia]; lia
theorem rise_list {l : List Nat} (h : l.Pairwise (· < ·)) : Rise l.toArray := fun i j hij hj => by
  have hj' : j < l.length := by simpa using hj
  have := List.pairwise_iff_getElem.mp h i j (by lia) hj' hij
  simpa [Array.getD_eq_getD_getElem?, hj', show i < l.length by lia] using this
theorem rise_nil : Rise #[] := fun i j _ hj => by simp at hj
/-- Rising places, no dummies. -/
def TOk (t : SetTable) : Prop := Rise t.place ∧ t.dummies = #[]
theorem has_nil (j : Nat) : SetTable.has #[] j = false := by simp [SetTable.has]
theorem TOk.slot {t : SetTable} (h : TOk t) (j : Nat) : t.slot j ≠ .dummy := by
  unfold SetTable.slot
  dsimp only
  rw [h.2, has_nil]
  split <;> simp
theorem probe_go {t : SetTable} (h : TOk t) {hashAt : Nat → Int} {hh : Int} : ∀ (fuel : Nat) (p : SetTable.Probe) (j : Nat) (d : Option Nat), p.dummy = none → SetTable.probe.go t hashAt hh fuel p = some (.empty j d) → t.slot j = .empty ∧ d = none
  | 0, p, j, d, _, e => by simp [SetTable.probe.go] at e
  | fuel + 1, p, j, d, hd, e => by
    unfold SetTable.probe.go at e
    cases q : t.slot p.j with
    | empty => rw [q] at e; simp at e; obtain ⟨rfl, rfl⟩ := e; exact ⟨q, hd⟩
    | dummy => exact absurd q (h.slot _)
    | live i =>
      rw [q] at e
      dsimp only at e
      split at e
      · simp at e
      · refine probe_go h fuel _ j d ?_ e
        unfold SetTable.advance
        split
        · exact hd
        · exact hd
theorem freeSlot_ok {t : SetTable} (h : TOk t) {hh : Int} {slot : Nat} {wd : Bool} (e : t.freeSlot hh = some (slot, wd)) : t.place[SetTable.below t.place slot]? ≠ some slot := by
  unfold SetTable.freeSlot at e
  split at e
  · rename_i j dummy q
    unfold SetTable.probe at q
    obtain ⟨h1, h2⟩ := probe_go h _ _ _ _ rfl q
    subst h2
    simp at e
    obtain ⟨rfl, _⟩ := e
    unfold SetTable.slot at h1
    dsimp only at h1
    intro z
    rw [z] at h1
    simp at h1
  · simp at e
theorem standIn_ok (t : SetTable) (n : Nat) : TOk (t.standIn n) ∧ (t.standIn n).led = t.led := ⟨⟨rise_range n, rfl⟩, rfl⟩
theorem orStandIn_ok {t : SetTable} (h : TOk t) (n : Nat) : TOk (t.orStandIn n) ∧ (t.orStandIn n).led = t.led := by
  unfold SetTable.orStandIn
  split
  · exact ⟨h, rfl⟩
  · exact standIn_ok t n
theorem put_ok {t : SetTable} (h : TOk t) {j : Nat} (hj : t.place[SetTable.below t.place j]? ≠ some j) : TOk (t.put j).1 ∧ (t.put j).1.led = t.led := by
  unfold SetTable.put
  dsimp only
  refine ⟨⟨rise_insert h.1 hj, ?_⟩, rfl⟩
  show (if SetTable.has t.dummies j = true then _ else t.dummies) = #[]
  rw [h.2, has_nil]; rfl
theorem layNew_ok {t : SetTable} (h : TOk t) (es : Array (Int × Value)) (hh : Int) (x : Value) : TOk (layNew t es hh x).2.1 ∧ (layNew t es hh x).2.1.led = t.led := by
  unfold layNew
  cases q : t.freeSlot hh with
  | none => exact standIn_ok t _
  | some p =>
    obtain ⟨slot, wd⟩ := p
    have hp := put_ok h (freeSlot_ok h q)
    dsimp only
    generalize t.put slot = r at hp ⊢
    obtain ⟨t', pp⟩ := r
    dsimp only at hp ⊢
    obtain ⟨a, b⟩ := orStandIn_ok hp.1 (SetTable.insertAt es pp (hh, x)).size
    exact ⟨a, b.trans hp.2⟩
theorem relayAll_ok {t : SetTable} (es : Array (Int × Value)) (wanted : Nat) : TOk (relayAll t es wanted).2.1 ∧ (relayAll t es wanted).2.1.led = t.led := by
  unfold relayAll
  cases q : t.relaid (es.map (·.1)) wanted with
  | none => exact standIn_ok t _
  | some p =>
    obtain ⟨t', order⟩ := p
    dsimp only
    split
    · unfold SetTable.relaid SetTable.laid at q
      cases z : SetTable.layClean (SetTable.sizeAbove wanted - 1) (es.map (·.1)) with
      | none => rw [z] at q; simp at q
      | some owner =>
        rw [z] at q
        simp at q
        obtain ⟨rfl, _⟩ := q
        refine ⟨⟨rise_list ?_, rfl⟩, rfl⟩
        rw [List.pairwise_map]
        refine List.Pairwise.filterMap _ (R := (· < ·)) ?_ List.pairwise_lt_range
        intro a b hab c hc d hd
        simp only [Option.map_eq_some_iff] at hc hd
        obtain ⟨_, _, rfl⟩ := hc
        obtain ⟨_, _, rfl⟩ := hd
        exact hab
    · exact standIn_ok t _
end Mine
end
noncomputable section
open PySem PySem.W PyProof.Rows
open PySem.Sem (wp)
set_option Elab.async false
set_option autoImplicit false
set_option linter.unusedVariables false
set_option linter.unusedSimpArgs false
set_option maxRecDepth 4000
namespace Mine
/-- Whether the text tells the order of sets. -/
def byTx (w : World) : Bool := w.params.followText "set-order"
/-- A set of ints ks. -/
structure SI (prog : Program) (w : World) (o : Obj) (es : Array (Int × Value)) (ep : Nat) (t : SetTable) (ks : List Int) : Prop where
  ex : o.ExactSet
  data : o.data = .set es ep t
  el : ElemsOf (intKind prog w) es.toList
  fits : t.fits es.size = true
  tok : TOk t
  led : byTx w = false → t.led = true
  itsAre : ∃ ks', IntsAre (es.toList.map (·.2)) ks' ∧ ks'.Perm ks
section
variable {prog : Program} {w : World} {A : Around} {E : Value → Shared → Prop} {s : Shared} {o : Obj} {es : Array (Int × Value)} {ep : Nat} {t : SetTable} {ks : List Int}
theorem isInt_int (k n : Int) (tk : Tok) : (intKind prog w).is k (.int n tk) = decide (k = n) := KeyKind.is_eq_decide (intKind_is prog w n tk) k
theorem ints_mem {k : Int} : ∀ {l : List (Int × Value)} {ks : List Int}, IntsAre (l.map (·.2)) ks → (k ∈ ks ↔ ∃ e ∈ l, (intKind prog w).is k e.2 = true)
  | [], _, h => by
    cases h
    simp
  | (hh, v) :: l, ks, h => by
    simp only [List.map_cons] at h
    cases h with
    | cons n tk r =>
      rw [List.mem_cons, ints_mem r]
      constructor
      · rintro (rfl | ⟨e, he, q⟩)
        · exact ⟨_, List.mem_cons_self, intKind_is _ _ _ _⟩
        · exact ⟨e, List.mem_cons_of_mem _ he, q⟩
      · rintro ⟨e, he, q⟩
        rcases List.mem_cons.mp he with rfl | he
        · left
          rw [isInt_int] at q
          exact of_decide_eq_true q
        · exact .inr ⟨e, he, q⟩
theorem ints_append : ∀ {vs : List Value} {ns : List Int}, IntsAre vs ns → ∀ {us : List Value} {ms : List Int}, IntsAre us ms → IntsAre (vs ++ us) (ns ++ ms)
  | _, _, .nil, _, _, h => h
  | _, _, .cons n t r, _, _, h => .cons n t (ints_append r h)
theorem ints_perm {vs us : List Value} (p : vs.Perm us) : ∀ {ns : List Int}, IntsAre vs ns → ∃ ms, IntsAre us ms ∧ ms.Perm ns := by
  induction p with
  | nil => exact fun {ns} h => ⟨ns, h, .refl _⟩
  | @cons a l1 l2 _ ih =>
    intro ns h
    cases h with
    | cons n t r =>
      obtain ⟨ms, h1, h2⟩ := ih r
      exact ⟨n :: ms, .cons n t h1, h2.cons n⟩
  | swap a b l =>
    intro ns h
    cases h with
    | cons n t r =>
      cases r with
      | cons m u r => exact ⟨m :: n :: _, .cons m u (.cons n t r), .swap _ _ _⟩
  | trans _ _ ih1 ih2 =>
    intro ns h
    obtain ⟨ms, h1, h2⟩ := ih1 h
    obtain ⟨ls, h3, h4⟩ := ih2 h1
    exact ⟨ls, h3, h4.trans h2⟩
theorem SI.store {h : Heap} {a : Addr} {es' : Array (Int × Value)} {t' : SetTable} {ks' : List Int} (x : SI prog w o es ep t ks) (ho : h.get? a = some o)
    (y : ∀ o' ep', o'.ExactSet → o'.data = .set es' ep' t' → SI prog w o' es' ep' t' ks') :
    ∃ o', (h.update a (Obj.putSet es' t')).get? a = some o' ∧ SI prog w o' es' (ep + 1) t' ks' := by
  have hg : (h.update a (Obj.putSet es' t')).get? a = some { o with data := .set es' (ep + 1) t' } := by
    have := Heap.get?_update_self (Obj.putSet es' t') ho (by rw [putSet_of es' t' x.data]; rfl)
    rw [putSet_of es' t' x.data] at this; exact this
  exact ⟨_, hg, y _ _ x.ex rfl⟩
theorem si_add {a : Addr} {k : Int} {tk : Tok} {Q : Bool → Shared → Prop} (x : SI prog w o es ep t ks) (ho : s.heap.get? a = some o) (hroom : es.size + 1 < scanBound)
    (h : ∀ h' o' es' ep' t', Heap.SameBut a s.heap h' → h'.get? a = some o' → SI prog w o' es' ep' t' (if k ∈ ks then ks else ks ++ [k]) → es'.size ≤ es.size + 1 → ∀ b, Q b { s with heap := h' }) :
    wpAny (model prog w) A (setAddHashed a (.int k tk) ((intKind prog w).hash k)) Q E s := by
  have hkey := intKind_is prog w k tk
  obtain ⟨ks', hi, hpm⟩ := x.itsAre
  have hb : es.size < scanBound := by lia
  unfold setAddHashed setAddHashedIn
  refine wpAny_holding (wpAny_bind (wpAny_setState_of ho x.data x.fits ?_))
  dsimp only
  rw [byScan_of (knd := intKind prog w) rfl hb x.el]
  simp only [↓reduceIte]
  unfold setAddByScan
  refine wpAny_bind (wpAny_bind (wpAny_rule (wpAny_bind (wpAny_setScan_of hkey ho x.data x.fits x.el ?_))))
  cases hr : List.findIdx? (fun e => (intKind prog w).is k e.2) es.toList with
  | some j =>
    dsimp only
    obtain ⟨hj, hpj, _⟩ := List.findIdx?_eq_some_iff_getElem.mp hr
    have hk : k ∈ ks := hpm.mem_iff.mp ((ints_mem hi).mpr ⟨es.toList[j], List.getElem_mem hj, hpj⟩)
    refine wpAny_pure (wpAny_pure ?_)
    have := h s.heap o es ep t (Heap.SameBut.refl a s.heap) ho (by rw [if_pos hk]; exact x) (by lia) false
    exact this
  | none =>
    dsimp only
    have hk : k ∉ ks := fun hk => by
      obtain ⟨e, he, hp⟩ := (ints_mem (prog := prog) (w := w) hi).mp (hpm.mem_iff.mpr hk)
      have := List.findIdx?_eq_none_iff.mp hr e he
      rw [hp] at this; cases this
    rw [if_neg hk] at h
    have hgw : ∀ (b : Bool) {s₁ : Shared} {Q' : Unit → Shared → Prop}, Q' () s₁ → wpAny (model prog w) A (match b with | true => rule "set.scan.the-table-gave-way" | false => pure ()) Q' E s₁ :=
      fun b s₁ Q' hq => by cases b <;> first | exact wpAny_pure hq | exact wpAny_rule hq
    have hperm := layNew_perm t es ((intKind prog w).hash k) (.int k tk)
    have hfits := layNew_fits t es ((intKind prog w).hash k) (.int k tk)
    have htok := layNew_ok x.tok es ((intKind prog w).hash k) (.int k tk)
    generalize hL : layNew t es ((intKind prog w).hash k) (.int k tk) = L at hperm hfits htok ⊢
    obtain ⟨es1, t1, wasDummy, gave⟩ := L
    dsimp only at hperm hfits htok ⊢
    rw [Array.toList_push] at hperm
    have hel1 : ElemsOf (intKind prog w) es1.toList := (x.el.push hkey rfl).perm hperm
    have hsz1 : es1.size = es.size + 1 := by rw [← Array.length_toList, hperm.length_eq, List.length_append, Array.length_toList]; rfl
    have hb1 : es1.size < scanBound := by lia
    have hi1 : ∃ ks', IntsAre (es1.toList.map (·.2)) ks' ∧ ks'.Perm (ks ++ [k]) := by
      have h1 : IntsAre ((es.toList ++ [((intKind prog w).hash k, Value.int k tk)]).map (·.2)) (ks' ++ [k]) := by
        rw [List.map_append]
        exact ints_append hi (.cons k tk .nil)
      obtain ⟨ms, h2, h3⟩ := ints_perm (hperm.symm.map (·.2)) h1
      exact ⟨ms, h2, h3.trans (hpm.append_right _)⟩
    refine wpAny_bind (hgw _ ?_)
    have tail : ∀ (t2 : SetTable), t2.fits es1.size = true → TOk t2 → t2.led = t1.led → ∀ {g : Bool → Sem Unit}, (∀ (b : Bool) (s₁ : Shared) (Q' : Unit → Shared → Prop), Q' () s₁ → wpAny (model prog w) A (g b) Q' E s₁) →
        wpAny (model prog w) A (do
        storeSet a es1 t2
        if (!wasDummy && t2.tooFull) = true then do
            g (relayAll t2 es1 (SetTable.grown es1.size)).2.2
            storeSet a (relayAll t2 es1 (SetTable.grown es1.size)).1 (relayAll t2 es1 (SetTable.grown es1.size)).2.1
            pure (some true)
          else pure (some true)) (fun r s' => r = some true ∧ ∀ b, Q b s') E s := by
      intro t2 hf2 ht2 hl2 g hg
      have mk : ∀ (o' : Obj) (ep' : Nat), o'.ExactSet → o'.data = .set es1 ep' t2 → SI prog w o' es1 ep' t2 (ks ++ [k]) := fun o' ep' h1 h2 =>
        ⟨h1, h2, hel1, hf2, ht2, fun q => by rw [hl2, htok.2]; exact x.led q, hi1⟩
      obtain ⟨o1, ho1, x1⟩ := x.store ho mk
      refine wpAny_bind (wpAny_storeSet_of ho x.data ?_ (fits_of_scanBound hb1))
      have hsb1 := Heap.SameBut.update s.heap a (Obj.putSet es1 t2)
      split
      · have hp := relayAll_perm t2 es1 (SetTable.grown es1.size)
        have hfr := relayAll_fits t2 es1 (SetTable.grown es1.size)
        have htr := relayAll_ok (t := t2) es1 (SetTable.grown es1.size)
        generalize hRl : relayAll t2 es1 (SetTable.grown es1.size) = Rl at hp hfr htr ⊢
        obtain ⟨es2, t3, gave2⟩ := Rl
        dsimp only at hp hfr htr ⊢
        have hsz : es2.size = es1.size := by rw [← Array.length_toList, hp.length_eq, Array.length_toList]
        have mk2 : ∀ (o' : Obj) (ep' : Nat), o'.ExactSet → o'.data = .set es2 ep' t3 → SI prog w o' es2 ep' t3 (ks ++ [k]) := fun o' ep' h1 h2 => by
          refine ⟨h1, h2, hel1.perm hp, hfr, htr.1, fun q => by rw [htr.2, hl2, htok.2]; exact x.led q, ?_⟩
          obtain ⟨ms, h3, h4⟩ := hi1
          obtain ⟨ls, h5, h6⟩ := ints_perm (hp.symm.map (·.2)) h3
          exact ⟨ls, h5, h6.trans h4⟩
        refine wpAny_bind (hg _ _ _ ?_)
        refine wpAny_bind (wpAny_storeSet_of ho1 x1.data ?_ (fits_of_scanBound (by lia)))
        obtain ⟨o2, ho2, x2⟩ := x1.store ho1 mk2
        exact wpAny_pure ⟨rfl, h _ o2 es2 _ t3 (hsb1.trans (Heap.SameBut.update _ a _)) ho2 x2 (by lia)⟩
      · exact wpAny_pure ⟨rfl, h _ o1 es1 _ t2 hsb1 ho1 x1 (by lia)⟩
    split
    · refine wpAny_bind ?_
      rw [hashByValue_scannable 8 rfl]
      refine wpAny_pure ?_
      refine wpAny_mono (tail _ ?_ ?_ ?_ ?_) (fun r s' q => ?_) fun _ _ e => e
      · exact hfits
      · exact htok.1
      · rfl
      · intro b s₁ Q' hq; cases b <;> first | exact wpAny_pure hq | exact wpAny_rule hq
      · obtain ⟨rfl, q⟩ := q; exact wpAny_pure (q _)
    · refine wpAny_bind (wpAny_pure ?_)
      simp only [↓reduceIte]
      refine wpAny_mono (tail t1 hfits htok.1 rfl ?_) (fun r s' q => ?_) fun _ _ e => e
      · intro b s₁ Q' hq; cases b <;> first | exact wpAny_pure hq | exact wpAny_rule hq
      · obtain ⟨rfl, q⟩ := q; exact wpAny_pure (q _)
end
end Mine
end
noncomputable section
open PySem PySem.W PyProof.Rows
open PySem.Sem (wp)
set_option Elab.async false
set_option autoImplicit false
set_option linter.unusedVariables false
set_option linter.unusedSimpArgs false
set_option maxRecDepth 100000
namespace Mine
def dd (acc l : List Int) : List Int := l.foldl (fun acc k => if k ∈ acc then acc else acc ++ [k]) acc
def SIat (prog : Program) (w : World) (h : Heap) (a : Addr) (ks : List Int) (n : Nat) : Prop := ∃ o es ep t, h.get? a = some o ∧ SI prog w o es ep t ks ∧ es.size ≤ n
section
variable {prog : Program} {w : World} {A : Around} {E : Value → Shared → Prop} {s : Shared}
theorem upd_loop {R : Result → Shared → Prop} {S I L : Addr} {vs : List Value} {ns : List Int} (hh : A.handled = none) (hi : IntsAre vs ns) (hSI : S ≠ I) (hLI : L ≠ I) (hSL : S ≠ L) (hb : vs.length ≤ 1000) :
    ∀ (rem i : Nat) (s : Shared) (acc : List Int), vs.length - i = rem → i ≤ vs.length → s.heap.IsListIter I L i → s.heap.IsList L vs.toArray → SIat prog w s.heap S acc i →
      (∀ h' tk, SIat prog w h' S (dd acc (ns.drop i)) vs.length → (∀ b o, b ≠ S → b ≠ I → s.heap.get? b = some o → h'.get? b = some o) → R (.ok (.ret .none)) { s with heap := h', toks := tk }) →
      codeAny (model prog w) A (.builtin "set.update.loop" ⟨[.ref S, .ref I], []⟩) R s := by
  have hnl : vs.length = ns.length := hi.length
  intro rem
  induction rem with
  | zero =>
    intro i s acc hrem hile hit hl hS hR
    have hiv : i = vs.length := by lia
    refine codeAny_builtin PyProof.Rows.F.entry_set_update_loop ?_
    rw [Around.under_plainId PyProof.Rows.F.plain_set_update_loop _]
    show wpAny _ A.in1 (pyNext (.ref I) >>= _) _ _ s
    have W := Walks.list (prog := prog) (w := w) (A := A.in1) hh I L hLI vs.toArray
    refine wpAny_bind (W.done s _ _ ⟨by rw [List.size_toArray, ← hiv]; exact hit, hl⟩ fun h' tk hk => ?_)
    show wpAny _ A.in1 (ret Value.none) _ _ _
    refine wpAny_pure (hR h' tk ?_ fun b o n1 n2 e => hk b o (by simpa using n2) e)
    have : ns.drop i = [] := List.drop_of_length_le (by lia)
    rw [this]
    obtain ⟨o, es, ep, t, ho, x, hsz⟩ := hS
    exact ⟨o, es, ep, t, hk S o (by simpa using hSI) ho, x, by lia⟩
  | succ rem ih =>
    intro i s acc hrem hile hit hl hS hR
    have hlt : i < vs.length := by lia
    refine codeAny_builtin PyProof.Rows.F.entry_set_update_loop ?_
    rw [Around.under_plainId PyProof.Rows.F.plain_set_update_loop _]
    show wpAny _ A.in1 (pyNext (.ref I) >>= _) _ _ s
    have W := Walks.list (prog := prog) (w := w) (A := A.in1) hh I L hLI vs.toArray
    refine wpAny_bind (W.item i s _ _ (by simpa using hlt) ⟨hit, hl⟩ fun v h' tk hv st hk => ?_)
    obtain ⟨tv, rfl⟩ := PyProof.Rows.IntsAre.int_at hi i v (by simpa using hv)
    obtain ⟨o, es, ep, t, ho, x, hsz⟩ := hS
    have ho' : h'.get? S = some o := hk S o (by simpa using hSI) ho
    show wpAny _ A.in1 (holding [Value.int (ns.getD i 0) tv] (setAdd S (.int (ns.getD i 0) tv)) >>= _) _ _ _
    refine wpAny_bind (wpAny_holding ?_)
    unfold setAdd
    refine wpAny_holding ?_
    refine wpAny_bind ((intKind prog w).pyHash (k := ns.getD i 0) (intKind_is _ _ _ _) ?_)
    refine si_add (s := { s with heap := h', toks := tk + 1 }) x ho' (by unfold scanBound; lia) fun h2 o2 es2 ep2 t2 hsb ho2 x2 hs2 bb => ?_
    have hsucc : ns.drop i = ns.getD i 0 :: ns.drop (i + 1) := by
      rw [List.drop_eq_getElem_cons (by lia)]
      congr 1
      rw [List.getD_eq_getElem?_getD, List.getElem?_eq_getElem (by lia)]; rfl
    refine wpAny_pure ⟨plainId_quiet PyProof.Rows.F.plain_set_update_loop _, ih (i + 1) _ (if ns.getD i 0 ∈ acc then acc else acc ++ [ns.getD i 0]) (by lia) hlt (st.1.at fun o e => (hsb.2 I (Ne.symm hSI)).trans e) (st.2.at fun o e => (hsb.2 L (Ne.symm hSL)).trans e) ⟨o2, es2, ep2, t2, ho2, x2, by lia⟩ fun h3 tk3 hS3 hk3 => ?_⟩
    refine hR h3 tk3 ?_ fun b o n1 n2 e => hk3 b o n1 n2 ((hsb.2 b n1).trans (hk b o (by simpa using n2) e))
    rw [hsucc]
    exact hS3
theorem callType_check {T newId initId : String} {Bi : Builtin} {args : List Value} {Q Q₁ : Value → Shared → Prop} (ft : TypeCalled T newId initId)
    (hct : checkTypeCall T ⟨args, []⟩ = pure ()) (entryI : entryFor table initId = some Bi)
    (hnew : codeAny (model prog w) A.in1 (.call (.builtin newId) ⟨.type T :: args, []⟩) (wants Q₁ E) s)
    (hnext : ∀ obj s₁, Q₁ obj s₁ → s₁.TypeIs obj T ∧ (∀ (M : Model) (A' : Around) (Q' : Unit → Shared → Prop) (E' : Value → Shared → Prop), Q' () s₁ → wpAny M A' (checkBuiltinCall initId ⟨obj :: args, []⟩) Q' E' s₁) ∧
      wpAny (model prog w) A.in1.in1 (Bi ⟨obj :: args, []⟩)
        (fun fin s' => match fin with | .done f => wants (fun r s₂ => r = .none ∧ Q obj s₂) E (.ok f) s' | .again c' => c'.quiet = true ∧ codeAny (model prog w) A.in1 c' (wants (fun r s₂ => r = .none ∧ Q obj s₂) E) s')
        (fun e s' => wants (fun r s₂ => r = .none ∧ Q obj s₂) E (.error e) s') s₁) :
    wpAny (model prog w) A (call (.type T) args) Q E s := by
  obtain ⟨c, tl, hmro⟩ := ft.mro
  refine wpAny_call (codeAny_of_tree ?_)
  show wpAny _ _ (callAny (.type T) _) _ _ _
  refine wpAny_pure ⟨Code.quiet_builtin _ (by decide +kernel), codeAny_builtin F.entry_type_call ?_⟩
  rw [Around.under_plain (weight_type_call_type T args []) rfl]
  have h1 := ft.notType
  have h2 := ft.canCreate
  unfold Builtin.«type.__call__»
  dsimp only
  rw [h1, if_neg Bool.false_ne_true, h2, if_neg Bool.false_ne_true]
  refine wpAny_bind (wpAny_of_eq hct ?_)
  refine wpAny_bind (wpAny_of_eq hmro ?_)
  dsimp only [List.isEmpty_cons]
  rw [if_neg Bool.false_ne_true]
  refine wpAny_bind (wpAny_of_eq ft.made ?_)
  dsimp only
  refine wpAny_bind (wpAny_pure ?_)
  refine wpAny_bind (wpAny_holding (wpAny_call (codeAny_mono hnew fun r s₁ hr => ?_)))
  cases r with
  | error e => exact hr
  | ok fl =>
    cases fl with
    | ret obj =>
      obtain ⟨hT, hsi⟩ := hnext _ _ hr
      refine wpAny_bind (wpAny_isInstance hT ft.sub ?_)
      show wpAny _ _ (if false = true then _ else _) _ _ _
      rw [if_neg Bool.false_ne_true]
      refine wpAny_bind (wpAny_holding (wpAny_callSpecial?_slot hT ft.init ?_))
      refine wpAny_call (codeAny_call_builtin ft.init.plain entryI (hsi.1 _ _ _ _ ?_))
      refine wpAny_mono hsi.2 (fun fin s' hf => ?_) fun e s' he => ?_
      · cases fin with
        | done f =>
          cases f with
          | ret r =>
            obtain ⟨rfl, hq⟩ := hf
            exact wpAny_pure hq
          | _ => exact hf.elim
        | again c' =>
          refine ⟨hf.1, codeAny_mono hf.2 fun r s2 hr2 => ?_⟩
          cases r with
          | error e => exact hr2
          | ok f =>
            cases f with
            | ret r =>
              obtain ⟨rfl, hq⟩ := hr2
              exact wpAny_pure hq
            | _ => exact hr2.elim
      · exact he
    | _ => exact hr.elim
end
end Mine
end
noncomputable section
open PySem PySem.W PyProof.Rows
open PySem.Sem (wp)
set_option Elab.async false
set_option autoImplicit false
set_option linter.unusedVariables false
set_option linter.unusedSimpArgs false
set_option maxRecDepth 100000
namespace Mine
section
variable {prog : Program} {w : World} {A : Around} {E : Value → Shared → Prop} {s : Shared}
def freshSet (w : World) : Obj := { cls := .type "set", dict := none, data := .set #[] 0 (.fresh 0 0 (!byTx w)) }
theorem code_set_new (a : Value) {Q₁ : Value → Shared → Prop}
    (h : Q₁ (.ref s.heap.objs.size) { s with heap := s.heap.push (freshSet w) }) :
    codeAny (model prog w) A (.call (.builtin "set.__new__") ⟨[.type "set", a], []⟩) (wants Q₁ E) s := by
  refine codeAny_of_tree ?_
  show wpAny _ A.in1 (do checkBuiltinCall "set.__new__" ⟨[.type "set", a], []⟩; again (.builtin "set.__new__" ⟨[.type "set", a], []⟩)) _ _ s
  refine wpAny_bind (wpAny_of_eq (PySem.F.newCall_set_1 a) (wpAny_pure ⟨plainId_quiet PySem.F.plain_set_new _, codeAny_builtin PySem.F.entry_set_new ?_⟩))
  rw [Around.under_plainId PySem.F.plain_set_new _]
  unfold Builtin.«set.__new__» Builtin.Frozenset.newClass
  have hsub := sub_set_self
  obtain ⟨hp, g, d, tk, os⟩ := s
  dsimp only
  wp_walk
  refine wpAny_askSetting (wpAny_pure ?_)
  dsimp only
  simp only [newObj]
  refine wpAny_bind (wpAny_alloc (wpAny_pure ?_))
  exact wpAny_pure h
theorem si_fresh : SI prog w (freshSet w) #[] 0 (.fresh 0 0 (!byTx w)) [] :=
  ⟨⟨rfl, rfl, rfl⟩, rfl, fun e he => by simp at he, rfl, ⟨rise_nil, rfl⟩, fun q => by simp [SetTable.fresh, q], [], .nil, .refl _⟩
set_option maxHeartbeats 3200000 in
theorem call_set {l : Addr} {vs : List Value} {ns : List Int} {Q : Value → Shared → Prop}
    (hh : A.handled = none) (hl : s.heap.IsList l vs.toArray) (hi : IntsAre vs ns) (hb : vs.length ≤ 1000)
    (h : ∀ (h' : Heap) (tk : Nat), SIat prog w h' s.heap.objs.size (dd [] ns) vs.length → Sub s.heap h' → Q (.ref s.heap.objs.size) { s with heap := h', toks := tk }) :
    wpAny (model prog w) A (call (.type "set") [.ref l]) Q E s := by
  refine callType_check (Q₁ := fun obj s₁ => obj = .ref s.heap.objs.size ∧ s₁ = { s with heap := s.heap.push (freshSet w) }) PySem.F.called_set (PySem.F.typeCall_set_1 _) PySem.F.entry_set_init (code_set_new _ ⟨rfl, rfl⟩) fun obj s₁ h₁ => ?_
  obtain ⟨rfl, rfl⟩ := h₁
  have hS : (s.heap.push (freshSet w)).get? s.heap.objs.size = some (freshSet w) := Heap.get?_push_size _ rfl
  have hT : Shared.TypeIs { s with heap := s.heap.push (freshSet w) } (.ref s.heap.objs.size) "set" := ⟨_, hS, rfl⟩
  refine ⟨hT, fun M A' Q' E' hq => check_set_init_1 hT hq, ?_⟩
  obtain ⟨ol, hol, hcl, nl, hdl⟩ := hl
  obtain ⟨ocls, odict, odata, oslots⟩ := ol
  simp only at hcl hdl
  subst hcl; subst hdl
  have hol' : (s.heap.push (freshSet w)).get? l = some { cls := .type "list", dict := odict, data := .seq vs.toArray nl, slots := oslots } := Heap.get?_push_of_some _ hol
  have hsls := PySem.F.sub_list_set
  have hslf := PySem.F.sub_list_frozenset
  have hne : (Value.type "list" == Value.type "dict") = false := by decide
  have hl1 : (s.heap.push (freshSet w)).IsList l vs.toArray := ⟨_, hol', rfl, nl, rfl⟩
  have hS' : (s.heap.push (freshSet w)).get? s.heap.objs.size = some { cls := .type "set", dict := none, data := .set #[] 0 (.fresh 0 0 (!byTx w)) } := hS
  unfold Builtin.«set.__init__» noKeywords Builtin.Frozenset.updateFrom
  generalize hPI : pyIter = PI
  generalize hHp : s.heap.push (freshSet w) = hp1 at *
  wp_walk
  subst hPI
  refine wpAny_pyIter_list hl1 ?_
  refine wpAny_bind (wpAny_runValue ?_)
  have hlS : l < s.heap.objs.size := Heap.lt_size hol
  have hsz : hp1.objs.size = s.heap.objs.size + 1 := by rw [← hHp, Heap.size_push]
  have hneI : l ≠ hp1.objs.size := by rw [hsz]; exact Nat.ne_of_lt (Nat.lt_succ_of_lt hlS)
  have hSI : s.heap.objs.size ≠ hp1.objs.size := by rw [hsz]; exact Nat.ne_of_lt (Nat.lt_succ_self _)
  refine upd_loop (by simp [hh]) hi hSI hneI (Nat.ne_of_gt hlS) hb (vs.length - 0) 0 _ [] rfl (Nat.zero_le _) ⟨_, Heap.get?_push_size _ rfl, rfl, rfl⟩ (hl1.push _) ⟨freshSet w, #[], 0, _, Heap.get?_push_of_some _ hS, si_fresh, Nat.zero_le _⟩ fun h' tk hS2 hk => ?_
  refine wpAny_pure ?_
  show wpAny _ _ (ret Value.none) _ _ _
  refine wpAny_pure ⟨rfl, h h' tk (by simpa using hS2) fun b o e => hk b o ?_ ?_ ?_⟩
  · exact Nat.ne_of_lt (Heap.lt_size e)
  · rw [hsz]; exact Nat.ne_of_lt (Nat.lt_succ_of_lt (Heap.lt_size e))
  · exact Heap.get?_push_of_some _ (by rw [← hHp]; exact Heap.get?_push_of_some _ e)
end
end Mine
end
noncomputable section
open PySem PySem.W PyProof.Rows
open PySem.Sem (wp)
set_option Elab.async false
set_option autoImplicit false
set_option linter.unusedVariables false
set_option linter.unusedSimpArgs false
set_option maxRecDepth 100000
namespace Mine
/-! The order in which a set is gone through. -/
theorem perm_take {α : Type} : ∀ (l : List α) (i : Nat) (x : α), l[i]? = some x → (x :: l.eraseIdx i).Perm l
  | [], i, x, h => by simp at h
  | a :: l, 0, x, h => by simp at h; subst h; simp
  | a :: l, i + 1, x, h => by
    have h' : l[i]? = some x := by simpa using h
    rw [List.eraseIdx_cons_succ]
    exact (List.Perm.swap a x _).trans ((perm_take l i x h').cons a)
theorem pick_go {α : Type} (next : Nat → Nat) : ∀ (fuel k : Nat) (left : List α) (out : Array α), left.length ≤ fuel → (pickOrder.go next fuel k left out).toList.Perm (out.toList ++ left)
  | 0, k, left, out, h => by
    have : left = [] := List.eq_nil_of_length_eq_zero (by lia)
    subst this
    unfold pickOrder.go; simp
  | fuel + 1, k, left, out, h => by
    unfold pickOrder.go
    cases q : left[next k % left.length]? with
    | none =>
      have hl : left.length = 0 := by
        rcases Nat.eq_zero_or_pos left.length with z | z
        · exact z
        · have := Nat.mod_lt (next k) z
          rw [List.getElem?_eq_getElem this] at q; cases q
      have : left = [] := List.eq_nil_of_length_eq_zero hl
      subst this
      simp
    | some x =>
      dsimp only
      have hlen : (left.eraseIdx (next k % left.length)).length ≤ fuel := by
        have := (perm_take left _ x q).length_eq
        simp at this; lia
      refine (pick_go next fuel (k + 1) _ _ hlen).trans ?_
      rw [Array.toList_push, List.append_assoc]
      exact (perm_take left _ x q).append_left _
theorem pick_perm {α : Type} (next : Nat → Nat) (xs : Array α) : (pickOrder next xs).toList.Perm xs.toList := by
  have := pick_go next xs.size 0 xs.toList #[] (by simp)
  simpa [pickOrder] using this
section
variable {prog : Program} {w : World} {A : Around} {E : Value → Shared → Prop} {s : Shared}
theorem wpAny_choose {src : Source} {n : Nat} {Q : Nat → Shared → Prop} (hn : n ≠ 0) (h : ∀ i d, i < n → Q i { s with drawn := d }) : wpAny (model prog w) A (choose src n) Q E s := fun Γ p _ => by
  show wp _ Γ (.choose src n .pure) _ _ p s
  rw [Sem.wp_choose]
  exact ⟨hn, h _ _ (Nat.mod_lt _ (by lia))⟩
theorem draw_perm {α : Type} {Q : List α → Shared → Prop} : ∀ (n : Nat) (xs : List α) (s : Shared), xs.length ≤ n → (∀ ys d, ys.Perm xs → Q ys { s with drawn := d }) → wpAny (model prog w) A (drawOrder n xs) Q E s
  | 0, xs, s, hl, h => by
    have : xs = [] := List.eq_nil_of_length_eq_zero (by lia)
    subst this
    unfold drawOrder
    exact wpAny_pure (h [] s.drawn (.refl _))
  | n + 1, [], s, hl, h => by
    unfold drawOrder
    exact wpAny_pure (h [] s.drawn (.refl _))
  | n + 1, x :: xs, s, hl, h => by
    unfold drawOrder
    refine wpAny_bind (wpAny_choose (by simp) fun i d hi => ?_)
    obtain ⟨y, hy⟩ : ∃ y, (x :: xs)[i]? = some y := ⟨_, List.getElem?_eq_getElem hi⟩
    rw [hy]
    dsimp only
    have hp := perm_take _ i y hy
    have hlen : ((x :: xs).eraseIdx i).length ≤ n := by
      have := hp.length_eq
      simp only [List.length_cons] at this hl; lia
    refine wpAny_bind (draw_perm n _ { s with drawn := d } hlen fun ys d2 hys => wpAny_pure (h (y :: ys) d2 ((hys.cons y).trans hp)))
variable {o : Obj} {es : Array (Int × Value)} {ep : Nat} {t : SetTable} {ks : List Int}
/-- How an iterator over the set at S stands: first and the i-th. -/
def itObj (first : Value) (i : Nat) (last : Value) (n ep : Nat) : Obj := { cls := .type "set_iterator", data := .fields #[first, rawInt i, last, rawInt n, rawInt ep] }
/-- The three ways to go through a set. -/
inductive Way (w : World) (S : Addr) (es : Array (Int × Value)) (ep : Nat) (t : SetTable) (h : Heap) : List Value → (Nat → Value) → Prop
  | text : byTx w = true → Way w S es ep t h ((pickOrder (w.params.setOrder S ep) es).toList.map (·.2)) (fun _ => rawInt 0)
  | place : byTx w = false → (!t.plain && decide (es.size > 1)) = false → Way w S es ep t h (es.toList.map (·.2)) (fun i => rawInt ((if i = 0 then 0 else t.place.getD (i - 1) 0 + 1 : Nat) : Int))
  | drawn (P : Addr) (places : List Nat) : byTx w = false → places.Perm (List.range es.size) → h.IsTuple P (places.map fun (i : Nat) => rawInt i).toArray → Way w S es ep t h (places.filterMap fun i => es[i]?.map (·.2)) (fun _ => .ref P)
end
end Mine
end
noncomputable section
open PySem PySem.W PyProof.Rows
open PySem.Sem (wp)
set_option Elab.async false
set_option autoImplicit false
set_option linter.unusedVariables false
set_option linter.unusedSimpArgs false
set_option maxRecDepth 100000
namespace Mine
theorem sit_slot_next : Slot "set_iterator" "__next__" "set_iterator.__next__" :=
  .of (owner := "set_iterator") (n := "__next__") (by rw [typeLookup_type, builtinLookup_eq_fast]; kernel_rfl) (by decide +kernel) (by decide +kernel) (by decide +kernel)
    (by first | exact .inl (by decide +kernel) | exact .inr (by decide +kernel)) (by rw [isSubtype_type]; kernel_rfl)
theorem sit_entry_next : entryFor table "set_iterator.__next__" = some Builtin.«set_iterator.__next__» := entryFor_of_tree (by kernel_rfl)
theorem sit_args_next (a : Value) : argsOk "set_iterator.__next__" ⟨[a], []⟩ := by unfold argsOk; kernel_rfl
theorem sit_slot_iter : Slot "set_iterator" "__iter__" "set_iterator.__iter__" :=
  .of (owner := "set_iterator") (n := "__iter__") (by rw [typeLookup_type, builtinLookup_eq_fast]; kernel_rfl) (by decide +kernel) (by decide +kernel) (by decide +kernel)
    (by first | exact .inl (by decide +kernel) | exact .inr (by decide +kernel)) (by rw [isSubtype_type]; kernel_rfl)
theorem sit_entry_iter : entryFor table "set_iterator.__iter__" = some Builtin.«dict_keyiterator.__iter__» :=
  entryFor_alias (id' := "dict_keyiterator.__iter__") (by rw [fastTable_eq_tree]; kernel_rfl) (by first | rfl | decide +kernel) (by decide +kernel) (by rw [fastTable_eq_tree]; kernel_rfl)
theorem sit_args_iter (a : Value) : argsOk "set_iterator.__iter__" ⟨[a], []⟩ := by unfold argsOk; kernel_rfl
theorem set_entry_iter : entryFor table "set.__iter__" = some Builtin.«frozenset.__iter__» :=
  entryFor_alias (id' := "frozenset.__iter__") (by rw [fastTable_eq_tree]; kernel_rfl) (by first | rfl | decide +kernel) (by decide +kernel) (by rw [fastTable_eq_tree]; kernel_rfl)
section
variable {prog : Program} {w : World} {A : Around} {E : Value → Shared → Prop} {s : Shared}
variable {o : Obj} {es : Array (Int × Value)} {ep : Nat} {t : SetTable} {ks : List Int} {S I : Addr}
theorem byText_ask {M : Model} {A : Around} {Q : Bool → Shared → Prop} (h : Q (M.w.params.followText "set-order") s) : wpAny M A setsByText Q E s := by
  unfold setsByText
  exact wpAny_bind (wpAny_askSetting (wpAny_pure h))
theorem itObj_type {first last : Value} {i n e : Nat} (h : s.heap.get? I = some (itObj first i last n e)) : s.TypeIs (.ref I) "set_iterator" := ⟨_, h, rfl⟩
theorem stop_none {Q : Option Value → Shared → Prop} (hh : A.handled = none) {h : Heap} (hQ : ∀ h', Sub h h' → Q none { s with heap := h' }) :
    wpAny (model prog w) A.in1 (do raiseNew (← newExc (.type "StopIteration") []) : Sem PySem.Fin) (fun fin s' => ∃ v, fin = .done (.ret v) ∧ wpAny (model prog w) A (match (Except.ok (some v) : Except Value (Option Value)) with
      | .ok (some v) => pure (some v)
      | .ok none => unsupported "iter:the-iterator's-class-has-lost-its-__next__-amid-the-walk"
      | .error e => do if ← isInstance e (.type "StopIteration") then pure none else throw e) Q E s')
      (fun e s' => wpAny (model prog w) A (match (Except.error e : Except Value (Option Value)) with
      | .ok (some v) => pure (some v)
      | .ok none => unsupported "iter:the-iterator's-class-has-lost-its-__next__-amid-the-walk"
      | .error e => do if ← isInstance e (.type "StopIteration") then pure none else throw e) Q E s') { s with heap := h } := by
  refine wpAny_bind ?_
  simp only [newExc, newTuple]
  refine wpAny_bind (wpAny_newObj_type ?_ (by size_fits))
  refine wpAny_bind (m := firstArgMember _ _) (wpAny_of_eq (a := Value.none) (by first | rfl | (simp only [firstArgMember]; rfl)) ?_)
  refine wpAny_newObj_type ?_ (by size_fits)
  simp only [raiseNew]
  refine wpAny_bind (wpAny_handled ?_)
  rw [show A.in1.handled = none from hh]
  refine wpAny_bind (wpAny_pure (wpAny_throw ?_))
  refine wpAny_bind (wpAny_isInstance (T := "StopIteration") (b := true) ⟨_, Heap.get?_push_size _ rfl, rfl⟩ isSubtype_stop ?_)
  exact wpAny_pure (hQ _ fun b o e => Heap.get?_push_of_some _ (Heap.get?_push_of_some _ e))
theorem itObj_set {first last y : Value} {i n e k : Nat} {h : Heap} (hI : h.get? I = some (itObj first i last n e)) (f : Array Value) (hf : (#[first, rawInt i, last, rawInt n, rawInt e] : Array Value).setIfInBounds k y = f) :
    (h.update I (Obj.mapFields (·.setIfInBounds k y))).get? I = some { cls := .type "set_iterator", data := .fields f } := by
  have := Heap.get?_update_self (Obj.mapFields (·.setIfInBounds k y)) hI rfl
  rw [this]
  simp [itObj, Obj.mapFields, hf]
theorem sit_next {i : Nat} {ord : List Value} {first : Nat → Value} {Q : Option Value → Shared → Prop} (hh : A.handled = none) (x : SI prog w o es ep t ks) (wy : Way w S es ep t s.heap ord first) (hi : i ≤ ord.length) (hS : s.heap.get? S = some o) (hI : s.heap.get? I = some (itObj (first i) i (.ref S) es.size ep))
    (hQ : ∀ v, ord[i]? = some v → ∀ h', h'.get? I = some (itObj (first (i + 1)) (i + 1) (.ref S) es.size ep) → Heap.SameBut I s.heap h' → Q (some v) { s with heap := h' })
    (hN : ord[i]? = none → ∀ h', (∀ b o, b ≠ I → s.heap.get? b = some o → h'.get? b = some o) → Q none { s with heap := h' }) :
    wpAny (model prog w) A (pyNext (.ref I)) Q E s := by
  unfold pyNext
  refine wpAny_bind (wpAny_attempt (wpAny_callSpecial?_slot (name := Str.ofString "__next__") (itObj_type hI) sit_slot_next
    (wpAny_call_entry sit_slot_next (itObj_type hI) sit_entry_next ?_ (sit_args_next _))))
  unfold Builtin.«set_iterator.__next__»
  refine wpAny_bind (wpAny_of_eq (a := (.ref I, [])) rfl ?_)
  show wpAny _ _ (fieldsOf (.ref I) >>= _) _ _ _
  refine wpAny_bind (wpAny_fieldsOf hI rfl ?_)
  dsimp only
  refine wpAny_bind (m := setEntries S) (wpAny_setEntries_of hS x.data x.fits ?_)
  rw [if_neg (by simp)]
  have stopped : ∀ (k : Nat) (y : Value), ord[i]? = none → ∀ {h0 : Heap}, (∀ b o, b ≠ I → s.heap.get? b = some o → h0.get? b = some o) → ∀ h', Sub (h0.update I (Obj.mapFields (·.setIfInBounds k y))) h' → Q none { s with heap := h' } := fun k y hn h0 h0k h' hsub =>
    hN hn h' fun b o hb e => hsub b o ((Heap.get?_update_other _ _ (Ne.symm hb)).trans (h0k b o hb e))
  cases wy with
  | text hbt =>
    dsimp only [rawInt]
    have e1 : setNext S (0 : Int).toNat ((i : Int)).toNat ((ep : Int)).toNat = setNext S 0 i ep := by simp
    rw [e1]
    have key : ∀ {Q1 : Option (Value × Nat) → Shared → Prop} {E1 : Value → Shared → Prop}, Q1 (((pickOrder (w.params.setOrder S ep) es)[i]?).map fun e => (e.2, 0)) s → wpAny (model prog w) A.in1 (setNext S 0 i ep) Q1 E1 s := fun hq => by
      unfold setNext
      refine wpAny_bind (wpAny_setState_of hS x.data x.fits ?_)
      dsimp only
      refine wpAny_bind (byText_ask ?_)
      rw [if_pos (show (model prog w).w.params.followText "set-order" = true from hbt)]
      rw [if_neg (by simp)]
      refine wpAny_bind ?_
      unfold setWalk
      refine wpAny_bind (wpAny_setState_of hS x.data x.fits ?_)
      dsimp only
      refine wpAny_bind (byText_ask ?_)
      rw [if_pos (show (model prog w).w.params.followText "set-order" = true from hbt)]
      refine wpAny_bind (wpAny_askSetting (wpAny_pure ?_))
      exact wpAny_pure hq
    refine wpAny_bind (key ?_)
    have hgi : ((pickOrder (w.params.setOrder S ep) es).toList.map (·.2))[i]? = ((pickOrder (w.params.setOrder S ep) es)[i]?).map (·.2) := by simp
    cases q : (pickOrder (w.params.setOrder S ep) es)[i]? with
    | none =>
      rw [q] at hgi
      dsimp only [Option.map]
      refine wpAny_bind (wpAny_setField hI rfl (by simp) ?_)
      exact stop_none hh (stopped 2 _ hgi fun b o _ e => e)
    | some p =>
      rw [q] at hgi
      dsimp only [Option.map]
      have hI1 := itObj_set (y := rawInt 0) (k := 0) hI #[rawInt 0, rawInt i, .ref S, rawInt es.size, rawInt ep] (by simp)
      refine wpAny_bind (wpAny_setField hI rfl (by simp) ?_)
      have hI2 := itObj_set (first := rawInt 0) (last := .ref S) (i := i) (n := es.size) (e := ep) (y := rawInt ((i : Int) + 1)) (k := 1) hI1 #[rawInt 0, rawInt ((i + 1 : Nat) : Int), .ref S, rawInt es.size, rawInt ep] (by simp)
      refine wpAny_bind (wpAny_setField hI1 rfl (by simp) ?_)
      refine wpAny_pure ⟨_, rfl, wpAny_pure (hQ _ hgi _ hI2 ((Heap.SameBut.update ..).trans (Heap.SameBut.update ..)))⟩
  | place hbt hdr =>
    have hf := x.fits
    simp only [SetTable.fits, Bool.and_eq_true, beq_iff_eq, decide_eq_true_eq] at hf
    have hps : t.place.size = es.size := hf.1
    have hile : i ≤ es.size := by simpa using hi
    dsimp only [rawInt]
    have e1 : ∀ m : Nat, setNext S (m : Int).toNat ((i : Int)).toNat ((ep : Int)).toNat = setNext S m i ep := fun m => by simp
    rw [e1]
    have hbelow : SetTable.below t.place (if i = 0 then 0 else t.place.getD (i - 1) 0 + 1) = i := by
      refine below_at x.tok.1 (by lia) (fun k hk => ?_) (fun hlt => ?_)
      · rw [if_neg (by lia)]
        rcases Nat.lt_or_ge k (i - 1) with z | z
        · have := x.tok.1 k (i - 1) z (by lia); lia
        · rw [show k = i - 1 by lia]; lia
      · by_cases z : i = 0
        · rw [if_pos z]; exact Nat.zero_le _
        · rw [if_neg z]
          have := x.tok.1 (i - 1) i (by lia) hlt; lia
    have key : ∀ {Q1 : Option (Value × Nat) → Shared → Prop} {E1 : Value → Shared → Prop}, Q1 (match es[i]?, t.place[i]? with
        | some (_, x), some j => some (x, j + 1)
        | _, _ => none) s → wpAny (model prog w) A.in1 (setNext S (if i = 0 then 0 else t.place.getD (i - 1) 0 + 1) i ep) Q1 E1 s := fun hq => by
      unfold setNext
      refine wpAny_bind (wpAny_setState_of hS x.data x.fits ?_)
      dsimp only
      refine wpAny_bind (byText_ask ?_)
      have hbf : (model prog w).w.params.followText "set-order" = false := hbt
      rw [hbf, if_neg Bool.false_ne_true]
      refine bm_if_false hdr ?_
      refine wpAny_bind (wpAny_of_eq (a := ()) (by
        show (if (!t.led && !es.isEmpty) = true then unsupported "set:maker-not-led" else pure () : Sem Unit) = pure ()
        rw [x.led hbt]; rfl) ?_)
      rw [hbelow]
      exact wpAny_pure hq
    refine wpAny_bind (key ?_)
    have hgi : (es.toList.map (·.2))[i]? = (es[i]?).map (·.2) := by simp
    cases q : es[i]? with
    | none =>
      rw [q] at hgi
      dsimp only
      refine wpAny_bind (wpAny_setField hI rfl (by simp) ?_)
      exact stop_none hh (stopped 2 _ hgi fun b o _ e => e)
    | some p =>
      rw [q] at hgi
      obtain ⟨hp, vp⟩ := p
      have hlt : i < es.size := (Array.getElem?_eq_some_iff.mp q).1
      have hpl : t.place[i]? = some (t.place.getD i 0) := by
        rw [Array.getElem?_eq_getElem (by lia)]; simp [Array.getD_eq_getD_getElem?, show i < t.place.size by lia]
      rw [hpl]
      dsimp only
      have hI1 := itObj_set (y := rawInt ((t.place.getD i 0 + 1 : Nat) : Int)) (k := 0) hI #[rawInt ((t.place.getD i 0 + 1 : Nat) : Int), rawInt i, .ref S, rawInt es.size, rawInt ep] (by simp)
      refine wpAny_bind (wpAny_setField hI rfl (by simp) ?_)
      have hI2 := itObj_set (first := rawInt ((t.place.getD i 0 + 1 : Nat) : Int)) (last := .ref S) (i := i) (n := es.size) (e := ep) (y := rawInt ((i : Int) + 1)) (k := 1) hI1 #[rawInt ((t.place.getD i 0 + 1 : Nat) : Int), rawInt ((i + 1 : Nat) : Int), .ref S, rawInt es.size, rawInt ep] (by simp)
      refine wpAny_bind (wpAny_setField hI1 rfl (by simp) ?_)
      refine wpAny_pure ⟨_, rfl, wpAny_pure (hQ _ hgi _ ?_ ((Heap.SameBut.update ..).trans (Heap.SameBut.update ..)))⟩
      show _ = some (itObj (rawInt ((if i + 1 = 0 then 0 else t.place.getD (i + 1 - 1) 0 + 1 : Nat) : Int)) (i + 1) (.ref S) es.size ep)
      rw [if_neg (by lia), Nat.add_sub_cancel]
      exact hI2
  | drawn P places hbt hpp hP =>
    obtain ⟨oP, hoP, _, nP, hdP⟩ := hP
    have hpl : places.length = es.size := by have := hpp.length_eq; simpa using this
    have hall : ∀ p ∈ places, p < es.size := fun p hp => by have := hpp.mem_iff.mp hp; simpa using this
    have hgi : ∀ (l : List Nat) (i : Nat), (∀ p ∈ l, p < es.size) → (l.filterMap fun i => es[i]?.map (·.2))[i]? = (l[i]?).bind fun p => es[p]?.map (·.2) := by
      intro l
      induction l with
      | nil => intro i _; simp
      | cons p l ih =>
        intro i hl
        have hp := hl p List.mem_cons_self
        rw [List.filterMap_cons, Array.getElem?_eq_getElem hp]
        cases i with
        | zero => simp [hp]
        | succ i => simpa using ih i fun p hp => hl p (List.mem_cons_of_mem _ hp)
    have hg := hgi places i hall
    show wpAny _ _ (seqItems? (.ref P) >>= _) _ _ _
    refine wpAny_bind (wpAny_seqItems hoP hdP ?_)
    dsimp only
    have hpi : (List.map (fun (i : Nat) => rawInt (i : Int)) places).toArray[((i : Int)).toNat]? = (places[i]?).map fun (i : Nat) => rawInt (i : Int) := by simp
    rw [hpi]
    cases q : places[i]? with
    | none =>
      rw [q] at hg
      dsimp only [Option.map]
      have hI1 := itObj_set (y := rawInt 0) (k := 0) hI _ rfl
      refine wpAny_bind (wpAny_setField hI rfl (by simp) ?_)
      refine wpAny_bind (wpAny_setField hI1 rfl (by simp) ?_)
      exact stop_none hh (stopped 2 _ hg fun b o hb e => (Heap.get?_update_other _ _ (Ne.symm hb)).trans e)
    | some p =>
      rw [q] at hg
      have hp := hall p (List.mem_of_getElem? q)
      have hep : es[p]? = some es[p] := Array.getElem?_eq_getElem hp
      rw [Option.bind_some, hep] at hg
      dsimp only [Option.map, rawInt]
      have key : ∀ {Q1 : Value → Shared → Prop} {E1 : Value → Shared → Prop}, Q1 es[p].2 s → wpAny (model prog w) A.in1 (setNextDrawn S ((p : Int)).toNat ((ep : Int)).toNat) Q1 E1 s := fun hq => by
        unfold setNextDrawn
        refine wpAny_bind (wpAny_setState_of hS x.data x.fits ?_)
        dsimp only
        rw [if_neg (by simp)]
        rw [Int.toNat_natCast, hep]
        exact wpAny_pure hq
      refine wpAny_bind (key ?_)
      have hI1 := itObj_set (y := rawInt ((i : Int) + 1)) (k := 1) hI #[.ref P, rawInt ((i + 1 : Nat) : Int), .ref S, rawInt es.size, rawInt ep] (by simp)
      refine wpAny_bind (wpAny_setField hI rfl (by simp) ?_)
      exact wpAny_pure ⟨_, rfl, wpAny_pure (hQ _ hg _ hI1 (Heap.SameBut.update ..))⟩
end
end Mine
end
noncomputable section
open PySem PySem.W PyProof.Rows
open PySem.Sem (wp)
set_option Elab.async false
set_option autoImplicit false
set_option linter.unusedVariables false
set_option linter.unusedSimpArgs false
set_option maxRecDepth 100000
namespace Mine
/-! A list made out of what hands out its elements one by one. -/
/-- Kept but for S. -/
structure KpS (S : Addr) (s s' : Shared) : Prop where
  heap : ∀ b o, b ≠ S → s.heap.get? b = some o → s'.heap.get? b = some o
  os : s'.os = s.os
  gens : s'.gens = s.gens
theorem KpS.kp {S : Addr} {s s' : Shared} {o : Obj} {tk : Nat} (x : KpS S { s with heap := s.heap.push o, toks := tk } s') (hS : s.heap.objs.size ≤ S) : Kp s s' :=
  ⟨fun b o e => x.heap b o (Nat.ne_of_lt (Nat.lt_of_lt_of_le (Heap.lt_size e) hS)) (Heap.get?_push_of_some _ e), x.os, fun g y e => by rw [x.gens]; exact e, fun e => by rw [x.gens]; exact e⟩
/-- The iterator of it is made (at s) and hands out a list that is good. -/
def ItS (prog : Program) (w : World) (A : Around) (it : Value) (s : Shared) (S : Addr) (good : List Value → Prop) : Prop :=
  ∀ (Q : Value → Shared → Prop) (E : Value → Shared → Prop),
    (∀ (I : Addr) (n : Nat) (P : Nat → Value → Prop) (s' : Shared) (fp wr : List Addr) (St : Nat → Shared → Prop), n ≤ 1000 → (∀ acc, ItemsOf P acc n → good acc.toList) → Sub s.heap s'.heap → s'.os = s.os → s'.gens = s.gens → S ∉ fp → (∀ b ∈ wr, s.heap.get? b = none) →
      (∀ A' : Around, A'.handled = none → WalksS prog w A' I fp wr (fun a b => b = a) n P St) → St 0 s' → Q (.ref I) s') →
    wpAny (model prog w) A (pyIter it) Q E s
section
variable {prog : Program} {w : World} {A : Around} {E : Value → Shared → Prop} {s : Shared}
theorem items_ord {ord : List Value} {acc : Array Value} (h : ItemsOf (fun i v => ord[i]? = some v) acc ord.length) : acc.toList = ord := by
  refine List.ext_getElem? fun i => ?_
  rw [Array.getElem?_toList]
  rcases Nat.lt_or_ge i acc.size with z | z
  · rw [Array.getElem?_eq_getElem z]; exact (h.2 i _ (Array.getElem?_eq_getElem z)).symm
  · rw [Array.getElem?_eq_none z, List.getElem?_eq_none (by rw [← h.1]; exact z)]
theorem ext_any {R : Result → Shared → Prop} {it : Value} {T : String} {S : Addr} {good : List Value → Prop} (res : Value) {c₀ : Nat} (hh : A.handled = none)
    (hT : ∀ s' : Shared, Sub s.heap s'.heap → s'.TypeIs it T) (hnl : (Value.type T == Value.type "list") = false) (hnt : (Value.type T == Value.type "tuple") = false)
    (hint : ∀ (A : Around) (E : Value → Shared → Prop) (s' : Shared) (Q : Bool → Shared → Prop), Sub s.heap s'.heap → Q false s' → wpAny (model prog w) A (Builtin.List.listLengthHint it) Q E s')
    (hsame : Builtin.List.listSameRef (.ref S) it = false)
    (hS : s.heap.get? S = some { cls := .type "list", data := .seq #[] c₀ }) (X : ItS prog w A.in1 it s S good)
    (hR : ∀ (s' : Shared) (acc : Array Value) c, good acc.toList → KpS S s s' → s'.heap.get? S = some { cls := .type "list", dict := none, data := .seq acc c, slots := #[] } → R (.ok (.ret res)) s') :
    wpAny (model prog w) A.in1 (Builtin.List.listExtendWith (.ref S) it res)
      (fun fin s' => match fin with | .done f => R (.ok f) s' | .again c' => c'.quiet = true ∧ codeAny (model prog w) A c' R s') (fun e s' => R (.error e) s') s := by
  unfold Builtin.List.listExtendWith
  refine wpAny_bind (wpAny_typeOf (T := T) (hT s fun _ _ e => e) ?_)
  simp only [hsame, hnl, hnt, Bool.or_false, Bool.false_eq_true, if_false]
  refine wpAny_bind (X _ _ fun I n P s1 fp wr St hn0 hgd k1 o1 g1 hSf hwr W hst => ?_)
  have hS1 := k1 _ _ hS
  have W := W A.in1 hh
  have hn : n ≤ sizeLine := Nat.le_trans hn0 (by size_fits)
  have key : ∀ (h : Heap) (c₁ : Nat), St 0 { s1 with heap := h } → (∀ b o, b ≠ S → s1.heap.get? b = some o → h.get? b = some o) →
      h.get? S = some { cls := .type "list", data := .seq #[] c₁ } → codeAny (model prog w) A (.builtin "list.extend.loop" ⟨[.ref S, .ref I, res], []⟩) R { s1 with heap := h } := by
    intro h c₁ hst hk hS₁
    refine codeAny_extend_loopS W hn S hSf res n 0 _ #[] c₁ rfl (Nat.zero_le _) hst hS₁ (ItemsOf.nil _) fun s' acc' c' hm hS' hacc => ?_
    refine hR s' acc' c' (hgd _ hacc) ⟨fun b o hb e => hm.heap b o (fun hmem => ?_) (hk b o hb (k1 b o e)), hm.os.trans o1, (show s'.gens = s1.gens from hm.gens).trans g1⟩ hS'
    rcases List.mem_cons.mp hmem with e' | hmem
    · exact hb e'
    · rw [hwr b hmem] at e; cases e
  refine wpAny_bind (wpAny_holding (hint _ _ _ _ k1 ?_))
  refine wpAny_ite_split (fun _ => ?_) (fun _ => wpAny_pure ⟨plainId_quiet PySem.F.plain_extend_loop _, key _ c₀ hst (fun b o _ e => e) hS1⟩)
  refine wpAny_bind (wpAny_rule ?_)
  refine wpAny_bind ?_
  show wpAny _ _ (updateSeq S (·.push .none) >>= fun _ => updateSeq S (·.pop)) _ _ _
  refine wpAny_bind (wpAny_updateSeq hS1 rfl ?_)
  have hS₂ := Heap.get?_update_self (Obj.mapSeq (·.push Value.none)) hS1 rfl
  refine wpAny_updateSeq (hz := by seq_fits) hS₂ rfl ?_
  have hS₃ := Heap.get?_update_self (Obj.mapSeq (·.pop)) hS₂ rfl
  have oth : ∀ b o, b ≠ S → s1.heap.get? b = some o → ((s1.heap.update S (Obj.mapSeq (·.push Value.none))).update S (Obj.mapSeq (·.pop))).get? b = some o :=
    fun b o hb e => (Heap.get?_update_other _ _ (Ne.symm hb)).trans ((Heap.get?_update_other _ _ (Ne.symm hb)).trans e)
  exact wpAny_pure ⟨plainId_quiet PySem.F.plain_extend_loop _, key _ _ (W.frame 0 s1 _ s1.toks hst (Nat.le_refl _) fun b hb o e => oth b o (fun h => hSf (h ▸ hb)) e) oth hS₃⟩
theorem iadd_any {R : Result → Shared → Prop} {it : Value} {T : String} {S : Addr} {good : List Value → Prop} {c₀ : Nat} (hh : A.handled = none)
    (hT : ∀ s' : Shared, Sub s.heap s'.heap → s'.TypeIs it T) (hnl : (Value.type T == Value.type "list") = false) (hnt : (Value.type T == Value.type "tuple") = false)
    (hint : ∀ (A : Around) (E : Value → Shared → Prop) (s' : Shared) (Q : Bool → Shared → Prop), Sub s.heap s'.heap → Q false s' → wpAny (model prog w) A (Builtin.List.listLengthHint it) Q E s')
    (hsame : Builtin.List.listSameRef (.ref S) it = false)
    (hS : s.heap.get? S = some { cls := .type "list", data := .seq #[] c₀ }) (X : ItS prog w A.in1 it s S good)
    (hR : ∀ (s' : Shared) (acc : Array Value) c, good acc.toList → KpS S s s' → s'.heap.get? S = some { cls := .type "list", dict := none, data := .seq acc c, slots := #[] } → R (.ok (.ret (.ref S))) s') :
    codeAny (model prog w) A (.builtin "list.__iadd__" ⟨[.ref S, it], []⟩) R s := by
  refine codeAny_builtin PySem.F.entry_list_iadd ?_
  rw [Around.under_plainId PySem.F.plain_list_iadd _]
  exact ext_any (T := T) (.ref S) hh hT hnl hnt hint hsame hS X hR
theorem collect_any {Q : List Value → Shared → Prop} {it : Value} {T : String} {good : List Value → Prop} (hh : A.handled = none)
    (hT : ∀ s' : Shared, Sub s.heap s'.heap → s'.TypeIs it T) (hnl : (Value.type T == Value.type "list") = false) (hnt : (Value.type T == Value.type "tuple") = false)
    (hint : ∀ (A : Around) (E : Value → Shared → Prop) (s' : Shared) (Q : Bool → Shared → Prop), Sub s.heap s'.heap → Q false s' → wpAny (model prog w) A (Builtin.List.listLengthHint it) Q E s')
    (hsame : Builtin.List.listSameRef (.ref s.heap.objs.size) it = false)
    (X : ∀ s' : Shared, s' = { s with heap := s.heap.push { cls := .type "list", data := .seq ([] : List Value).toArray } } → ItS prog w A.in1 it s' s.heap.objs.size good)
    (hQ : ∀ s' ord, good ord → Kp s s' → Q ord s') :
    wpAny (model prog w) A (collect it) Q E s := by
  unfold collect
  refine wpAny_bind (wpAny_runValue (codeAny_builtin PySem.F.entry_proto_collect ?_))
  rw [Around.under_plainId PySem.F.plain_proto_collect _]
  show wpAny _ A.in1 (newList [] >>= fun l => again (.builtin "list.__iadd__" ⟨[l, it], []⟩)) _ _ s
  refine wpAny_bind (wpAny_newObj_type ?_)
  have up : ∀ {s' : Shared}, Sub (s.heap.push { cls := .type "list", data := .seq ([] : List Value).toArray }) s'.heap → Sub s.heap s'.heap := fun k => (sub_push _ _).trans k
  refine wpAny_pure ⟨plainId_quiet PySem.F.plain_list_iadd _, iadd_any (T := T) hh (fun s' k => hT s' (up k)) hnl hnt (fun A E s' Q k => hint A E s' Q (up k)) hsame (Heap.get?_push_size _ rfl) (X _ rfl) fun s' acc c hgd hk hS => ?_⟩
  show wpAny _ A (load s.heap.objs.size >>= _) _ _ s'
  refine wpAny_bind (wpAny_load hS ?_)
  refine wpAny_pure ?_
  exact hQ s' _ hgd (KpS.kp (o := { cls := .type "list", data := .seq ([] : List Value).toArray }) (tk := s.toks) hk (Nat.le_refl _))
theorem list_any {Q : Value → Shared → Prop} {it : Value} {T : String} {good : List Value → Prop} (hh : A.handled = none)
    (hT : ∀ s' : Shared, Sub s.heap s'.heap → s'.TypeIs it T) (hnl : (Value.type T == Value.type "list") = false) (hnt : (Value.type T == Value.type "tuple") = false)
    (hint : ∀ (A : Around) (E : Value → Shared → Prop) (s' : Shared) (Q : Bool → Shared → Prop), Sub s.heap s'.heap → Q false s' → wpAny (model prog w) A (Builtin.List.listLengthHint it) Q E s')
    (hsame : Builtin.List.listSameRef (.ref s.heap.objs.size) it = false)
    (X : ∀ (s' : Shared) c, s'.heap.get? s.heap.objs.size = some { cls := .type "list", data := .seq #[] c } → Sub s.heap s'.heap → ItS prog w A.in1.in1 it s' s.heap.objs.size good)
    (hQ : ∀ (s' : Shared) (acc : Array Value) c, good acc.toList → Kp s s' → s'.heap.get? s.heap.objs.size = some { cls := .type "list", dict := none, data := .seq acc c, slots := #[] } → Q (.ref s.heap.objs.size) s') :
    wpAny (model prog w) A (call (.type "list") [it]) Q E s := by
  refine callType_codes (Q₁ := fun obj s₁ => obj = .ref s.heap.objs.size ∧ s₁ = { s with heap := s.heap.push { cls := .type "list", data := .seq #[] } }) PySem.F.called_list (PySem.F.typeCall_list_1 _) PySem.F.entry_list_init
    (code_list_new _ ⟨rfl, rfl⟩) fun obj s₁ h₁ => ?_
  obtain ⟨rfl, rfl⟩ := h₁
  have hS : (s.heap.push { cls := .type "list", data := .seq #[] }).get? s.heap.objs.size = some { cls := .type "list", data := .seq #[] } := Heap.get?_push_size _ rfl
  refine ⟨⟨_, hS, rfl⟩, PySem.F.args_list_init_2 _ _, ?_⟩
  show wpAny _ _ (do let old ← Builtin.List.listItems (.ref s.heap.objs.size); Builtin.List.listUpdate (.ref s.heap.objs.size) (fun _ => #[]); letGo old.toList.reverse; Builtin.List.listExtendWith (.ref s.heap.objs.size) it .none) _ _ _
  refine wpAny_bind ?_
  unfold Builtin.List.listItems
  refine wpAny_bind (wpAny_seqItems hS rfl (wpAny_pure ?_))
  show wpAny _ _ (updateSeq s.heap.objs.size (fun _ => #[]) >>= fun _ => letGo (#[] : Array Value).toList.reverse >>= fun _ => Builtin.List.listExtendWith (.ref s.heap.objs.size) it .none) _ _ _
  refine wpAny_bind (wpAny_updateSeq hS rfl ?_)
  have hS₂ := Heap.get?_update_self (Obj.mapSeq (fun _ => (#[] : Array Value))) hS rfl
  have oth : ∀ b o, b ≠ s.heap.objs.size → (s.heap.push { cls := .type "list", data := .seq #[] }).get? b = some o → ((s.heap.push { cls := .type "list", data := .seq #[] }).update s.heap.objs.size (Obj.mapSeq (fun _ => (#[] : Array Value)))).get? b = some o :=
    fun b o hb e => (Heap.get?_update_other _ _ (Ne.symm hb)).trans e
  have k2 : Sub s.heap ((s.heap.push { cls := .type "list", data := .seq #[] }).update s.heap.objs.size (Obj.mapSeq (fun _ => (#[] : Array Value)))) :=
    fun b o e => oth b o (Nat.ne_of_lt (Heap.lt_size e)) (Heap.get?_push_of_some _ e)
  refine wpAny_bind (wpAny_letGo ?_)
  refine ext_any (T := T) _ hh (fun s' k => hT s' (k2.trans k)) hnl hnt (fun A E s' Q k => hint A E s' Q (k2.trans k)) hsame hS₂ (X _ _ hS₂ k2) fun s' acc c hgd hk hS => ?_
  exact ⟨rfl, hQ s' acc c hgd ⟨fun b o e => hk.heap b o (Nat.ne_of_lt (Heap.lt_size e)) (k2 b o e), hk.os, fun g y e => by rw [hk.gens]; exact e, fun e => by rw [hk.gens]; exact e⟩ hS⟩
end
end Mine
end
noncomputable section
open PySem PySem.W PyProof.Rows
open PySem.Sem (wp)
set_option Elab.async false
set_option autoImplicit false
set_option linter.unusedVariables false
set_option linter.unusedSimpArgs false
set_option maxRecDepth 100000
namespace Mine
/-! Going through a set of ints. -/
section
variable {prog : Program} {w : World} {A : Around} {E : Value → Shared → Prop} {s : Shared}
variable {o : Obj} {es : Array (Int × Value)} {ep : Nat} {t : SetTable} {ks : List Int} {S I : Addr}
theorem Way.at {h0 : Heap} {ord : List Value} {first : Nat → Value} (wy : Way w S es ep t h0 ord first) :
    ∃ Ps : List Addr, (∀ b ∈ Ps, ∃ o, h0.get? b = some o ∧ o.cls = .type "tuple") ∧ ∀ h' : Heap, (∀ b ∈ Ps, ∀ o, h0.get? b = some o → h'.get? b = some o) → Way w S es ep t h' ord first := by
  cases wy with
  | text a => exact ⟨[], fun _ h => by simp at h, fun h' _ => .text a⟩
  | place a b => exact ⟨[], fun _ h => by simp at h, fun h' _ => .place a b⟩
  | drawn P places a b c =>
    obtain ⟨oP, h1, h2, n, h3⟩ := c
    exact ⟨[P], fun b hb => by rw [List.mem_singleton.mp hb]; exact ⟨oP, h1, h2⟩, fun h' hk => .drawn P places a b ⟨oP, hk P (by simp) oP h1, h2, n, h3⟩⟩
theorem way_ints {h0 : Heap} {ord : List Value} {first : Nat → Value} (wy : Way w S es ep t h0 ord first) (x : SI prog w o es ep t ks) : ∃ ns, IntsAre ord ns ∧ ns.Perm ks := by
  obtain ⟨ks', hi, hpm⟩ := x.itsAre
  have go : ∀ l : List Value, l.Perm (es.toList.map (·.2)) → ∃ ns, IntsAre l ns ∧ ns.Perm ks := fun l hl => by
    obtain ⟨ms, h1, h2⟩ := ints_perm hl.symm hi
    exact ⟨ms, h1, h2.trans hpm⟩
  cases wy with
  | text a => exact go _ ((pick_perm _ es).map _)
  | place a b => exact go _ (.refl _)
  | drawn P places a b c =>
    refine go _ ((b.filterMap _).trans ?_)
    refine List.Perm.of_eq ?_
    refine List.ext_getElem? fun i => ?_
    have key : ∀ (m : Nat), m ≤ es.size → ((List.range m).filterMap fun i => es[i]?.map (·.2)) = (es.toList.map (·.2)).take m := by
      intro m
      induction m with
      | zero => intro _; simp
      | succ m ih =>
        intro hm
        rw [List.range_succ, List.filterMap_append, ih (by lia), List.take_add_one]
        congr 1
        have hm' : m < es.size := by lia
        simp [List.filterMap_cons, hm']
    rw [key _ (Nat.le_refl _), List.take_of_length_le (by simp)]
theorem IntsAre.len : ∀ {vs : List Value} {ns : List Int}, IntsAre vs ns → vs.length = ns.length
  | _, _, .nil => rfl
  | _, _, .cons n t r => by simp [IntsAre.len r]
theorem sit_walks (hh : A.handled = none) (x : SI prog w o es ep t ks) {h0 : Heap} {ord : List Value} {first : Nat → Value} {Ps : List Addr} (hIS : I ≠ S) (hIP : I ∉ Ps)
    (hW : ∀ h' : Heap, (∀ b ∈ Ps, ∀ o, h0.get? b = some o → h'.get? b = some o) → Way w S es ep t h' ord first) :
    WalksS prog w A I (I :: S :: Ps) [I] (fun a b => b = a) ord.length (fun i v => ord[i]? = some v)
      (fun i s => i ≤ ord.length ∧ s.heap.get? I = some (itObj (first i) i (.ref S) es.size ep) ∧ s.heap.get? S = some o ∧ ∀ b ∈ Ps, ∀ o, h0.get? b = some o → s.heap.get? b = some o) where
  sub := fun b hb => by rw [List.mem_singleton.mp hb]; simp
  grefl := fun _ => rfl
  gtrans := fun _ _ _ h1 h2 => h2.trans h1
  frame := fun i s h' tk st _ hk => ⟨st.1, hk I (by simp) _ st.2.1, hk S (by simp) _ st.2.2.1, fun b hb o e => hk b (by simp [hb]) o (st.2.2.2 b hb o e)⟩
  item := fun i s Q E hi st hQ => by
    refine sit_next hh x (hW _ st.2.2.2) st.1 st.2.2.1 st.2.1 (fun v hv h' hI' hs' => ?_) (fun hn => ?_)
    · exact hQ v _ hv ⟨hi, hI', hs'.extBut _ _ (Ne.symm hIS) st.2.2.1, fun b hb o e => hs'.extBut b o (fun h => hIP (h ▸ hb)) (st.2.2.2 b hb o e)⟩ ⟨fun b o hb e => hs'.extBut b o (fun h => hb (by simp [h])) e, rfl, rfl, rfl, Nat.le_refl _⟩
    · rw [List.getElem?_eq_none_iff] at hn; lia
  done := fun s Q E st hQ => by
    refine sit_next hh x (hW _ st.2.2.2) st.1 st.2.2.1 st.2.1 (fun v hv => ?_) (fun _ h' hk => hQ _ ⟨fun b o hb e => hk b o (fun h => hb (by simp [h])) e, rfl, rfl, rfl, Nat.le_refl _⟩)
    rw [List.getElem?_eq_none (Nat.le_refl _)] at hv; cases hv
  self := fun i s Q E st hQ => by
    refine wpAny_pyIter_slot (itObj_type st.2.1) sit_slot_iter (wpAny_call_entry sit_slot_iter (itObj_type st.2.1) sit_entry_iter ?_ (sit_args_iter _))
    show wpAny _ _ (ret (.ref I)) _ _ s
    exact wpAny_pure ⟨_, rfl, "set_iterator", _, itObj_type st.2.1, sit_slot_next.lookup, hQ⟩
set_option maxHeartbeats 1600000 in
theorem its_set {n : Nat} {L : Addr} {ol : Obj} (hS : SIat prog w s.heap S ks n) (hnb : n ≤ 1000) (hL : s.heap.get? L = some ol) (hLc : ol.cls = .type "list") :
    ItS prog w A (.ref S) s L (fun ord => ∃ ns, IntsAre ord ns ∧ ns.Perm ks) := by
  intro Q E hQ
  obtain ⟨o, es, ep, t, ho, x, hn⟩ := hS
  have hcls := x.ex.1
  have hT : s.TypeIs (.ref S) "set" := ⟨o, ho, hcls⟩
  have hLS : L ≠ S := fun h => by subst h; rw [hL] at ho; cases ho; rw [hLc] at hcls; simp at hcls
  -- the end, once the first field is known
  have fin : ∀ (s1 : Shared) (ord : List Value) (first : Nat → Value), Sub s.heap s1.heap → s1.os = s.os → s1.gens = s.gens → Way w S es ep t s1.heap ord first →
      Q (.ref s1.heap.objs.size) { s1 with heap := s1.heap.push (itObj (first 0) 0 (.ref S) es.size ep) } := by
    intro s1 ord first k o1 g1 wy
    obtain ⟨Ps, hP, hW⟩ := wy.at
    have hPI : s1.heap.objs.size ∉ Ps := fun h => by
      obtain ⟨o', e, _⟩ := hP _ h
      exact absurd (Heap.lt_size e) (Nat.lt_irrefl _)
    have hSI : s1.heap.objs.size ≠ S := Nat.ne_of_gt (Heap.lt_size (k S o ho))
    have hLI : s1.heap.objs.size ≠ L := Nat.ne_of_gt (Heap.lt_size (k L ol hL))
    refine hQ _ ord.length (fun i v => ord[i]? = some v) _ (s1.heap.objs.size :: S :: Ps) [s1.heap.objs.size] _ ?_ (fun acc hacc => by rw [items_ord hacc]; exact way_ints wy x) (k.trans (sub_push _ _)) o1 g1 ?_ (fun b hb => ?_) (fun A' hA' => sit_walks hA' x hSI hPI hW) ⟨Nat.zero_le _, Heap.get?_push_size _ rfl, Heap.get?_push_of_some _ (k S o ho), fun b hb o e => Heap.get?_push_of_some _ e⟩
    · obtain ⟨ns, h1, h2⟩ := way_ints wy x
      obtain ⟨ks', h3, h4⟩ := x.itsAre
      rw [IntsAre.len h1, h2.length_eq, ← h4.length_eq, ← IntsAre.len h3]
      simpa using Nat.le_trans hn hnb
    · simp only [List.mem_cons, not_or]
      refine ⟨Ne.symm hLI, hLS, fun h => ?_⟩
      obtain ⟨o', e, c⟩ := hP _ h
      rw [k L ol hL] at e; cases e; rw [hLc] at c; simp at c
    · rw [List.mem_singleton.mp hb]
      cases q : s.heap.get? s1.heap.objs.size with
      | none => rfl
      | some o' => exact absurd (Heap.lt_size (k _ _ q)) (Nat.lt_irrefl _)
  refine wpAny_pyIter_slot hT PySem.F.slot_set_iter (wpAny_call_entry PySem.F.slot_set_iter hT set_entry_iter ?_ (PySem.F.args_set_iter_1 _))
  unfold Builtin.«frozenset.__iter__»
  refine wpAny_bind (wpAny_of_eq (a := S) rfl ?_)
  refine wpAny_bind (wpAny_bind (wpAny_setEntries_of ho x.data x.fits (wpAny_pure ?_)))
  have ask : ∀ {Q1 : Bool → Shared → Prop} {E1 : Value → Shared → Prop}, Q1 (!(byTx w) && (!t.plain && decide (es.size > 1))) s → wpAny (model prog w) A.in1 (setDrawn S) Q1 E1 s := fun h => by
    unfold setDrawn
    refine wpAny_bind (wpAny_setState_of ho x.data x.fits ?_)
    dsimp only
    exact wpAny_bind (byText_ask (wpAny_pure h))
  have epoch : ∀ {Q1 : Nat → Shared → Prop} {E1 : Value → Shared → Prop} {s1 : Shared}, s1.heap.get? S = some o → Q1 ep s1 → wpAny (model prog w) A.in1 (setEpoch S) Q1 E1 s1 := fun ho' h => by
    unfold setEpoch
    exact wpAny_bind (wpAny_setState_of ho' x.data x.fits (wpAny_pure h))
  refine wpAny_bind (ask ?_)
  cases q : (!(byTx w) && (!t.plain && decide (es.size > 1))) with
  | false =>
    rw [if_neg (by simp)]
    refine wpAny_bind (wpAny_pure ?_)
    refine wpAny_bind (epoch ho ?_)
    refine wpAny_bind (wpAny_newObj_type ?_)
    refine wpAny_pure ⟨_, rfl, "set_iterator", _, ⟨_, Heap.get?_push_size _ rfl, rfl⟩, sit_slot_next.lookup, ?_⟩
    rcases hb : byTx w with _ | _
    · rw [hb] at q
      exact fin s _ (fun i => rawInt ((if i = 0 then 0 else t.place.getD (i - 1) 0 + 1 : Nat) : Int)) (fun _ _ e => e) rfl rfl (.place hb (by simpa using q))
    · exact fin s _ (fun _ => rawInt 0) (fun _ _ e => e) rfl rfl (.text hb)
  | true =>
    rw [if_pos rfl]
    have hb : byTx w = false := by
      cases hb : byTx w with
      | false => rfl
      | true => rw [hb] at q; simp at q
    refine wpAny_bind ?_
    refine draw_perm _ _ _ (Nat.le_of_eq List.length_range) fun ys d hys => ?_
    refine wpAny_bind (wpAny_newTuple ?_ (by have := hys.length_eq; rw [List.length_range] at this; rw [List.length_map]; unfold sizeLine; lia))
    refine wpAny_bind (epoch (Heap.get?_push_of_some _ ho) ?_)
    refine wpAny_bind (wpAny_newObj_type ?_)
    refine wpAny_pure ⟨_, rfl, "set_iterator", _, ⟨_, Heap.get?_push_size _ rfl, rfl⟩, sit_slot_next.lookup, ?_⟩
    refine fin { s with heap := s.heap.push { cls := .type "tuple", data := .seq (ys.map fun (i : Nat) => rawInt (i : Int)).toArray }, drawn := d } _ (fun _ => .ref s.heap.objs.size) (sub_push _ _) rfl rfl (.drawn s.heap.objs.size ys hb hys ⟨_, Heap.get?_push_size _ rfl, rfl, _, rfl⟩)
end
end Mine
end
noncomputable section
open PySem PySem.W PyProof.Rows
open PySem.Sem (wp)
set_option Elab.async false
set_option autoImplicit false
set_option linter.unusedVariables false
set_option linter.unusedSimpArgs false
set_option maxRecDepth 100000
namespace Mine
section
variable {prog : Program} {w : World} {A : Around} {E : Value → Shared → Prop} {s : Shared} {env : Env} {h : Heap}
theorem call1_bi {f : Str} {p pos : Pos} {id : String} {e : Expr} {Q : Value → Shared → Prop} (l : Looks env h f (.builtin id)) (hs : Sub h s.heap)
    (he : wpAny (model prog w) A (eval e env) (fun v s1 => wpAny (model prog w) A (call (.builtin id) [v]) Q E s1) E s)
    (hse : starEach [e] env = [(false, eval e env)] := by first | exact star_one rfl | with_unfolding_all rfl) : wpAny (model prog w) A (eval (.Call (.Name f p) [e] [] pos) env) Q E s := by
  refine wpAny_Call_NameR (looks_eval l hs ?_)
  have z : wpAny (model prog w) A (spliced (backTo pos (starEach [e] env))) (fun vs s1 => wpAny (model prog w) A (call (.builtin id) vs) Q E s1) E s :=
    wpAny_items_cons (wpAny_mono he (fun v s1 h1 => wpAny_items_nil h1) fun _ _ x => x) hse
  rw [hse] at z ⊢
  exact Calls.callWith_builtin rfl (Calls.evalArgs_plain z)
theorem call1_ty {f : Str} {p pos : Pos} {T : String} {e : Expr} {Q : Value → Shared → Prop} (l : Looks env h f (.type T)) (hs : Sub h s.heap)
    (he : wpAny (model prog w) A (eval e env) (fun v s1 => wpAny (model prog w) A (call (.type T) [v]) Q E s1) E s)
    (hse : starEach [e] env = [(false, eval e env)] := by first | exact star_one rfl | with_unfolding_all rfl) : wpAny (model prog w) A (eval (.Call (.Name f p) [e] [] pos) env) Q E s := by
  refine wpAny_Call_NameR (looks_eval l hs ?_)
  have z : wpAny (model prog w) A (spliced (backTo pos (starEach [e] env))) (fun vs s1 => wpAny (model prog w) A (call (.type T) vs) Q E s1) E s :=
    wpAny_items_cons (wpAny_mono he (fun v s1 h1 => wpAny_items_nil h1) fun _ _ x => x) hse
  rw [hse] at z ⊢
  exact PySem.callWith_type rfl (Calls.evalArgs_plain z)
theorem hint_set {S : Addr} {Q : Bool → Shared → Prop} (hT : s.TypeIs (.ref S) "set") (h : Q false s) : wpAny (model prog w) A (Builtin.List.listLengthHint (.ref S)) Q E s := by
  unfold Builtin.List.listLengthHint
  refine wpAny_bind (wpAny_specialOf hT PySem.F.slot_set_len.lookup ?_)
  generalize hid : ("set.__len__" : String) = id0
  wp_delta
  rw [show splitId id0 = some ("set", "__len__") from by subst hid; decide +kernel]
  subst hid
  refine wpAny_bind (wpAny_isInstance (T := "set") (b := true) hT (by rw [isSubtype_type]; kernel_rfl) ?_)
  refine wpAny_ite_split (fun hab => absurd hab (by decide)) (fun _ => ?_)
  refine wpAny_ite_split (fun _ => ?_) (fun hab => absurd (by decide +kernel) hab)
  refine wpAny_bind (wpAny_typeOf hT ?_)
  exact wpAny_pure h
theorem SIat.at {h h' : Heap} {S : Addr} {ks : List Int} {n : Nat} (x : SIat prog w h S ks n) (k : ∀ o, h.get? S = some o → h'.get? S = some o) : SIat prog w h' S ks n := by
  obtain ⟨o, es, ep, t, ho, r⟩ := x
  exact ⟨o, es, ep, t, k o ho, r⟩
theorem SIat.type {s : Shared} {S : Addr} {ks : List Int} {n : Nat} (x : SIat prog w s.heap S ks n) : s.TypeIs (.ref S) "set" := by
  obtain ⟨o, es, ep, t, ho, r, _⟩ := x
  exact ⟨o, ho, r.ex.1⟩
theorem SIat.lt {h : Heap} {S : Addr} {ks : List Int} {n : Nat} (x : SIat prog w h S ks n) : S < h.objs.size := by
  obtain ⟨o, es, ep, t, ho, r, _⟩ := x
  exact Heap.lt_size ho
theorem SIat.len {h : Heap} {S : Addr} {ks : List Int} {n : Nat} (x : SIat prog w h S ks n) : ks.length ≤ n := by
  obtain ⟨o, es, ep, t, ho, r, hn⟩ := x
  obtain ⟨ks', hi, hp⟩ := r.itsAre
  rw [← hp.length_eq, ← IntsAre.len hi]
  simpa using hn
theorem sorted_set {S : Addr} {ks out : List Int} {n : Nat} {Q : Value → Shared → Prop} (hh : A.handled = none) (hS : SIat prog w s.heap S ks n) (hn : n < 64) (hp : out.Perm ks) (ho : out.Pairwise (· ≤ ·))
    (h : ∀ v s', Kp s s' → Rd (fun b => s.heap.get? b = none) s'.heap (.list (out.map D.int)) v → Q v s') :
    wpAny (model prog w) A (call (.builtin "sorted") [.ref S]) Q E s := by
  refine Calls.call_function_entry kind_sorted plain_sorted entry_sorted (args_sorted1 _) ?_
  unfold Builtin.«sorted»
  refine wpAny_bind (m := checkCount "sorted" 1 1 _) (wpAny_pure ?_)
  have hne : s.heap.objs.size ≠ S := Nat.ne_of_gt hS.lt
  refine wpAny_bind (collect_any (T := "set") (good := fun ord => ∃ ns, IntsAre ord ns ∧ ns.Perm ks) (by simp [hh]) (fun s' k => (hS.at (fun o e => k S o e)).type) (by decide) (by decide) (fun A E s' Q k hq => hint_set ((hS.at (fun o e => k S o e)).type) hq)
    (by simp [Builtin.List.listSameRef, hne]) (fun s' e => by
      subst e
      exact its_set (hS.at fun o e => Heap.get?_push_of_some _ e) (by lia) (Heap.get?_push_size _ rfl) rfl) fun s1 ord hgd k1 => ?_)
  obtain ⟨ns, hi, hpm⟩ := hgd
  have hlen : ord.length < 64 := by
    rw [IntsAre.len hi, hpm.length_eq]
    have := hS.len; lia
  refine wpAny_bind (wpAny_newList ?_)
  have hoL : (s1.heap.push (seqObj "list" ord.toArray 0)).get? s1.heap.objs.size = some (seqObj "list" ord.toArray 0) := Heap.get?_push_size _ rfl
  refine wpAny_bind (wpAny_holding (wpAny_call_entry slot_list_sort ⟨_, hoL, rfl⟩ entry_list_sort (list_sort_tree hoL hi hlen fun ov ns' a1 a2 a3 => ⟨_, rfl, ?_⟩) (args_list_sort _)))
  refine wpAny_pure ⟨_, rfl, ?_⟩
  have : ns' = out := List.Perm.eq_of_pairwise (fun a b _ _ h1 h2 => Int.le_antisymm h1 h2) a3 ho (a2.trans (hpm.trans hp.symm))
  subst this
  have old : Sub s1.heap (sortedHeap (s1.heap.push (seqObj "list" ord.toArray 0)) s1.heap.objs.size ord ov) := fun b o e => by
    have hlt := Heap.lt_size e
    rw [sortedHeap_old (Nat.ne_of_lt hlt) (by rw [size_push']; exact Nat.lt_succ_of_lt hlt)]
    exact Heap.get?_push_of_some _ e
  refine h _ _ (k1.trans (Kp.heap old)) (rd_list.mpr ⟨_, ov.toList, rfl, ?_, ?_, RdL.of_ints a1⟩)
  · exact none_of_kp k1 (get_size _)
  · obtain ⟨e, he⟩ := sortedHeap_at (a := s1.heap.objs.size) (vs := ord) (n := 0) (out := ov) hoL
    exact ⟨_, he, rfl, e, by simp [seqObj]⟩
theorem ev_sorted_set {P : Addr → Prop} {f1 f2 : Str} {p1 p2 pos1 pos2 : Pos} {e : Expr} {ns out : List Int} (hh : A.handled = none) (l1 : Looks env h f1 (.builtin "sorted")) (l2 : Looks env h f2 (.type "set"))
    (x : Ev prog w A env P h e (.list (ns.map D.int))) (hn : ns.length < 64) (hp : out.Perm (dd [] ns)) (ho : out.Pairwise (· ≤ ·))
    (hse : starEach [e] env = [(false, eval e env)] := by first | exact star_one rfl | with_unfolding_all rfl)
    (hse2 : starEach [.Call (.Name f2 p2) [e] [] pos2] env = [(false, eval (.Call (.Name f2 p2) [e] [] pos2) env)] := by exact star_one rfl) :
    Ev prog w A env P h (.Call (.Name f1 p1) [.Call (.Name f2 p2) [e] [] pos2] [] pos1) (.list (out.map D.int)) := fun s hs Q E hQ => by
  refine call1_bi l1 hs (call1_ty l2 hs (x s hs _ _ fun v s1 k1 r1 => ?_) hse) hse2
  obtain ⟨l, us, rfl, _, hl, q1⟩ := rd_list.mp r1
  have hlen : us.length = ns.length := by rw [q1.length, List.length_map]
  refine call_set hh hl q1.ints (by lia) fun h' tk hS hk => ?_
  refine sorted_set (n := us.length) hh hS (by lia) hp ho fun v s2 k2 r2 => ?_
  refine hQ v s2 (k1.trans ((Kp.heap hk).trans k2)) (r2.mono fun b e => .inr ?_)
  exact none_of_kp (k1.trans (Kp.heap (t := tk) hk)) e
end
end Mine
end
noncomputable section
open PySem PySem.W PyProof.Rows
open PySem.Sem (wp)
set_option Elab.async false
set_option autoImplicit false
set_option linter.unusedVariables false
set_option linter.unusedSimpArgs false
set_option maxRecDepth 100000
namespace Mine
def bD (x : List UInt8) : List D := x.map fun c => D.int ((c.toNat : Nat) : Int)
theorem bD_eq (x : List UInt8) : bD x = (x.map fun c => ((c.toNat : Nat) : Int)).map D.int := by simp [bD]
section
variable {prog : Program} {w : World} {A : Around} {E : Value → Shared → Prop} {s : Shared} {h : Heap}
theorem ct_bytes_list (hh : A.handled = none) (ns : List Int) (hr : ∀ n ∈ ns, 0 ≤ n ∧ n < 256) (hn : ns.length ≤ 1000) : Ct prog w A h (.type "bytes") [.list (ns.map D.int)] (.bytes (ns.map fun n => n.toNat.toUInt8)) := fun P s vs hs r Q E hQ => by
  obtain ⟨v, q, rfl, r1, r2⟩ := rdL_cons.mp r
  rw [rdL_nil.mp r2]
  obtain ⟨l, us, rfl, _, hl, q1⟩ := rd_list.mp r1
  have hlen : us.length = ns.length := by rw [q1.length, List.length_map]
  exact call_bytes_ints hl q1.ints hr (by rw [hlen]; size_fits) hh fun h' t k hk => hQ _ _ (Kp.heap hk) (rd_bytes.mpr ⟨t, rfl⟩)
theorem ev_isinst_bytes {env : Env} {P : Addr → Prop} {f1 f2 : Str} {p1 p2 pos : Pos} {e : Expr} {x : List UInt8} (l1 : Looks env h f1 (.builtin "isinstance")) (l2 : Looks env h f2 (.type "bytes"))
    (he : Ev prog w A env P h e (.bytes x))
    (hse : starEach [e, .Name f2 p2] env = (false, eval e env) :: starEach [.Name f2 p2] env := by first | exact star_cons rfl | with_unfolding_all rfl)
    (hse2 : starEach [.Name f2 p2] env = [(false, eval (.Name f2 p2) env)] := by first | exact star_one rfl | with_unfolding_all rfl) :
    Ev prog w A env P h (.Call (.Name f1 p1) [e, .Name f2 p2] [] pos) (.bool true) := fun s hs Q E hQ => by
  refine wpAny_Call_NameR (looks_eval l1 hs ?_)
  have z : wpAny (model prog w) A (spliced (backTo pos (starEach [e, .Name f2 p2] env))) (fun vs s1 => wpAny (model prog w) A (call (.builtin "isinstance") vs) Q E s1) E s := by
    refine wpAny_items_cons (he s hs _ _ fun v s1 k1 r1 => ?_) hse
    obtain ⟨t, rfl⟩ := rd_bytes.mp r1
    refine wpAny_items_cons (looks_eval l2 (hs.trans k1.keep) (wpAny_items_nil ?_)) hse2
    exact call_isinstance (isinstance_true (Tx := "bytes") PySem.F.isi_meta_bytes PySem.F.bm_sub) ⟨typeIs_bytes _ _ _, hQ _ _ k1 (rd_bool.mpr rfl)⟩
  rw [hse, hse2] at z ⊢
  exact Calls.callWith_builtin rfl (Calls.evalArgs_plain z)
theorem hint_bytes {b : Array UInt8} {t : Tok} {Q : Bool → Shared → Prop} (h : Q false s) : wpAny (model prog w) A (Builtin.List.listLengthHint (.bytes b t)) Q E s := by
  have hT : s.TypeIs (.bytes b t) "bytes" := typeIs_bytes s b t
  unfold Builtin.List.listLengthHint
  refine wpAny_bind (wpAny_specialOf hT FB.slot_bytes_len.lookup ?_)
  generalize hid : ("bytes.__len__" : String) = id0
  wp_delta
  rw [show splitId id0 = some ("bytes", "__len__") from by subst hid; decide +kernel]
  subst hid
  refine wpAny_bind (wpAny_isInstance (T := "bytes") (b := true) hT PySem.F.bm_sub ?_)
  refine wpAny_ite_split (fun hab => absurd hab (by decide)) (fun _ => ?_)
  refine wpAny_ite_split (fun _ => ?_) (fun hab => absurd (by decide +kernel) hab)
  refine wpAny_bind (wpAny_typeOf hT ?_)
  exact wpAny_pure h
theorem bytes_ints {x : List UInt8} : ∀ {ord : List Value}, ord.length = x.length → (∀ (i : Nat) (v : Value), ord[i]? = some v → ∃ (c : UInt8) (u : Tok), x[i]? = some c ∧ v = Value.int ((c.toNat : Nat) : Int) u) → IntsAre ord (x.map fun c => ((c.toNat : Nat) : Int)) := by
  induction x with
  | nil => intro ord hl _; rw [List.eq_nil_of_length_eq_zero hl]; exact .nil
  | cons c x ih =>
    intro ord hl h
    cases ord with
    | nil => simp at hl
    | cons v ord =>
      obtain ⟨c', u, h1, rfl⟩ := h 0 v (by simp)
      simp only [List.getElem?_cons_zero, Option.some.injEq] at h1
      subst h1
      refine .cons _ _ (ih (by simpa using hl) fun i v hv => ?_)
      obtain ⟨c2, u2, h2, h3⟩ := h (i + 1) v (by simpa using hv)
      exact ⟨c2, u2, by simpa using h2, h3⟩
theorem its_bytes {x : List UInt8} {t : Tok} {L : Addr} {ol : Obj} (hL : s.heap.get? L = some ol) (hn : x.length ≤ 1000) :
    ItS prog w A (.bytes x.toArray t) s L (fun ord => IntsAre ord (x.map fun c => ((c.toNat : Nat) : Int))) := by
  intro Q E hQ
  refine KBw.pyIter_bytes ?_
  have hLI : L ≠ s.heap.objs.size := Nat.ne_of_lt (Heap.lt_size hL)
  refine hQ _ _ _ _ [s.heap.objs.size] [s.heap.objs.size] _ (by simpa using hn) (fun acc hacc => ?_) (sub_push _ _) rfl rfl (by simpa using hLI) (fun b hb => by rw [List.mem_singleton.mp hb]; exact get_size _) (fun A' hA' => (KBw.walks hA' _ x.toArray t).toS) ⟨_, Heap.get?_push_size _ rfl, rfl, rfl⟩
  refine bytes_ints (by simpa using hacc.1) fun i v hv => ?_
  obtain ⟨c, u, h1, h2⟩ := hacc.2 i v (by simpa using hv)
  exact ⟨c, u, by simpa using h1, h2⟩
theorem ct_list_bytes (hh : A.handled = none) (x : List UInt8) (hn : x.length ≤ 1000) : Ct prog w A h (.type "list") [.bytes x] (.list (bD x)) := fun P s vs hs r Q E hQ => by
  obtain ⟨v, q, rfl, r1, r2⟩ := rdL_cons.mp r
  rw [rdL_nil.mp r2]
  obtain ⟨t, rfl⟩ := rd_bytes.mp r1
  refine list_any (T := "bytes") (good := fun ord => IntsAre ord (x.map fun c => ((c.toNat : Nat) : Int))) hh (fun s' _ => typeIs_bytes _ _ _) (by decide) (by decide) (fun A E s' Q _ hq => hint_bytes hq) rfl (fun s' c e _ => its_bytes e hn) fun s' acc c hgd hk hS => ?_
  refine hQ _ _ hk (rd_list.mpr ⟨_, acc.toList, rfl, .inr (get_size _), ⟨_, hS, rfl, c, by simp⟩, ?_⟩)
  rw [bD_eq]
  exact RdL.of_ints hgd
end
end Mine
end
noncomputable section
open PySem PySem.W PyProof.Rows
open PySem.Sem (wp)
set_option Elab.async false
set_option autoImplicit false
set_option linter.unusedVariables false
set_option linter.unusedSimpArgs false
set_option maxRecDepth 100000
namespace Mine
theorem bit_slot_next : Slot "bytearray_iterator" "__next__" "bytearray_iterator.__next__" :=
  .of (owner := "bytearray_iterator") (n := "__next__") (by rw [typeLookup_type, builtinLookup_eq_fast]; kernel_rfl) (by decide +kernel) (by decide +kernel) (by decide +kernel)
    (by first | exact .inl (by decide +kernel) | exact .inr (by decide +kernel)) (by rw [isSubtype_type]; kernel_rfl)
theorem bit_entry_next : entryFor table "bytearray_iterator.__next__" = some Builtin.«bytearray_iterator.__next__» := entryFor_of_tree (by kernel_rfl)
theorem bit_args_next (a : Value) : argsOk "bytearray_iterator.__next__" ⟨[a], []⟩ := by unfold argsOk; kernel_rfl
theorem bit_slot_iter : Slot "bytearray_iterator" "__iter__" "bytearray_iterator.__iter__" :=
  .of (owner := "bytearray_iterator") (n := "__iter__") (by rw [typeLookup_type, builtinLookup_eq_fast]; kernel_rfl) (by decide +kernel) (by decide +kernel) (by decide +kernel)
    (by first | exact .inl (by decide +kernel) | exact .inr (by decide +kernel)) (by rw [isSubtype_type]; kernel_rfl)
theorem bit_entry_iter : entryFor table "bytearray_iterator.__iter__" = some Builtin.«dict_keyiterator.__iter__» :=
  entryFor_alias (id' := "dict_keyiterator.__iter__") (by rw [fastTable_eq_tree]; kernel_rfl) (by first | rfl | decide +kernel) (by decide +kernel) (by rw [fastTable_eq_tree]; kernel_rfl)
theorem bit_args_iter (a : Value) : argsOk "bytearray_iterator.__iter__" ⟨[a], []⟩ := by unfold argsOk; kernel_rfl
theorem ba_slot_iter : Slot "bytearray" "__iter__" "bytearray.__iter__" :=
  .of (owner := "bytearray") (n := "__iter__") (by rw [typeLookup_type, builtinLookup_eq_fast]; kernel_rfl) (by decide +kernel) (by decide +kernel) (by decide +kernel)
    (by first | exact .inl (by decide +kernel) | exact .inr (by decide +kernel)) (by rw [isSubtype_type]; kernel_rfl)
theorem ba_entry_iter : entryFor table "bytearray.__iter__" = some Builtin.«bytearray.__iter__» := entryFor_of_tree (by kernel_rfl)
theorem ba_args_iter (a : Value) : argsOk "bytearray.__iter__" ⟨[a], []⟩ := by
  unfold argsOk; rw [signature?_of (id := "bytearray.__iter__") (n := ['_', '_', 'r', 'e', 't', 'i', '_', '_']) (o := ['y', 'a', 'r', 'r', 'a', 'e', 't', 'y', 'b']) (by kernel_rfl) ba_owner]; kernel_rfl
def IsBaIter (h : Heap) (a B : Addr) (i : Nat) : Prop := ∃ o, h.get? a = some o ∧ o.cls = .type "bytearray_iterator" ∧ o.data = .fields #[.ref B, .int i 0]
section
variable {prog : Program} {w : World} {A : Around} {E : Value → Shared → Prop} {s : Shared} {h : Heap} {B I : Addr} {x : List UInt8}
theorem bit_type {i : Nat} (y : IsBaIter s.heap I B i) : s.TypeIs (.ref I) "bytearray_iterator" := let ⟨o, ho, hc, _⟩ := y; ⟨o, ho, hc⟩
theorem bit_item {i : Nat} {c : UInt8} {Q : Option Value → Shared → Prop} (hit : IsBaIter s.heap I B i) (hB : BA s.heap B x) (hx : x[i]? = some c)
    (hQ : ∀ h', IsBaIter h' I B (i + 1) → Heap.SameBut I s.heap h' → Q (some (.int (c.toNat : Int) s.toks)) { s with heap := h', toks := s.toks + 1 }) : wpAny (model prog w) A (pyNext (.ref I)) Q E s := by
  obtain ⟨o, ho, hc, hd⟩ := id hit
  unfold pyNext
  refine wpAny_bind (wpAny_attempt (wpAny_callSpecial?_slot (name := PySem.Str.ofString "__next__") (bit_type hit) bit_slot_next
    (wpAny_call_entry bit_slot_next (bit_type hit) bit_entry_next ?_ (bit_args_next _))))
  show wpAny _ _ (field (.ref I) 0 >>= _) _ _ s
  refine wpAny_bind (wpAny_field ho hd (x := .ref B) rfl ?_)
  dsimp only
  refine wpAny_bind (wpAny_load hB ?_)
  dsimp only [baObj]
  refine wpAny_bind (wpAny_field ho hd (x := .int i 0) rfl ?_)
  dsimp only
  have hx' : x.toArray[((i : Int)).toNat]? = some c := by simpa using hx
  rw [hx']
  refine wpAny_bind (wpAny_setField ho hd (by simp) (wpAny_bind (wpAny_mkInt (wpAny_pure ⟨_, rfl, wpAny_pure (hQ _ ?_ (Heap.SameBut.update ..))⟩))))
  exact ⟨_, Heap.get?_update_self _ ho (Obj.isFreed_of_fields (Obj.data_mapFields hd _)), (Obj.cls_mapFields ..).trans hc, by
    rw [Obj.data_mapFields hd]; simp [rawInt]⟩
theorem bit_end {i : Nat} {Q : Option Value → Shared → Prop} (hh : A.handled = none) (hit : IsBaIter s.heap I B i) (hB : BA s.heap B x) (hx : x[i]? = none)
    (hQ : ∀ h', (∀ b o, b ≠ I → s.heap.get? b = some o → h'.get? b = some o) → Q none { s with heap := h' }) : wpAny (model prog w) A (pyNext (.ref I)) Q E s := by
  obtain ⟨o, ho, hc, hd⟩ := id hit
  unfold pyNext
  refine wpAny_bind (wpAny_attempt (wpAny_callSpecial?_slot (name := PySem.Str.ofString "__next__") (bit_type hit) bit_slot_next
    (wpAny_call_entry bit_slot_next (bit_type hit) bit_entry_next ?_ (bit_args_next _))))
  show wpAny _ _ (field (.ref I) 0 >>= _) _ _ s
  refine wpAny_bind (wpAny_field ho hd (x := .ref B) rfl ?_)
  dsimp only
  refine wpAny_bind (wpAny_load hB ?_)
  dsimp only [baObj]
  refine wpAny_bind (wpAny_field ho hd (x := .int i 0) rfl ?_)
  dsimp only
  have hx' : x.toArray[((i : Int)).toNat]? = none := by simpa using hx
  rw [hx']
  refine wpAny_bind (wpAny_rule (wpAny_bind (wpAny_setField ho hd (by simp) (wpAny_bind (wpAny_letGo ?_)))))
  exact stop_none hh fun h' k => hQ h' fun b o hb e => k b o ((Heap.get?_update_other _ _ (Ne.symm hb)).trans e)
theorem bit_walks (hh : A.handled = none) (hIB : I ≠ B) (x : List UInt8) :
    Walks prog w A I [I, B] [I] x.length (fun i v => ∃ (c : UInt8) (u : Tok), x[i]? = some c ∧ v = Value.int (c.toNat : Int) u) (fun i h => IsBaIter h I B i ∧ BA h B x) where
  sub := fun b hb => by rw [List.mem_singleton.mp hb]; simp
  frame := fun _ _ _ st hk => ⟨let ⟨o, ho, r⟩ := st.1; ⟨o, hk I (by simp) o ho, r⟩, hk B (by simp) _ st.2⟩
  item := fun i s Q E hi st hQ => by
    refine bit_item st.1 st.2 (c := x[i]) (by simp [hi]) fun h' hit' hs' => ?_
    exact hQ _ h' (s.toks + 1) ⟨_, _, by simp [hi], rfl⟩ ⟨hit', hs'.extBut _ _ (Ne.symm hIB) st.2⟩ fun b o hb e => hs'.extBut b o (fun h => hb (by simp [h])) e
  done := fun s Q E st hQ => bit_end hh st.1 st.2 (by simp) fun h' he' => hQ h' s.toks fun b o hb e => he' b o (fun h => hb (by simp [h])) e
  self := fun _ s _ _ st hQ => by
    refine wpAny_pyIter_slot (bit_type st.1) bit_slot_iter (wpAny_call_entry bit_slot_iter (bit_type st.1) bit_entry_iter ?_ (bit_args_iter _))
    show wpAny _ _ (ret (.ref I)) _ _ s
    exact wpAny_pure ⟨_, rfl, "bytearray_iterator", _, bit_type st.1, bit_slot_next.lookup, hQ⟩
theorem its_ba {L : Addr} {ol : Obj} (hB : BA s.heap B x) (hL : s.heap.get? L = some ol) (hLc : ol.cls = .type "list") (hn : x.length ≤ 1000) :
    ItS prog w A (.ref B) s L (fun ord => IntsAre ord (x.map fun c => ((c.toNat : Nat) : Int))) := by
  intro Q E hQ
  have hT : s.TypeIs (.ref B) "bytearray" := hB.typeIs
  refine wpAny_pyIter_slot hT ba_slot_iter (wpAny_call_entry ba_slot_iter hT ba_entry_iter ?_ (ba_args_iter _))
  show wpAny _ _ (do ret (← newFields "bytearray_iterator" [.ref B, rawInt 0])) _ _ s
  refine wpAny_bind (wpAny_newObj_type (wpAny_pure ⟨_, rfl, "bytearray_iterator", _, ⟨_, Heap.get?_push_size _ rfl, rfl⟩, bit_slot_next.lookup, ?_⟩))
  have hLI : L ≠ s.heap.objs.size := Nat.ne_of_lt (Heap.lt_size hL)
  have hIB : s.heap.objs.size ≠ B := Nat.ne_of_gt (Heap.lt_size hB)
  have hLB : L ≠ B := fun z => by subst z; rw [show s.heap.get? L = _ from hB] at hL; cases hL; simp [baObj] at hLc
  refine hQ _ _ _ _ [s.heap.objs.size, B] [s.heap.objs.size] _ hn (fun acc hacc => ?_) (sub_push _ _) rfl rfl (by simp [hLI, hLB]) (fun b hb => by rw [List.mem_singleton.mp hb]; exact get_size _) (fun A' hA' => (bit_walks hA' hIB x).toS) ⟨⟨_, Heap.get?_push_size _ rfl, rfl, rfl⟩, Heap.get?_push_of_some _ hB⟩
  exact bytes_ints (by simpa using hacc.1) fun i v hv => hacc.2 i v (by simpa using hv)
theorem hint_ba {Q : Bool → Shared → Prop} (hB : BA s.heap B x) (h : Q false s) : wpAny (model prog w) A (Builtin.List.listLengthHint (.ref B)) Q E s := by
  have hT : s.TypeIs (.ref B) "bytearray" := hB.typeIs
  unfold Builtin.List.listLengthHint
  refine wpAny_bind (wpAny_specialOf hT ba_slot_len.lookup ?_)
  generalize hid : ("bytearray.__len__" : String) = id0
  wp_delta
  rw [show splitId id0 = some ("bytearray", "__len__") from by subst hid; decide +kernel]
  subst hid
  refine wpAny_bind (wpAny_isInstance (T := "bytearray") (b := true) hT PySem.F.isi_self_bytearray ?_)
  refine wpAny_ite_split (fun hab => absurd hab (by decide)) (fun _ => ?_)
  refine wpAny_ite_split (fun _ => ?_) (fun hab => absurd (by decide +kernel) hab)
  refine wpAny_bind (wpAny_typeOf hT ?_)
  exact wpAny_pure h
theorem ct_list_ba (hh : A.handled = none) (hB : BA h B x) (hn : x.length ≤ 1000) : Ct prog w A h (.type "list") [.addr B] (.list (bD x)) := fun P s vs hs r Q E hQ => by
  obtain ⟨v, q, rfl, r1, r2⟩ := rdL_cons.mp r
  rw [rdL_nil.mp r2, rd_addr.mp r1]
  have hB' : BA s.heap B x := hs _ _ hB
  have hne : s.heap.objs.size ≠ B := Nat.ne_of_gt (Heap.lt_size hB')
  refine list_any (T := "bytearray") (good := fun ord => IntsAre ord (x.map fun c => ((c.toNat : Nat) : Int))) hh (fun s' k => BA.typeIs (k _ _ hB')) (by decide) (by decide) (fun A E s' Q k hq => hint_ba (k _ _ hB') hq) (by simp [Builtin.List.listSameRef, hne]) (fun s' c e k => its_ba (k _ _ hB') e rfl hn) fun s' acc c hgd hk hS => ?_
  refine hQ _ _ hk (rd_list.mpr ⟨_, acc.toList, rfl, .inr (get_size _), ⟨_, hS, rfl, c, by simp⟩, ?_⟩)
  rw [bD_eq]
  exact RdL.of_ints hgd
end
end Mine
end
noncomputable section
open PySem PySem.W PyProof.Rows
open PySem.Sem (wp)
set_option Elab.async false
set_option autoImplicit false
set_option linter.unusedVariables false
set_option linter.unusedSimpArgs false
set_option maxRecDepth 100000
namespace Mine
theorem tw_ints {vs : List Value} {ns : List Int} {f : Value → Bool} (hi : IntsAre vs ns) (hr : ∀ n ∈ ns, 0 ≤ n ∧ n < 256) (hf : ∀ n t, f (.int n t) = (decide (0 ≤ n) && decide (n < 256))) : vs.takeWhile f = vs := by
  induction hi with
  | nil => rfl
  | @cons n t vs ns _ ih =>
    obtain ⟨h0, h1⟩ := hr n List.mem_cons_self
    rw [List.takeWhile_cons, hf]
    simp only [h0, h1, decide_true, Bool.and_self, if_true]
    rw [ih fun m hm => hr m (List.mem_cons_of_mem _ hm)]
theorem fm_ints {vs : List Value} {ns : List Int} {f : Value → Option UInt8} (hi : IntsAre vs ns) (hf : ∀ n t, f (.int n t) = some n.toNat.toUInt8) : vs.filterMap f = ns.map fun n => n.toNat.toUInt8 := by
  induction hi with
  | nil => rfl
  | @cons n t vs ns _ ih => rw [List.filterMap_cons, hf, List.map_cons, ih]
section
variable {prog : Program} {w : World} {A : Around} {E : Value → Shared → Prop} {s : Shared}
set_option maxHeartbeats 1600000 in
theorem ba_init_list {B l : Addr} {vs : List Value} {ns : List Int} {Q' : PySem.Fin → Shared → Prop} (b : BA s.heap B []) (hl : s.heap.IsList l vs.toArray) (hlB : l ≠ B) (hi : IntsAre vs ns) (hr : ∀ n ∈ ns, 0 ≤ n ∧ n < 256) (hn : ns.length ≤ 1000) (hg : A.guards = some [])
    (h : ∀ h', BA h' B (ns.map fun n => n.toNat.toUInt8) → Heap.SameBut B s.heap h' → Q' (.done (.ret .none)) { s with heap := h' }) :
    wpN (model prog w) A (Builtin.«bytearray.__init__» ⟨[.ref B, .ref l], []⟩) Q' E s := by
  unfold Builtin.«bytearray.__init__»
  refine wpN_bind (wpN_of (ba_ownRelease b ?_))
  show wpN _ _ (if false = true then _ else _) _ _ _
  rw [if_neg (by decide)]
  refine wpN_bind (wpN_of_eq (ba_bind _) ?_)
  refine wpN_bind (wpN_of_eq (a := ()) rfl ?_)
  refine wpN_bind (wpN_of_eq (a := ()) rfl ?_)
  refine wpN_bind (ba_exports b hg ?_)
  show wpN _ _ (if false = true then _ else _) _ _ _
  rw [if_neg (by decide)]
  refine wpN_bind (wpN_of (ba_write (y := []) b rfl (by simp) fun h1 b1 hs1 => ?_))
  refine wpN_of ?_
  obtain ⟨ol, hol, hoc, nl, hod⟩ := hl
  have hol1 : h1.get? l = some ol := (hs1.2 l hlB).trans hol
  have hTi : ({ s with heap := h1 } : Shared).TypeIs (.ref l) "list" := ⟨ol, hol1, hoc⟩
  dsimp -zeta only
  with_reducible refine wpAny_bind ?_
  have e1 : ∀ {Q : Option Str → Shared → Prop} {A : Around} {E : Value → Shared → Prop}, Q none { s with heap := h1 } → wpAny (model prog w) A (asStr? (.ref l)) Q E { s with heap := h1 } := by
    intro Q A E hq
    show wpAny _ _ (load l >>= _) _ _ _
    refine wpAny_bind (wpAny_load hol1 ?_)
    rw [hod]
    exact wpAny_pure hq
  with_reducible refine e1 ?_
  dsimp only [Option.isSome_none]
  rw [if_neg Bool.false_ne_true]
  rw [if_neg Bool.false_ne_true]
  rw [if_neg Bool.false_ne_true]
  with_reducible refine wpAny_bind ?_
  with_reducible refine wpAny_pure ?_
  with_reducible refine wpAny_bind ?_
  with_reducible refine wpAny_specialOf hTi PySem.F.bm_no_index ?_
  dsimp only [Option.isSome_none]
  rw [if_neg Bool.false_ne_true]
  with_reducible refine wpAny_bind ?_
  have e2 : ∀ {Q : Option (Array UInt8) → Shared → Prop} {A : Around} {E : Value → Shared → Prop}, Q none { s with heap := h1 } → wpAny (model prog w) A (Builtin.Bytes.buffer? "bytearray.__init__" (.ref l) true) Q E { s with heap := h1 } := by
    intro Q A E hq
    unfold Builtin.Bytes.buffer?
    refine wpAny_bind (wpAny_specialOf hTi PySem.F.bm_no_buffer ?_)
    refine wpAny_bind (wpAny_specialOf hTi PySem.F.bm_no_buffer ?_)
    exact wpAny_pure hq
  with_reducible refine e2 ?_
  dsimp only
  with_reducible refine wpAny_bind ?_
  with_reducible refine wpAny_typeOf hTi ?_
  have ht : (Value.type "list" == Value.type "list" || Value.type "list" == Value.type "tuple") = true := by decide
  rw [if_pos ht]
  with_reducible refine wpAny_bind ?_
  with_reducible refine wpAny_seqItems hol1 hod ?_
  dsimp -zeta only
  rw [tw_ints hi hr fun n t => rfl]
  have hnone : vs.toArray[vs.length]? = none := by simp
  rw [hnone]
  dsimp only
  with_reducible refine wpAny_bind ?_
  with_reducible refine wpAny_rule ?_
  with_reducible refine wpAny_bind ?_
  refine ba_write (y := ns.map fun n => n.toNat.toUInt8) b1 (by rw [fm_ints hi fun n t => rfl]) (by simpa using hn) fun h2 b2 hs2 => ?_
  exact wpAny_pure (h h2 b2 (hs1.trans hs2))
theorem call_ba_list {l : Addr} {vs : List Value} {ns : List Int} {Q : Value → Shared → Prop} (hg : A.guards = some []) (hl : s.heap.IsList l vs.toArray) (hi : IntsAre vs ns) (hr : ∀ n ∈ ns, 0 ≤ n ∧ n < 256) (hn : ns.length ≤ 1000)
    (hQ : ∀ h', Sub s.heap h' → BA h' s.heap.objs.size (ns.map fun n => n.toNat.toUInt8) → Q (.ref s.heap.objs.size) { s with heap := h' }) :
    wpN (model prog w) A (call (.type "bytearray") [.ref l]) Q E s := by
  refine callN_type (Q₁ := fun obj s₁ => obj = .ref s.heap.objs.size ∧ s₁ = { s with heap := s.heap.push (baObj []) }) ba_called (ba_typeCall _) ba_entry_init (fun a => show Builtin.Bytes.decodersThatHold.contains "bytearray.__init__" = false by decide +kernel)
    (code_ba_new _ ⟨rfl, rfl⟩) fun obj s₁ h₁ => ?_
  obtain ⟨rfl, rfl⟩ := h₁
  have b := BA.push s.heap []
  obtain ⟨ol, hol, hoc, nl, hod⟩ := id hl
  refine ⟨⟨_, b, rfl⟩, ba_args_init _ _, ba_init_list (A := A.in1.in1) b (hl.push _) (Nat.ne_of_lt (Heap.lt_size hol)) hi hr hn hg fun h' b' hs => ?_⟩
  exact ⟨rfl, hQ h' (sub_ba hs) b'⟩
end
end Mine
end
noncomputable section
open PySem PySem.W PyProof.Rows
open PySem.Sem (wp)
set_option Elab.async false
set_option autoImplicit false
set_option linter.unusedVariables false
set_option linter.unusedSimpArgs false
set_option maxRecDepth 4000
namespace Mine
/-! A comprehension of two clauses that hands out ints. -/
section
variable {prog : Program} {w : World} {A : Around} {R : Result → Shared → Prop} {s : Shared}
theorem loop_deep {elt target iter : Expr} {ifs : List Expr} {g1 : Comprehension} {scope : Scope} {pos : Pos} {it acc : Value} {env : Env} (I : Nat → Shared → Prop)
    (turn : ∀ n s, I n s → wpAny (model prog w) A (pyNext it) (fun r s₁ => match r with
      | none => R (.ok .next) s₁
      | some v => wpAny (model prog w) A (assign target env v) (fun _ s₂ =>
          wpAny (model prog w) A (forIn ifs true fun c r => if r = true then do let ok ← isTrue c env (eval c env); pure (ForInStep.yield ok) else pure (ForInStep.yield r)) (fun ok s₃ =>
            if ok = true then wpAny (model prog w) A (eval elt env) (fun x s₄ =>
              wpAny (model prog w) A (call (.builtin "list.append") [acc, x]) (fun _ s₅ => ∃ m, m < n ∧ I m s₅) (notedBy (model prog w) A env fun e s' => R (.error e) s') s₄) (notedBy (model prog w) A env fun e s' => R (.error e) s') s₃
            else ∃ m, m < n ∧ I m s₃) (notedBy (model prog w) A env fun e s' => R (.error e) s') s₂) (notedBy (model prog w) A env fun e s' => R (.error e) s') s₁) (notedBy (model prog w) A env fun e s' => R (.error e) s') s)
    (n : Nat) (h : I n s) (ht : ∀ v, letOwnedTupleGo target it v = pure () := by intro _; rfl) :
    codeAny (model prog w) A (.compLoop (.ListComp elt [g1, ⟨target, iter, ifs, 0⟩] scope pos) 1 it acc env) R s := by
  refine codeAny_loop rfl I (fun n s hI => ?_) n h
  show wpAny _ A ((compTurn (.ListComp elt [g1, ⟨target, iter, ifs, 0⟩] scope pos) 1 it acc env).onRaise (fun x => do noteFrame x env; theTreesLotGoes x)) _ _ s
  refine wpAny_noted ?_
  have e : compTurn (.ListComp elt [g1, ⟨target, iter, ifs, 0⟩] scope pos) 1 it acc env = (do
      standAt iter.pos
      match ← pyNext it with
      | none => pure (.done .next)
      | some v =>
        letOwnedTupleGo target it v
        assign target env v
        let mut ok := true
        for c in ifs do
          if ok then ok ← isTrue c env (eval c env)
        if ok then
          (do let _ ← call (.builtin "list.append") [acc, ← eval elt env])
        again (.compLoop (.ListComp elt [g1, ⟨target, iter, ifs, 0⟩] scope pos) 1 it acc env)) := by rfl
  rw [e]
  refine wpAny_bind (wpAny_standAt (wpAny_bind (wpAny_mono (turn n s hI) (fun r s₁ h₁ => ?_) fun _ _ h' => h')))
  cases r with
  | none => exact wpAny_pure h₁
  | some v =>
    refine wpAny_bind (wpAny_of_eq (ht v) ?_)
    refine wpAny_bind (wpAny_mono h₁ (fun _ s₂ h₂ => wpAny_bind (wpAny_mono h₂ (fun ok s₃ h₃ => ?_) fun _ _ h' => h')) fun _ _ h' => h')
    cases ok with
    | false => exact wpAny_pure ⟨rfl, h₃⟩
    | true =>
      exact wpAny_bind (wpAny_bind (wpAny_mono h₃ (fun x s₄ h₄ => wpAny_bind (wpAny_mono h₄ (fun _ s₅ h₅ => wpAny_pure (wpAny_pure ⟨rfl, h₅⟩)) fun _ _ h' => h')) fun _ _ h' => h'))
theorem start_deep {elt target iter : Expr} {ifs : List Expr} {g1 : Comprehension} {scope : Scope} {pos : Pos} {it acc : Value} {env : Env}
    (h0 : codeAny (model prog w) A (.compLoop (.ListComp elt [g1, ⟨target, iter, ifs, 0⟩] scope pos) 1 it acc env) R s)
    (h : wpAny (model prog w) A (pyIter it) (fun it' s' => codeAny (model prog w) A (.compLoop (.ListComp elt [g1, ⟨target, iter, ifs, 0⟩] scope pos) 1 it' acc env) R s')
      (notedBy (model prog w) A env fun x s' => R (.error x) s') s) :
    codeAny (model prog w) A (.compStart (.ListComp elt [g1, ⟨target, iter, ifs, 0⟩] scope pos) 1 it acc env) R s := by
  refine codeAny_of_tree ?_
  show wpAny _ _ ((compStart (.ListComp elt [g1, ⟨target, iter, ifs, 0⟩] scope pos) 1 it acc env).onRaise (fun x => do noteFrame x env; standAt theWindowsPlace)) _ _ s
  refine wpAny_notedAt ?_
  unfold compStart
  show wpAny _ _ (ask >>= _) _ _ s
  refine wpAny_bind (wpAny_askSetting (wpAny_ite ?_))
  split
  · first
      | exact wpAny_bind (wpAny_pure (wpAny_pure (And.intro rfl h0)))
      | exact wpAny_pure (And.intro rfl h0)
  · first
      | exact wpAny_bind (wpAny_rule (wpAny_bind (wpAny_standAt (wpAny_bind (wpAny_mono h (fun it' s' h' => wpAny_pure (And.intro rfl h')) fun _ _ x => x)))))
      | (refine wpAny_bind (wpAny_rule ?_); show wpAny _ _ (standAt iter.pos >>= _) _ _ s; exact wpAny_bind (wpAny_standAt (wpAny_bind (wpAny_mono h (fun it' s' h' => wpAny_pure (And.intro rfl h')) fun _ _ x => x))))
theorem loop_outer {elt t1 t2 iter1 iter2 : Expr} {ifs : List Expr} {scope : Scope} {pos : Pos} {it acc : Value} {env : Env} (I : Nat → Shared → Prop)
    (turn : ∀ n s, I n s → wpAny (model prog w) A (pyNext it) (fun r s₁ => match r with
      | none => R (.ok .next) s₁
      | some v => wpAny (model prog w) A (assign t1 env v) (fun _ s₂ =>
          wpAny (model prog w) A (eval iter2 env) (fun x s₃ => wpAny (model prog w) A (pyIter x) (fun it2 s₄ =>
            codeAny (model prog w) A (.compStart (.ListComp elt [⟨t1, iter1, [], 0⟩, ⟨t2, iter2, ifs, 0⟩] scope pos) 1 it2 acc env) (fun r s₅ => match r with
              | .ok _ => ∃ m, m < n ∧ I m s₅
              | .error e => cameBackBy (model prog w) A env (notedBy (model prog w) A env fun e s' => R (.error e) s') e s₅) s₄)
            (notedBy (model prog w) A env fun e s' => R (.error e) s') s₃) (notedBy (model prog w) A env fun e s' => R (.error e) s') s₂) (notedBy (model prog w) A env fun e s' => R (.error e) s') s₁) (notedBy (model prog w) A env fun e s' => R (.error e) s') s)
    (n : Nat) (h : I n s) (ht : ∀ v, letOwnedTupleGo t1 it v = pure () := by intro _; rfl) (hfs : ∀ y, foldedSetIterable iter2 env y = pure y := by intro _; rfl) :
    codeAny (model prog w) A (.compLoop (.ListComp elt [⟨t1, iter1, [], 0⟩, ⟨t2, iter2, ifs, 0⟩] scope pos) 0 it acc env) R s := by
  refine codeAny_loop rfl I (fun n s hI => ?_) n h
  show wpAny _ A ((compTurn (.ListComp elt [⟨t1, iter1, [], 0⟩, ⟨t2, iter2, ifs, 0⟩] scope pos) 0 it acc env).onRaise (fun x => do noteFrame x env; theTreesLotGoes x)) _ _ s
  refine wpAny_noted ?_
  have e : compTurn (.ListComp elt [⟨t1, iter1, [], 0⟩, ⟨t2, iter2, ifs, 0⟩] scope pos) 0 it acc env = (do
      standAt iter1.pos
      match ← pyNext it with
      | none => pure (.done .next)
      | some v =>
        letOwnedTupleGo t1 it v
        assign t1 env v
        let mut ok := true
        for c in ([] : List Expr) do
          if ok then ok ← isTrue c env (eval c env)
        if ok then
          let x ← eval iter2 env
          standAt iter2.pos
          let x ← foldedSetIterable iter2 env x
          let _ ← runOwn (.compStart (.ListComp elt [⟨t1, iter1, [], 0⟩, ⟨t2, iter2, ifs, 0⟩] scope pos) 1 (← holding [x] (pyIter x)) acc env) env
        again (.compLoop (.ListComp elt [⟨t1, iter1, [], 0⟩, ⟨t2, iter2, ifs, 0⟩] scope pos) 0 it acc env)) := by rfl
  rw [e]
  refine wpAny_bind (wpAny_standAt (wpAny_bind (wpAny_mono (turn n s hI) (fun r s₁ h₁ => ?_) fun _ _ h' => h')))
  cases r with
  | none => exact wpAny_pure h₁
  | some v =>
    refine wpAny_bind (wpAny_of_eq (ht v) ?_)
    refine wpAny_bind (wpAny_mono h₁ (fun _ s₂ h₂ => ?_) fun _ _ h' => h')
    refine wpAny_bind (wpAny_pure ?_)
    rw [if_pos rfl]
    refine wpAny_bind (wpAny_mono h₂ (fun x s₃ h₃ => ?_) fun _ _ h' => h')
    refine wpAny_bind (wpAny_standAt ?_)
    refine wpAny_bind (wpAny_of_eq (hfs x) ?_)
    refine wpAny_bind (wpAny_holding (wpAny_mono h₃ (fun it2 s₄ h₄ => ?_) fun _ _ h' => h'))
    refine wpAny_bind (wpAny_runOwn (codeAny_mono h₄ fun r s₅ h₅ => ?_))
    cases r with
    | ok f => exact wpAny_pure ⟨rfl, h₅⟩
    | error e => exact h₅
end
end Mine
end
noncomputable section
open PySem PySem.W PyProof.Rows
open PySem.Sem (wp)
set_option Elab.async false
set_option autoImplicit false
set_option linter.unusedVariables false
set_option linter.unusedSimpArgs false
set_option maxRecDepth 4000
namespace Mine
theorem IntsAre.snoc {vs : List Value} {ns : List Int} (h : IntsAre vs ns) (n : Int) (t : Tok) : IntsAre (vs ++ [.int n t]) (ns ++ [n]) := ints_append h (.cons n t .nil)
section
variable {prog : Program} {w : World} {A : Around} {R : Result → Shared → Prop}
theorem looks_loc {ce : Env} {h : Heap} {x : Str} {v : Value} {m : Str → Option Value} (hf : ce.scope.kind = .function) (hd : (x == ("__debug__" : Str)) = false) (hk : ce.kindOf x = some .local) (n : h.Ns ce.locals m) (e : m x = some v) : Looks ce h x v :=
  ⟨hf, hd, .inl ⟨hk, m, n, e⟩⟩
theorem inner_turns {elt iter : Expr} {x1 x2 : Str} {px pos : Pos} {ifs : List Expr} {g1 : Comprehension} {scope : Scope} {ce : Env} {I L : Addr} {ds : List D} {s4 : Shared} {v1 : Value} {m0 : Str → Option Value} {base : List Int} {ys0 : Array Value}
    {fp : List Addr} {Pv : Nat → Value → Prop} {St : Nat → Heap → Prop}
    (hf : ce.scope.kind = .function) (hk1 : ce.kindOf x1 = some .local) (hk2 : ce.kindOf x2 = some .local) (h12 : x1 ≠ x2) (hd1 : (x1 == ("__debug__" : Str)) = false) (hd2 : (x2 == ("__debug__" : Str)) = false)
    (p : Nat → Bool) (f : Nat → Int)
    (W : Walks prog w A I fp [I] ds.length Pv St) (st : St 0 s4.heap) (hlv : ∀ i h, St i h → ∃ o, h.get? I = some o)
    (hIL : I ≠ L) (hIC : I ≠ ce.locals) (hLC : L ≠ ce.locals) (hfp : ∀ b ∈ fp, b ≠ L ∧ b ≠ ce.locals)
    (hflat : ∀ d ∈ ds, d.flat = true) (hsafe : ∀ i y d, Pv i y → ds[i]? = some d → ∃ P h, Rd P h d y)
    (hn0 : s4.heap.Ns ce.locals m0) (hm0 : m0 x1 = some v1) (hacc : s4.heap.PlainList L ys0) (hbase : IntsAre ys0.toList base) (hlen : base.length + ds.length ≤ 1000)
    (body : ∀ (s' : Shared) (i : Nat) (di : D) (v : Value), Kx (fun b => b = I ∨ b = L ∨ b = ce.locals) s4 s' → Looks ce s'.heap x1 v1 → Looks ce s'.heap x2 v → ds[i]? = some di → Rd All s'.heap di v →
      TrL prog w A ce s'.heap ifs (p i) ∧ (p i = true → Ev prog w A ce All s'.heap elt (.int (f i))))
    (hR : ∀ s' m ys, Kw (fun b => b = I ∨ b = L ∨ b = ce.locals) s4 s' → s'.heap.Ns ce.locals m → s'.heap.PlainList L ys → IntsAre ys.toList (base ++ ((List.range ds.length).filter p).map f) → R (.ok .next) s') :
    codeAny (model prog w) A (.compLoop (.ListComp elt [g1, ⟨.Name x2 px, iter, ifs, 0⟩] scope pos) 1 (.ref I) (.ref L) ce) R s4 := by
  let Y : Addr → Prop := fun b => b = I ∨ b = L ∨ b = ce.locals
  have hp : (ce.scope.kind == .class || (ce.scope.kind == .module && ce.locals != ce.globals)) = false := by rw [hf]; rfl
  refine loop_deep (fun k s' => ∃ i ys m, k = ds.length + 1 - i ∧ i ≤ ds.length ∧ Kx Y s4 s' ∧ St i s'.heap ∧ s'.heap.Ns ce.locals m ∧ m x1 = some v1 ∧ s'.heap.PlainList L ys ∧ IntsAre ys.toList (base ++ ((List.range i).filter p).map f)) ?_ (ds.length + 1)
    ⟨0, ys0, m0, rfl, Nat.zero_le _, Kx.refl _ _, st, hn0, hm0, hacc, by simpa using hbase⟩
  rintro k s2 ⟨i, ys, m, rfl, hi, kx, st2, n2, hm2, acc2, rl⟩
  have hys : ys.size ≤ sizeLine := by
    have e1 := IntsAre.len rl
    have e2 : (((List.range i).filter p).map f).length ≤ i := by rw [List.length_map]; exact Nat.le_trans (List.length_filter_le _ _) (by simp)
    have e4 : ys.toList.length = ys.size := by simp
    rw [List.length_append] at e1
    rw [sizeLine_is]; lia
  by_cases hlt : i < ds.length
  · refine W.item i s2 _ _ hlt st2 fun v h' tk pv st3 hkeep => ?_
    have hkeep' : ∀ b o, b ≠ I → s2.heap.get? b = some o → h'.get? b = some o := fun b o q e => hkeep b o (by simpa using q) e
    have live3 : ∀ b, h'.get? b = none → s2.heap.get? b = none := fun b e => by
      by_cases q : b = I
      · subst q
        obtain ⟨o, ho⟩ := hlv _ _ st3
        rw [ho] at e; cases e
      · cases z : s2.heap.get? b with
        | none => rfl
        | some o => rw [hkeep' b o q z] at e; cases e
    have kx3 : Kx Y s2 { s2 with heap := h', toks := tk } := ⟨fun b o n e => hkeep' b o (fun q => n (.inl q)) e, live3, rfl, fun _ _ e => e, fun e => e⟩
    have n3 : h'.Ns ce.locals m := n2.at' fun o e => hkeep' _ o (Ne.symm hIC) e
    refine wpAny_assign_Name (wpAny_storeName_local hk2 n3 (fun h5 n5 hs5 => ?_) hp)
    obtain ⟨o5, ho5⟩ := Ns.some n5
    have kx5 : Kx Y s4 { s2 with heap := h5, toks := tk + 1 } := (kx.trans kx3).trans (Kx.same (tk := tk + 1) (s := { s2 with heap := h', toks := tk }) hs5 ho5 (.inr (.inr rfl)))
    have hdi : ∃ di, ds[i]? = some di := ⟨ds[i]'(by lia), by simp⟩
    obtain ⟨di, hdi⟩ := hdi
    obtain ⟨P0, h0, r0⟩ := hsafe i v di pv hdi
    have hm5 : (fun y => if y = x2 then some v else m y) x1 = some v1 := by simp [h12, hm2]
    have l1 : Looks ce h5 x1 v1 := by
      refine looks_loc hf hd1 hk1 n5 ?_
      simpa using hm5
    have l2 : Looks ce h5 x2 v := by
      refine looks_loc hf hd2 hk2 n5 ?_
      simp
    have k5 : ∀ b o, b ≠ ce.locals → h'.get? b = some o → h5.get? b = some o := fun b o q e => (hs5.2 b q).trans e
    obtain ⟨bt, be⟩ := body { s2 with heap := h5, toks := tk + 1 } i di v kx5 l1 l2 hdi (r0.flat (hflat _ (List.mem_of_getElem? hdi)))
    have st5 : St (i + 1) h5 := W.frame _ _ _ st3 fun b hb o e => k5 b o (hfp b hb).2 e
    have acc5 : h5.PlainList L ys := (acc2.at fun o e => hkeep' _ o (Ne.symm hIL) e).at fun o e => k5 _ o hLC e
    refine bt { s2 with heap := h5, toks := tk + 1 } (.refl _) _ _ fun s6 k6 => ?_
    have st6 : St (i + 1) s6.heap := W.frame _ _ _ st5 fun b _ o e => k6.keep b o e
    have kx6 : Kx Y s4 s6 := kx5.trans k6.kx
    have hsuc : ((List.range (i + 1)).filter p) = ((List.range i).filter p) ++ (if p i then [i] else []) := by
      rw [List.range_succ, List.filter_append]
      cases hp : p i <;> simp [hp]
    cases hpi : p i with
    | false =>
      simp only [Bool.false_eq_true, if_false]
      refine ⟨ds.length + 1 - (i + 1), by lia, i + 1, ys, _, rfl, hlt, kx6, st6, n5.keeps k6.keep, ?_, acc5.at fun o e => k6.keep _ o e, ?_⟩
      · simpa using hm5
      · rw [hsuc, hpi]
        simpa using rl
    | true =>
      simp only [if_true]
      refine be hpi s6 k6.keep _ _ fun y s7 k7 ry => ?_
      obtain ⟨ty, rfl⟩ := rd_int.mp ry
      refine wpAny_list_append_plain (hsz := hys) ((acc5.at fun o e => k6.keep _ o e).at fun o e => k7.keep _ o e) fun h8 acc8 hs8 => ?_
      have kx8 : Kx Y s7 { s7 with heap := h8 } := by
        obtain ⟨n, z⟩ := id acc8
        exact Kx.same (tk := s7.toks) hs8 z (.inr (.inl rfl))
      have hk8 : ∀ b o, b ≠ L → s7.heap.get? b = some o → h8.get? b = some o := fun b o q e => (hs8.2 b q).trans e
      refine ⟨ds.length + 1 - (i + 1), by lia, i + 1, _, _, rfl, hlt, (kx6.trans k7.kx).trans kx8, W.frame _ _ _ st6 fun b hb o e => hk8 b o (hfp b hb).1 (k7.keep b o e), ((n5.keeps k6.keep).keeps k7.keep).at' fun o e => hk8 _ o (Ne.symm hLC) e, by simpa using hm5, acc8, ?_⟩
      rw [hsuc, hpi]
      simp only [if_true, List.map_append, List.map_cons, List.map_nil, Array.toList_push]
      rw [← List.append_assoc]
      exact IntsAre.snoc rl _ _
  · have hin : i = ds.length := by lia
    subst hin
    refine W.done s2 _ _ st2 fun h' tk hkeep => ?_
    have hkeep' : ∀ b o, b ≠ I → s2.heap.get? b = some o → h'.get? b = some o := fun b o q e => hkeep b o (by simpa using q) e
    refine hR { s2 with heap := h', toks := tk } m ys ⟨fun b o n e => hkeep' b o (fun q => n (.inl q)) (kx.keep b o n e), kx.os, kx.gens, kx.bare⟩ (n2.at' fun o e => hkeep' _ o (Ne.symm hIC) e) (acc2.at fun o e => hkeep' _ o (Ne.symm hIL) e) rl
end
end Mine
end
noncomputable section
open PySem PySem.W PyProof.Rows
open PySem.Sem (wp)
set_option Elab.async false
set_option autoImplicit false
set_option linter.unusedVariables false
set_option linter.unusedSimpArgs false
set_option maxRecDepth 4000
namespace Mine
section
variable {prog : Program} {w : World} {A : Around} {env : Env} {P : Addr → Prop} {h : Heap}
set_option maxHeartbeats 1600000 in
theorem comp2_go {elt iter1 iter2 : Expr} {x1 x2 : Str} {p1 p2 pos pos' : Pos} {ifs : List Expr} {scope : Scope} {d1 : D} {ds1 : List D} {s : Shared} {use : Option (Value → Sem Unit)} {Q : Value → Shared → Prop} {E : Value → Shared → Prop} (hs : Sub h s.heap) (K : ScOk scope env x1) (hx1 : scope.names.lookup x1 = some .local) (K2 : ScOk scope env x2) (hx2 : scope.names.lookup x2 = some .local) (h12 : x1 ≠ x2)
    (d2 : Nat → D) (ds2 : Nat → List D) (p : Nat → Nat → Bool) (f : Nat → Nat → Int)
    (h1 : Ev prog w A env P h iter1 d1) (src : ∀ (P : Addr → Prop) (s : Shared) (v : Value), Rd P s.heap d1 v → Src prog w A P s v ds1)
    (hn : ∀ i, i < ds1.length → ((((List.range i).map fun i => ((List.range (ds2 i).length).filter (p i)).map (f i)).flatten).length + (ds2 i).length ≤ 1000))
    (body1 : ∀ (C : Addr) (h' : Heap) (i : Nat) (di : D) (v : Value), Sub h h' → Looks (CE scope env C) h' x1 v → ds1[i]? = some di → Rd All h' di v → Ev prog w A (CE scope env C) (fun _ => False) h' iter2 (d2 i))
    (src2 : ∀ (i : Nat) (P : Addr → Prop) (s : Shared) (v : Value), Rd P s.heap (d2 i) v → Src prog w A P s v (ds2 i))
    (hflat : ∀ i, ∀ d ∈ ds2 i, d.flat = true)
    (body2 : ∀ (C : Addr) (h' : Heap) (i j : Nat) (di dj : D) (v1 v2 : Value), Sub h h' → Looks (CE scope env C) h' x1 v1 → Looks (CE scope env C) h' x2 v2 → ds1[i]? = some di → Rd All h' di v1 → (ds2 i)[j]? = some dj → Rd All h' dj v2 →
      TrL prog w A (CE scope env C) h' ifs (p i j) ∧ (p i j = true → Ev prog w A (CE scope env C) All h' elt (.int (f i j))))
    (hQ : ∀ s' L C, Kp s s' → (∃ m, s'.heap.Ns C m) → s.heap.get? C = none → Rd (fun b => Nw P s b ∧ b ≠ C) s'.heap (.list ((((List.range ds1.length).map fun i => ((List.range (ds2 i).length).filter (p i)).map (f i)).flatten).map D.int)) (.ref L) → compPost (model prog w) A E use Q (.ref L) C (.ok .next) s')
    (hfs : ∀ y, foldedSetIterable iter1 env y = pure y := by intro _; rfl) (hfs2 : ∀ (e : Env) y, foldedSetIterable iter2 e y = pure y := by intro _ _; rfl) :
    wpAny (model prog w) A (comprehension (.ListComp elt [⟨.Name x1 p1, iter1, [], 0⟩, ⟨.Name x2 p2, iter2, ifs, 0⟩] scope pos) scope env pos' (newList []) false (eval iter1 env) use) Q E s := by
  have hcl : closureFor scope env = pure (closOf env.cells scope.names []) := closureFor_is fun n k hm hk => (K.frees n k hm hk).2
  refine wpAny_comprehension_free (g := ⟨.Name x1 p1, iter1, [], 0⟩) (gs := [⟨.Name x2 p2, iter2, ifs, 0⟩]) rfl hfs hcl K.fn (fun y hy hl => mem_lookup K.once (by rw [← hl]; exact hy)) ?_
  refine h1 s hs _ _ fun v s1 k1 r1 => ?_
  obtain ⟨oI, fp, n, Pv, St, hit, W, st, hfr, hnn, hlv, hfp, hrd⟩ := src _ s1 v r1
  refine hit _ _ ?_
  refine wpAny_newObj_type ?_
  refine ce_new ?_
  dsimp only
  generalize hI : s1.heap.objs.size = I at *
  generalize hH1 : s1.heap.push oI = H1 at *
  have sI : H1.objs.size = I + 1 := by rw [← hH1, Heap.size_push, hI]
  generalize hH2 : H1.push { cls := .type "list", dict := none, data := .seq ([] : List Value).toArray } = H2 at *
  have sL : H2.objs.size = I + 2 := by rw [← hH2, Heap.size_push, sI]
  rw [sI, sL]
  generalize hH3 : H2.push { cls := .type "dict", data := .dict #[] } = H3 at *
  have sC : H3.objs.size = I + 3 := by rw [← hH3, Heap.size_push, sL]
  have k01 : Sub s1.heap H1 := by rw [← hH1]; exact sub_push _ _
  have k12 : Sub H1 H2 := by rw [← hH2]; exact sub_push _ _
  have k23 : Sub H2 H3 := by rw [← hH3]; exact sub_push _ _
  have k34 : Sub H3 (pushCells H3 scope.names) := fun b o e => pushCells_keeps _ _ _ _ e
  have kk : Sub s1.heap (pushCells H3 scope.names) := ((k01.trans k12).trans k23).trans k34
  have fresh : ∀ b, I ≤ b → s1.heap.get? b = none := fun b hb => Heap.get_none_le (by lia)
  have hns0 : ∃ m, (pushCells H3 scope.names).Ns (I + 2) m := by
    have : H3.Ns (I + 2) (fun _ => none) := by rw [← hH3, ← sL]; exact Heap.Ns.new _ _
    exact ⟨_, this.keeps k34⟩
  have hst : St 0 (pushCells H3 scope.names) := W.frame _ _ _ st fun b _ o e => ((k12.trans k23).trans k34) b o e
  have hacc : (pushCells H3 scope.names).PlainList (I + 1) #[] := ⟨_, (k23.trans k34) _ _ (by rw [← hH2, ← sI]; exact Heap.get?_push_size _ rfl)⟩
  have hfp' : ∀ b ∈ fp, @LE.le Nat _ b I := fun b hb => by
    rcases hfp b hb with e | e
    · exact Nat.le_of_eq e
    · exact Nat.le_of_lt e.2
  let acc : Nat → List Int := fun i => ((List.range i).map fun i => ((List.range (ds2 i).length).filter (p i)).map (f i)).flatten
  generalize hce : CE scope env (I + 2) = ce
  have hcl' : ce.locals = I + 2 := by rw [← hce]; rfl
  have hf : ce.scope.kind = .function := by rw [← hce]; exact K.fn
  have hk1 : ce.kindOf x1 = some .local := by rw [← hce, K.kindVar, hx1]
  have hk2 : ce.kindOf x2 = some .local := by rw [← hce, K2.kindVar, hx2]
  have hpk : (ce.scope.kind == .class || (ce.scope.kind == .module && ce.locals != ce.globals)) = false := by rw [hf]; rfl
  -- the end
  have post : ∀ s' : Shared, Kp s1 s' → (∃ m, s'.heap.Ns (I + 2) m) → (∃ ys, s'.heap.PlainList (I + 1) ys ∧ IntsAre ys.toList (acc ds1.length)) → compPost (model prog w) A E use Q (.ref (I + 1)) (I + 2) (.ok .next) s' := by
    rintro s' k' hm ⟨ys, hy, hi⟩
    refine hQ s' (I + 1) (I + 2) (k1.trans k') hm (none_of_kp k1 (fresh _ (by lia))) (rd_list.mpr ⟨I + 1, ys.toList, rfl, ⟨.inr (none_of_kp k1 (fresh _ (by lia))), Nat.ne_of_lt (Nat.lt_succ_self _)⟩, ?_, RdL.of_ints hi⟩)
    simpa using hy.isList
  have loop : codeAny (model prog w) A (.compLoop (.ListComp elt [⟨.Name x1 p1, iter1, [], 0⟩, ⟨.Name x2 p2, iter2, ifs, 0⟩] scope pos) 0 (.ref I) (.ref (I + 1)) ce) (compPost (model prog w) A E use Q (.ref (I + 1)) (I + 2)) { s1 with heap := pushCells H3 scope.names } := by
    refine loop_outer (fun k s' => ∃ i ys m, k = ds1.length + 1 - i ∧ i ≤ ds1.length ∧ Kp s1 s' ∧ St i s'.heap ∧ s'.heap.Ns ce.locals m ∧ s'.heap.PlainList (I + 1) ys ∧ IntsAre ys.toList (acc i)) ?_ (ds1.length + 1) ?init (hfs := hfs2 ce)
    case init =>
      obtain ⟨m, hm⟩ := hns0
      exact ⟨0, #[], m, rfl, Nat.zero_le _, Kp.heap (t := s1.toks) kk, hst, hcl' ▸ hm, hacc, .nil⟩
    rintro k s2 ⟨i, ys, m, rfl, hi, kp2, st2, n2, acc2, rl⟩
    by_cases hlt : i < ds1.length
    · refine W.item i s2 _ _ (hnn ▸ hlt) st2 fun v1 h' tk pv st3 hkeep => ?_
      have hkeep' : ∀ b o, b ≠ I → s2.heap.get? b = some o → h'.get? b = some o := fun b o q e => hkeep b o (by simpa using q) e
      have n3 : h'.Ns ce.locals m := n2.at' fun o e => hkeep' _ o (by rw [hcl']; exact Nat.ne_of_gt (by lia)) e
      refine wpAny_assign_Name (wpAny_storeName_local hk1 n3 (fun h5 n5 hs5 => ?_) hpk)
      have k5 : ∀ b o, b ≠ I + 2 → h'.get? b = some o → h5.get? b = some o := fun b o q e => (hs5.2 b (hcl' ▸ q)).trans e
      obtain ⟨di, hdi⟩ : ∃ di, ds1[i]? = some di := ⟨ds1[i]'hlt, by simp⟩
      have sub15 : Sub s1.heap h5 := fun b o e => by
        have hb : @LT.lt Nat _ b I := by
          have := Heap.lt_size e
          exact Nat.lt_of_lt_of_eq this hI
        exact k5 b o (Nat.ne_of_lt (by lia)) (hkeep' b o (Nat.ne_of_lt hb) (kp2.keep b o e))
      have hrv : Rd All h5 di v1 := ((hrd i v1 di pv hdi).sub sub15).mono fun _ _ => trivial
      have l1 : Looks ce h5 x1 v1 := looks_loc hf K.dbg hk1 n5 (by simp)
      have hsub5 : Sub h h5 := (hs.trans k1.keep).trans sub15
      have e2 := body1 (I + 2) h5 i di v1 hsub5 (hce ▸ l1) hdi hrv
      rw [hce] at e2
      refine e2 _ (.refl _) _ _ fun v2 s6 k6 r6 => ?_
      obtain ⟨oI2, fp2, n2', Pv2, St2', hit2, W2, st2', hfr2, hnn2, hlv2, hfp2, hrd2⟩ := src2 i _ s6 v2 r6
      refine hit2 _ _ ?_
      subst hnn2
      have n6 := n5.keeps k6.keep
      have acc6 : s6.heap.PlainList (I + 1) ys := ((acc2.at fun o e => hkeep' _ o (Nat.ne_of_gt (Nat.lt_succ_self _)) e).at fun o e => k5 _ o (Nat.ne_of_lt (Nat.lt_succ_self _)) e).at fun o e => k6.keep _ o e
      have hL6 : @LT.lt Nat _ (I + 1) s6.heap.objs.size := by obtain ⟨_, z⟩ := id acc6; exact Heap.lt_size z
      have hC6 : @LT.lt Nat _ (I + 2) s6.heap.objs.size := by obtain ⟨_, z⟩ := Ns.some n6; exact hcl' ▸ Heap.lt_size z
      have st6 : St (i + 1) (s6.heap.push oI2) := W.frame _ _ _ st3 fun b hb o e => Heap.get?_push_of_some _ (k6.keep _ o (k5 b o (Nat.ne_of_lt (Nat.lt_of_le_of_lt (hfp' b hb) (by lia))) e))
      have sub16 : Sub s1.heap s6.heap := sub15.trans k6.keep
      have inner : codeAny (model prog w) A (.compLoop (.ListComp elt [⟨.Name x1 p1, iter1, [], 0⟩, ⟨.Name x2 p2, iter2, ifs, 0⟩] scope pos) 1 (.ref s6.heap.objs.size) (.ref (I + 1)) ce) (fun r s₅ => match r with
          | .ok _ => ∃ m, m < ds1.length + 1 - i ∧ ∃ i ys m_1, m = ds1.length + 1 - i ∧ i ≤ ds1.length ∧ Kp s1 s₅ ∧ St i s₅.heap ∧ s₅.heap.Ns ce.locals m_1 ∧ s₅.heap.PlainList (I + 1) ys ∧ IntsAre ys.toList (acc i)
          | .error e => cameBackBy (model prog w) A ce (notedBy (model prog w) A ce fun e s' => compPost (model prog w) A E use Q (.ref (I + 1)) (I + 2) (.error e) s') e s₅) { s6 with heap := s6.heap.push oI2 } := by
        refine inner_turns (ds := ds2 i) (x1 := x1) (v1 := v1) (base := acc i) (ys0 := ys) hf hk1 hk2 h12 K.dbg K2.dbg (p i) (f i) W2 st2' hlv2 (Nat.ne_of_gt hL6) (by rw [hcl']; exact Nat.ne_of_gt hC6) (by rw [hcl']; exact Nat.ne_of_lt (Nat.lt_succ_self _)) (fun b hb => ?_) (hflat i) (fun j y d hy hd => ⟨_, _, hrd2 j y d hy hd⟩) (n6.keeps (sub_push _ _)) (by simp) (acc6.at fun o e => Heap.get?_push_of_some _ e) rl (hn i hlt) (fun s' j dj v kx' lx1 lx2 hdj rdj => ?_) fun s' m' ys' kw' n' a' rl' => ?_
        · have hb2 : b = s6.heap.objs.size ∨ h5.get? b = none := by
            rcases hfp2 b hb with e | e
            · exact .inl e
            · rcases e.1 with e | e
              · exact e.elim
              · exact .inr e
          rcases hb2 with e | e
          · exact ⟨fun q => Nat.lt_irrefl _ (Nat.lt_of_lt_of_eq hL6 (e.symm.trans q)), fun q => Nat.lt_irrefl _ (Nat.lt_of_lt_of_eq hC6 (e.symm.trans (q.trans hcl')))⟩
          · refine ⟨fun q => ?_, fun q => ?_⟩
            · obtain ⟨nn, z⟩ := (acc2.at (h' := h') fun o e => hkeep' _ o (Nat.ne_of_gt (Nat.lt_succ_self _)) e)
              rw [q, k5 _ _ (Nat.ne_of_lt (Nat.lt_succ_self _)) z] at e; cases e
            · obtain ⟨_, z⟩ := Ns.some n5
              rw [q, z] at e; cases e
        · have subx : Sub s1.heap s'.heap := fun b o e => by
            have hb : @LT.lt Nat _ b I := Nat.lt_of_lt_of_eq (Heap.lt_size e) hI
            refine kx'.keep b o (fun q => ?_) (Heap.get?_push_of_some _ (sub16 b o e))
            rcases q with q | q | q
            · exact absurd (Heap.lt_size (sub16 b o e)) (by rw [q]; exact Nat.lt_irrefl _)
            · exact Nat.ne_of_lt (Nat.lt_succ_of_lt hb) q
            · exact Nat.ne_of_lt (Nat.lt_succ_of_lt (Nat.lt_succ_of_lt hb)) (q.trans hcl')
          have z := body2 (I + 2) s'.heap i j di dj v1 v ((hs.trans k1.keep).trans subx) (hce ▸ lx1) (hce ▸ lx2) hdi (((hrd i v1 di pv hdi).sub subx).mono fun _ _ => trivial) hdj rdj
          rw [hce] at z
          exact z
        · have subx : Sub s1.heap s'.heap := fun b o e => by
            have hb : @LT.lt Nat _ b I := Nat.lt_of_lt_of_eq (Heap.lt_size e) hI
            refine kw'.keep b o (fun q => ?_) (Heap.get?_push_of_some _ (sub16 b o e))
            rcases q with q | q | q
            · exact absurd (Heap.lt_size (sub16 b o e)) (by rw [q]; exact Nat.lt_irrefl _)
            · exact Nat.ne_of_lt (Nat.lt_succ_of_lt hb) q
            · exact Nat.ne_of_lt (Nat.lt_succ_of_lt (Nat.lt_succ_of_lt hb)) (q.trans hcl')
          refine ⟨ds1.length + 1 - (i + 1), by lia, i + 1, ys', m', rfl, hlt, ⟨subx, (kw'.os.trans k6.os).trans kp2.os, fun g y e => kw'.gens g y (k6.gens g y (kp2.gens g y e)), fun e => kw'.bare (k6.bare (kp2.bare e))⟩, W.frame _ _ _ st6 fun b hb o e => kw'.keep b o (fun q => ?_) e, n', a', ?_⟩
          · have hb' := hfp' b hb
            rcases q with q | q | q
            · rw [q] at hb'
              exact absurd (Nat.lt_of_le_of_lt hb' (Nat.lt_trans (Nat.lt_succ_self _) hL6)) (Nat.lt_irrefl _)
            · rw [q] at hb'; exact absurd hb' (Nat.not_succ_le_self _)
            · rw [q, hcl'] at hb'; exact absurd hb' (by lia)
          · show IntsAre ys'.toList (((List.range (i + 1)).map fun i => ((List.range (ds2 i).length).filter (p i)).map (f i)).flatten)
            rw [List.range_succ, List.map_append, List.flatten_append]
            simpa using rl'
      exact start_deep inner (W2.self 0 _ _ _ st2' inner)
    · have hin : i = ds1.length := by lia
      subst hin
      refine W.done s2 _ _ (hnn ▸ st2) fun h' tk hkeep => ?_
      have hkeep' : ∀ b o, b ≠ I → s2.heap.get? b = some o → h'.get? b = some o := fun b o q e => hkeep b o (by simpa using q) e
      refine post { s2 with heap := h', toks := tk } ⟨fun b o e => hkeep' b o (fun q => by rw [q, fresh I (Nat.le_refl _)] at e; cases e) (kp2.keep b o e), kp2.os, kp2.gens, kp2.bare⟩ ⟨m, hcl' ▸ n2.at' fun o e => hkeep' _ o (by rw [hcl']; exact Nat.ne_of_gt (by lia)) e⟩ ⟨ys, acc2.at fun o e => hkeep' _ o (Nat.ne_of_gt (Nat.lt_succ_self _)) e, rl⟩
  have fin := codeAny_compStart_list loop (W.self 0 _ _ _ hst loop)
  rw [← hce] at fin
  exact fin
end
end Mine
end
noncomputable section
open PySem PySem.W PyProof.Rows
open PySem.Sem (wp)
set_option Elab.async false
set_option autoImplicit false
set_option linter.unusedVariables false
set_option linter.unusedSimpArgs false
set_option maxRecDepth 4000
namespace Mine
section
variable {sb : Shared} {G : Addr → Prop} {env : Env} {X : Addr → Prop} {sa s : Shared} {vars : List (Str × D)}
variable {prog : Program} {w : World} {A : Around}
/-- The same for two clauses. -/
theorem st_assign_comp2 {E : Value → Shared → Prop} {y : Str} {py spos : Pos} {Q : Flow → Shared → Prop} {elt iter1 iter2 : Expr} {x1 x2 : Str} {p1 p2 pos : Pos} {ifs : List Expr} {scope : Scope} {d1 : D} {ds1 : List D}
    (S : Sta sb G env X sa vars s) (K : ScOk scope env x1) (hx1 : scope.names.lookup x1 = some .local) (K2 : ScOk scope env x2) (hx2 : scope.names.lookup x2 = some .local) (h12 : x1 ≠ x2)
    (d2 : Nat → D) (ds2 : Nat → List D) (p : Nat → Nat → Bool) (f : Nat → Nat → Int)
    (h1 : Ev prog w A env (PP G env X s.heap) s.heap iter1 d1) (src : ∀ (P : Addr → Prop) (s : Shared) (v : Value), Rd P s.heap d1 v → Src prog w A P s v ds1)
    (hn : ∀ i, i < ds1.length → ((((List.range i).map fun i => ((List.range (ds2 i).length).filter (p i)).map (f i)).flatten).length + (ds2 i).length ≤ 1000))
    (body1 : ∀ (C : Addr) (h' : Heap) (i : Nat) (di : D) (v : Value), Sub s.heap h' → Looks (CE scope env C) h' x1 v → ds1[i]? = some di → Rd All h' di v → Ev prog w A (CE scope env C) (fun _ => False) h' iter2 (d2 i))
    (src2 : ∀ (i : Nat) (P : Addr → Prop) (s : Shared) (v : Value), Rd P s.heap (d2 i) v → Src prog w A P s v (ds2 i))
    (hflat : ∀ i, ∀ d ∈ ds2 i, d.flat = true)
    (body2 : ∀ (C : Addr) (h' : Heap) (i j : Nat) (di dj : D) (v1 v2 : Value), Sub s.heap h' → Looks (CE scope env C) h' x1 v1 → Looks (CE scope env C) h' x2 v2 → ds1[i]? = some di → Rd All h' di v1 → (ds2 i)[j]? = some dj → Rd All h' dj v2 →
      TrL prog w A (CE scope env C) h' ifs (p i j) ∧ (p i j = true → Ev prog w A (CE scope env C) All h' elt (.int (f i j))))
    (hQ : ∀ s', Kx (FrA env) s s' → Sta sb G env X sa ((y, .list ((((List.range ds1.length).map fun i => ((List.range (ds2 i).length).filter (p i)).map (f i)).flatten).map D.int)) :: vars) s' → Q .next s')
    (hk : env.kindOf y = some .local ∨ env.kindOf y = some .cell := by first | exact Or.inl (by with_unfolding_all rfl) | exact Or.inr (by with_unfolding_all rfl)) (hd : (y == ("__debug__" : Str)) = false := by decide)
    (hsw : swapsWith (.ListComp elt [⟨.Name x1 p1, iter1, [], 0⟩, ⟨.Name x2 p2, iter2, ifs, 0⟩] scope pos) (some (.Name y py)) spos.line env = pure true := by with_unfolding_all rfl)
    (hfs : ∀ y, foldedSetIterable iter1 env y = pure y := by intro _; rfl) (hfs2 : ∀ (e : Env) y, foldedSetIterable iter2 e y = pure y := by intro _ _; rfl) :
    wpAny (model prog w) A (exec (.Assign [.Name y py] (.ListComp elt [⟨.Name x1 p1, iter1, [], 0⟩, ⟨.Name x2 p2, iter2, ifs, 0⟩] scope pos) spos) env) Q E s := by
  rw [exec_Assign_Name_used _ _ _ _ hsw]
  refine wpAny_bind (wpAny_standAt (wpAny_bind ?_))
  show wpAny _ A (do let _ ← comprehension (.ListComp elt [⟨.Name x1 p1, iter1, [], 0⟩, ⟨.Name x2 p2, iter2, ifs, 0⟩] scope pos) scope env _ (newList []) false (eval iter1 env) (some (assign (.Name y py) env))) _ _ s
  refine wpAny_bind (wpAny_mono (comp2_go (use := some (assign (.Name y py) env)) (Q := fun _ s' => Q .next s') (.refl _) K hx1 K2 hx2 h12 d2 ds2 p f h1 src hn body1 src2 hflat body2 (fun s' L C k hm hC r => ?_) hfs hfs2) (fun _ s' hq => wpAny_pure (wpAny_pure hq)) fun _ _ e => e)
  have hCX : ¬ XX env X C := S.notX hC
  show wpAny _ A (assign (.Name y py) env (.ref L)) _ _ s'
  obtain ⟨m, hm⟩ := hm
  have hsa : sa.heap.get? C = none := S.kx.live C hC
  generalize hl : ((((List.range ds1.length).map fun i => ((List.range (ds2 i).length).filter (p i)).map (f i)).flatten).map D.int) = out at *
  have rv : Rd (fun b => ¬ XX env X b ∧ G b ∧ b ≠ C) s'.heap (.list out) (.ref L) :=
    Rd.mono (fun b e => ⟨(S.good e.1).1, (S.good e.1).2, e.2⟩) r
  refine wpAny_assign_Name ((S.avoid k hC (Ns.some hm)).store (d := .list out) rv hk hd fun s2 k2 S2 => ?_)
  refine ⟨m, hm.at' fun o e => k2.keep C o (fun z => hCX (.inl z)) e, fun h' hsb => ?_⟩
  refine hQ _ ⟨fun b o n e => (hsb.2 b (fun q => by rw [q, hC] at e; cases e)).trans (k2.keep b o n (k.keep b o e)), fun b e => ?_, k2.os.trans k.os, fun g z e => k2.gens g z (k.gens g z e), fun e => k2.bare (k.bare e)⟩ (S2.drop (Kw.same (tk := s2.toks) hsb) hCX hsa (S.old hC) (S.fresh C hC))
  by_cases q : b = C
  · rw [q]; exact hC
  · refine none_of_kp k (k2.live b ?_)
    rw [← hsb.2 b q]; exact e
/-- `x.append(e)`, e being of the second tier. -/
theorem stN_append {E : Value → Shared → Prop} {x : Str} {p1 apos pos spos : Pos} {e : Expr} {d : D} {ds : List D} {B : Addr} {Q : Flow → Shared → Prop} (S : Sta sb G env X sa vars s) (hx : vars.lookup x = some (.addr B)) (hB : X B) (hBF : ¬ FrA env B) (m : ML s.heap B ds)
    (he : EvN prog w A env All s.heap e d) (hf : d.flat = true) (hn : ds.length ≤ 1000)
    (hQ : ∀ s', Kx (· = B) s s' → ML s'.heap B (ds ++ [d]) → Sta sb G env X sa vars s' → Q .next s')
    (hbase : attributeBase (.Name x p1) "append" env (eval (.Name x p1) env) = eval (.Name x p1) env := by with_unfolding_all rfl)
    (hfew : ((backTo pos (starEach [e] env)).all (fun x => !x.1) && (backToKw pos (keywordEach [] env)).all (fun x => x.1.isSome)
      && decide (([e] : List Expr).length + ([] : List Keyword).length + (if ([] : List Keyword).isEmpty then 0 else 1) < 30)) = true := by first | exact few_one rfl | with_unfolding_all rfl)
    (hline : (apos.endLine == pos.line) = true := by with_unfolding_all rfl)
    (htrees : backTo pos (starEach [e] env) = [(false, eval e env)] := by first | exact backTo_one rfl | with_unfolding_all rfl)
    (hint : interactive env = false := by with_unfolding_all rfl)
    (hsw2 : swapsWith (.Call (.Attribute (.Name x p1) "append" apos) [e] [] pos) none spos.line env = pure false := by with_unfolding_all rfl) :
    wpN (model prog w) A (exec (.Expr (.Call (.Attribute (.Name x p1) "append" apos) [e] [] pos) spos) env) Q E s := by
  obtain ⟨v, l, r⟩ := S.has hx
  rw [rd_addr.mp r] at l
  obtain ⟨f, vs, pl, q⟩ := id m
  have hl := q.length
  have main : wpN (model prog w) A (eval (.Call (.Attribute (.Name x p1) "append" apos) [e] [] pos) env) (fun v s' => match v with | .ref _ => False | _ => Q .next s') E s := by
    rw [arm_eval_Call, hbase]
    refine wpN_bind (wpN_of (looks_eval l (.refl _) ?_))
    refine wpN_bind (wpN_standAt ?_)
    obtain ⟨ob, n, hob, hc, hdn, hd⟩ := id pl
    have fin : wpN (model prog w) A (callWith pos (.builtin "list.append") [.ref B] (backTo pos (starEach [e] env)) []) (fun v s' => match v with | .ref _ => False | _ => Q .next s') E s := by
      rw [htrees]
      have hea : wpN (model prog w) A (evalArgs (.builtin "list.append") true [(false, eval e env)] []) (fun a s₁ => wpAny (model prog w) A (call (.builtin "list.append") ([.ref B] ++ a.pos) a.kw) (fun v s' => match v with | .ref _ => False | _ => Q .next s') E s₁) E s := by
        unfold evalArgs
        show wpN _ A (PySem.spliced [(false, eval e env)] >>= _) _ E s
        refine wpN_bind ?_
        show wpN _ A (do
          let v ← eval e env
          let here ← (pure [v] : Sem (List Value))
          return here ++ (← holding here (PySem.spliced []))) _ E s
        refine wpN_bind (he s (.refl _) _ _ fun y s1 k1 ry => wpN_bind (wpN_pure (wpN_bind (wpN_holding (wpN_pure (wpN_pure ?_))))))
        refine wpN_holding ?_
        refine wpN_bind (wpN_pure (wpN_bind (wpN_pure (wpN_pure ?_))))
        refine list_append_plainL (its := vs.toArray) (hsz := by rw [sizeLine_is, List.size_toArray, hl]; lia) (by
          obtain ⟨o, n, ho, rr⟩ := pl
          exact ⟨o, n, k1.keep _ _ ho, rr⟩) fun h2 pl2 hs2 => ?_
        obtain ⟨o2, n2, ho2, _⟩ := id pl2
        have kx : Kx (· = B) s { s1 with heap := h2 } := k1.kx.trans (Kx.same (tk := s1.toks) hs2 ho2 rfl)
        refine hQ _ kx ⟨fun d' hd' => ?_, vs ++ [y], by simpa using pl2, (q.flats f).append (rdL_cons'.mpr ⟨ry.flat hf, rdL_nil.mpr rfl⟩)⟩ (S.on kx fun b e => by
          have e' : b = B := e
          rw [e']; exact ⟨hB, hBF⟩)
        rcases List.mem_append.mp hd' with h | h
        · exact f d' h
        · rw [List.mem_singleton.mp h]; exact hf
      unfold callWith
      refine wpN_bind (wpN_holding (wpN_mono hea (fun a s₁ h₁ => wpN_bind (wpN_standAt ?_)) fun _ _ x => x))
      have hplain : ([(false, eval e env)] : List (Bool × Sem Value)).any (fun x => x.1) = false := rfl
      simp only [hplain, List.any_nil, Bool.or_false]
      refine wpN_of (wpAny_bind (wpAny_pure ?_))
      exact wpAny_bind (wpAny_mono h₁ (fun r s₂ hr => wpAny_bind (wpAny_holding (wpAny_point (wpAny_pure hr)))) fun _ _ x => x)
    have hform : methodCallForm (([e] : List Expr).length + ([] : List Keyword).length) (backTo pos (starEach [e] env)) (backToKw pos (keywordEach [] env)) = true := hfew
    have hpos : methodCallPos true (.Name x p1) env apos pos = pure pos := by unfold methodCallPos; simp [hline]
    unfold methodCall
    rw [hform]
    refine wpN_bind (wpN_holding (wpN_of (Calls.getMethod_list_append hob hc hdn ?_)))
    exact wpN_bind (wpN_of_eq hpos fin)
  rw [exec_Expr env _ spos hint hsw2]
  refine wpN_bind (wpN_standAt (wpN_bind (wpN_mono main (fun v s' h' => ?_) fun _ _ x => x)))
  have hv : ∀ a, v ≠ .ref a := fun a hva => by subst hva; exact h'
  rw [dropValue_plain hv]
  refine wpN_pure ?_
  cases v <;> first | exact h' | exact (hv _ rfl).elim
/-- The frame after an exception has passed through what it called. -/
theorem Sta.kf {s' : Shared} (S : Sta sb G env X sa vars s) (k : Kf [env] (fun _ => False) s s') (hfr : env.frame = some env.locals) : Sta sb G env X sa vars s' := by
  have hF : ∀ b, FrS [env] b → b = env.locals := fun b hb => by
    unfold FrS at hb
    rw [List.filterMap_cons, hfr] at hb
    simpa using hb
  have kx : Kx (XX env X) s s' := ⟨fun b o n e => k.keep b o (fun q => n (.inl (.inl (hF b q)))) id e, k.live, k.os, k.gens, k.bare⟩
  obtain ⟨ρ, F, hv⟩ := S.fs
  have keep : ∀ b o, b ≠ env.locals → s.heap.get? b = some o → s'.heap.get? b = some o := fun b o n e => k.keep b o (fun q => n (hF b q)) id e
  refine ⟨S.kx.trans kx, ⟨ρ, ⟨F.kind, fun b o e => keep b o (fun q => by rw [q, F.newL] at e; cases e) (F.keep b o e), ?_, fun x c hk hc => ?_, F.has, F.apart, F.newL, F.newC⟩, fun x d hx => ?_⟩, fun b hb => Kx.dom kx (S.live b hb), S.new, fun b e => S.fresh b (k.live b e)⟩
  · obtain ⟨m, n, e⟩ := F.ns
    exact ⟨m, Ns.kf n k, e⟩
  · obtain ⟨o, ho, hd⟩ := F.cl x c hk hc
    exact ⟨o, keep c o (F.newC x c (mem_of_lookup hc)).2 ho, hd⟩
  · obtain ⟨h1, h2, v, h3, h4⟩ := hv x d hx
    exact ⟨h1, h2, v, h3, h4.on (fun _ e => e) fun a o e q => keep a o (fun z => e.1 (.inl (.inl z))) q⟩
theorem Sta.funFrames {h0 : Heap} (S : Sta sb G env X sa vars s) (hfr : env.frame = some env.locals) (h0k : Sub h0 sb.heap) : s.heap.FunFrames h0 [env] := by
  obtain ⟨ρ, F, hv⟩ := S.fs
  obtain ⟨m, n, _⟩ := F.ns
  obtain ⟨o, es, ep, ho, hd, _⟩ := n
  refine ⟨by rw [F.kind]; decide, ⟨env.locals, o, hfr, ?_, ho, fun vs z => by rw [hd] at z; cases z⟩, trivial⟩
  cases q : h0.get? env.locals with
  | none => rfl
  | some o => have z := h0k _ _ q; rw [F.newL] at z; cases z
end
section
variable {prog : Program} {w : World} {A : Around} {env : Env} {P : Addr → Prop} {h : Heap}
theorem trN_or2 {x y : Expr} {pos : Pos} (h1 : TrN prog w A env h x false) (h2 : TrN prog w A env h y false) : TrN prog w A env h (.BoolOp .Or [x, y] pos) false := fun s hs Q E hQ => by
  rw [arm_isTrue_BoolOp]
  show wpN _ A (do match BoolOp.Or, ← isTrue x env (eval x env) with | .And, false => pure false | .Or, true => pure true | _, _ => allTrue .Or [y] env) Q E s
  refine wpN_bind (h1 s hs _ _ fun s1 k1 => ?_)
  show wpN _ A (do match BoolOp.Or, ← isTrue y env (eval y env) with | .And, false => pure false | .Or, true => pure true | _, _ => allTrue .Or [] env) Q E s1
  refine wpN_bind (h2 s1 (hs.trans k1.keep) _ _ fun s2 k2 => ?_)
  exact wpN_pure (hQ s2 (k1.trans k2))
theorem trN_or3 {x y z : Expr} {pos : Pos} (h1 : TrN prog w A env h x false) (h2 : TrN prog w A env h y false) (h3 : TrN prog w A env h z false) : TrN prog w A env h (.BoolOp .Or [x, y, z] pos) false := fun s hs Q E hQ => by
  rw [arm_isTrue_BoolOp]
  show wpN _ A (do match BoolOp.Or, ← isTrue x env (eval x env) with | .And, false => pure false | .Or, true => pure true | _, _ => allTrue .Or [y, z] env) Q E s
  refine wpN_bind (h1 s hs _ _ fun s1 k1 => ?_)
  show wpN _ A (do match BoolOp.Or, ← isTrue y env (eval y env) with | .And, false => pure false | .Or, true => pure true | _, _ => allTrue .Or [z] env) Q E s1
  refine wpN_bind (h2 s1 (hs.trans k1.keep) _ _ fun s2 k2 => ?_)
  show wpN _ A (do match BoolOp.Or, ← isTrue z env (eval z env) with | .And, false => pure false | .Or, true => pure true | _, _ => allTrue .Or [] env) Q E s2
  refine wpN_bind (h3 s2 (hs.trans (k1.keep.trans k2.keep)) _ _ fun s3 k3 => ?_)
  exact wpN_pure (hQ s3 (k1.trans (k2.trans k3)))
theorem ev_and2 {x y : Expr} {pos : Pos} (h1 : Ev prog w A env P h x (.bool true)) (h2 : Ev prog w A env P h y (.bool true)) : Ev prog w A env P h (.BoolOp .And [x, y] pos) (.bool true) := fun s hs Q E hQ => by
  refine wpAny_And2 (h1 s hs _ _ fun v s1 k1 r1 => ?_)
  rw [rd_bool.mp r1]
  refine wpAny_truthy_bool ?_
  rw [if_pos rfl]
  exact h2 s1 (hs.trans k1.keep) _ _ fun v2 s2 k2 r2 => hQ v2 s2 (k1.trans k2) (r2.mono fun _ e => e.kp k1)
/-- `f(..) op e` as a test, where exceptions have passed through f. -/
theorem wpN_isTrue_cmp {l r : Expr} {op : CmpOp} {pos : Pos} {s : Shared} {Q : Bool → Shared → Prop} {E : Value → Shared → Prop}
    (go : wpN (model prog w) A (eval l env) (fun a s₁ => wpN (model prog w) A (eval r env) (fun b s₂ => wpAny (model prog w) A (compareOp op a b) (fun c s₃ => wpAny (model prog w) A (truthy c) Q E s₃) E s₂) E s₁) E s)
    (hm : behindInMarks op r = false := by with_unfolding_all rfl) : wpN (model prog w) A (isTrue (.Compare l [op] [r] pos) env (eval (.Compare l [op] [r] pos) env)) Q E s := fun Γ p hΓ hn => by
  simp only [isTrue_Compare1, markedBehindIn_of_false hm, Sem.wp_bind', Sem.wp_holding, Sem.wp_cmd_standAt, Sem.wp_operate]
  exact Sem.wp_mono _ Γ _ (fun a p₁ s₁ h₁ => Sem.wp_mono _ Γ _ (fun b _ s₂ h₂ => Sem.wp_mono _ Γ _ (fun c p₃ s₃ h₃ => h₃ Γ p₃ hΓ)
    (fun _ _ _ h' => h') _ _ (h₂ Γ _ hΓ)) (fun _ _ _ h' => h') _ _ (h₁ Γ p₁ hΓ hn)) (fun _ _ _ h' => h') _ _ (go Γ p hΓ hn)
end
end Mine
end
noncomputable section
open PySem PySem.W PyProof.Rows
open PySem.Sem (wp)
set_option Elab.async false
set_option autoImplicit false
set_option linter.unusedVariables false
set_option linter.unusedSimpArgs false
set_option maxRecDepth 4000
namespace Mine
/-! What the law builds out of its script. -/
def menuL : List Nat := [1, 2, 3, 4, 5, 0, 127]
def endsL : List (List Nat) := [[], [0], [127, 2], [1, 0]]
def rowOf (u : Nat) : List Nat := [1 + u % 9, menuL.getD (u / 9 % 7) 0, menuL.getD (u / 63 % 7) 0] ++ endsL.getD (u / 441 % 4) []
def firstOf (th T : Nat) : List Nat := (List.range T).map fun p => (th / 5 + (1 + 2 * (th / 1280 % 128)) * p) % 256
theorem ends_len (i : Nat) : (endsL.getD i []).length ≤ 2 := by
  match i with
  | 0 => decide
  | 1 => decide
  | 2 => decide
  | 3 => decide
  | n + 4 => simp [endsL]
theorem row_len (u : Nat) : (rowOf u).length ≤ 5 := by
  have := ends_len (u / 441 % 4)
  simp only [rowOf, List.length_append, List.length_cons, List.length_nil]
  lia
theorem row_stop (u : Nat) : 1 ≤ stopOf (rowOf u) := by
  have h : isEnd (1 + u % 9) = false := by
    have : u % 9 < 9 := Nat.mod_lt _ (by lia)
    generalize u % 9 = k at this
    have : ∀ k : Fin 9, isEnd (1 + k.val) = false := by decide
    exact this ⟨k, by lia⟩
  unfold stopOf rowOf
  rw [List.cons_append, List.findIdx_cons, h]
  simp
abbrev lEnv (L a : Addr) (cd : Value) : Env := envOfC (theDef 9).name (theDef 9).scope L a cd
theorem ok9 : FnOk (theDef 9) ["script"] :=
  ⟨fun pm cd doc vs hl => by
    obtain ⟨a, rfl⟩ := one_of hl
    with_unfolding_all rfl, by decide, by with_unfolding_all decide, by with_unfolding_all rfl, by with_unfolding_all rfl, by with_unfolding_all decide⟩
def drawnOf (ns : List Int) : List Nat := (ns.take 60).map fun x => (x.fmod 1000000).toNat
section
variable {prog : Program} {w : World} {A : Around} {env : Env} {P : Addr → Prop} {h : Heap}
theorem noPy (a : Int) (b : Nat) (hb : b < 2 ^ 30) : Builtin.divisionGoesByPylong a b = false := by
  unfold Builtin.divisionGoesByPylong
  have key : ¬ ((if ((b : Int) == 0) = true then 0 else (b : Int).natAbs.log2 / 30 + 1 : Nat) > 300) := by
    split
    · lia
    · have h1 : (b : Int).natAbs = b := by lia
      rw [h1]
      have : b.log2 < 30 := by
        rcases Nat.eq_zero_or_pos b with z | z
        · subst z; decide
        · exact (Nat.log2_lt (by lia)).mpr hb
      lia
  show (decide ((if ((b : Int) == 0) = true then 0 else (b : Int).natAbs.log2 / 30 + 1 : Nat) > 300) && _) = false
  rw [decide_eq_false key, Bool.false_and]
theorem ev_divN {l r : Expr} {pos : Pos} {a b : Nat} (h1 : Ev prog w A env P h l (.int (a : Int))) (h2 : Ev prog w A env P h r (.int (b : Int))) (hb : b ≠ 0) (hb2 : b < 2 ^ 30) : Ev prog w A env P h (.BinOp l .FloorDiv r pos) (.int ((a / b : Nat) : Int)) :=
  ev_cast (ev_bin h1 h2 (op_div _ _ (by lia) (noPy _ _ hb2))) (by
    congr 1
    rw [Int.fdiv_eq_ediv_of_nonneg _ (by lia)]
    exact (Int.natCast_ediv a b).symm)
theorem ev_modN {l r : Expr} {pos : Pos} {a b : Nat} (h1 : Ev prog w A env P h l (.int (a : Int))) (h2 : Ev prog w A env P h r (.int (b : Int))) (hb : b ≠ 0) : Ev prog w A env P h (.BinOp l .Mod r pos) (.int ((a % b : Nat) : Int)) :=
  ev_cast (ev_bin h1 h2 (op_mod _ _ (by lia))) (by
    congr 1
    rw [Int.fmod_eq_emod_of_nonneg _ (by lia)]
    exact (Int.natCast_emod a b).symm)
theorem ev_addN {l r : Expr} {pos : Pos} {a b : Nat} (h1 : Ev prog w A env P h l (.int (a : Int))) (h2 : Ev prog w A env P h r (.int (b : Int))) : Ev prog w A env P h (.BinOp l .Add r pos) (.int ((a + b : Nat) : Int)) :=
  ev_cast (ev_bin h1 h2 (op_add _ _)) (by congr 1)
theorem bits_small {a : Nat} (h : a < 2 ^ 40) : Builtin.Int.intBits (a : Int) ≤ 64 := by
  unfold Builtin.Int.intBits
  have h1 : (a : Int).natAbs = a := by lia
  rw [h1]
  split
  · lia
  · have : a.log2 < 40 := by
      rcases Nat.eq_zero_or_pos a with z | z
      · subst z; decide
      · exact (Nat.log2_lt (by lia)).mpr h
    lia
theorem ev_mulN {l r : Expr} {pos : Pos} {a b : Nat} (h1 : Ev prog w A env P h l (.int (a : Int))) (h2 : Ev prog w A env P h r (.int (b : Int))) (ha : a < 2 ^ 40) : Ev prog w A env P h (.BinOp l .Mult r pos) (.int ((a * b : Nat) : Int)) :=
  ev_cast (ev_bin h1 h2 (op_mul _ _ (IntMulOk.of_left (bits_small ha)))) (by congr 1)
end
end Mine
end
noncomputable section
open PySem PySem.W PyProof.Rows
open PySem.Sem (wp)
set_option Elab.async false
set_option autoImplicit false
set_option linter.unusedVariables false
set_option linter.unusedSimpArgs false
set_option maxRecDepth 4000
namespace Mine
def upOf (ns : List Int) : Nat := 158 + (pick (drawnOf ns) (some 0) none (some 3)).sum
def loOf (ns : List Int) : Nat := 56 + (pick (drawnOf ns) (some 1) none (some 3)).sum
def thOf (ns : List Int) : Nat := 4 + (pick (drawnOf ns) (some 2) none (some 3)).sum
theorem menu_at (k : Nat) (h : k < 7) : (iL menuL)[k]? = some (.int ((menuL.getD k 0 : Nat) : Int)) := by
  have : k < menuL.length := h
  rw [iL_get, List.getElem?_eq_getElem this]; simp [this]
theorem ends_at (k : Nat) (h : k < 4) : (endsL.map fun r => D.list (iL r))[k]? = some (.list (iL (endsL.getD k []))) := by
  have : k < endsL.length := h
  rw [List.getElem?_map, List.getElem?_eq_getElem this]; simp [this]
section
variable {prog : Program} {w : World} {A : Around} {mg mb : Str → Option Value} {sb : Shared} {G : Addr → Prop} {sa : Shared} {L a : Addr} {cd : Value}
set_option maxHeartbeats 8000000 in
theorem law1 {n : Nat} {ns : List Int} {s0 : Shared} {Q : Flow → Shared → Prop} {E : Value → Shared → Prop} (oA : OkA n A) (T : Gd mg mb sb.heap)
    (S0 : Sta sb G (lEnv L a cd) (fun _ => False) sa [("script", .list (ns.map D.int))] s0) (hns : ns.length ≤ 100)
    (next : ∀ s', Sta sb G (lEnv L a cd) (fun _ => False) sa [("ends", .list (endsL.map fun r => .list (iL r))), ("menu", .list (iL menuL)), ("third", .int (thOf ns : Nat)), ("lower", .int (loOf ns : Nat)), ("upper", .int (upOf ns : Nat))] s' → wpN (model prog w) A (execs ((theDef 9).body.drop 6) (lEnv L a cd)) Q E s') :
    wpN (model prog w) A (execs (theDef 9).body (lEnv L a cd)) Q E s0 := by
  have hs0 := S0.has (x := "script") (d := .list (ns.map D.int)) (by with_unfolding_all rfl)
  refine wpN_execs_cons (wpN_of (st_assign_comp (ds := (ns.take 60).map D.int) (d := .list ((ns.take 60).map D.int)) S0 scOk_of (fun _ => true) (fun k => .int (((drawnOf ns).getD k 0 : Nat) : Int))
    (ev_cast (ev_slice_list (ev_has hs0) .none (.some (ev_int 60 _ _)) .none (by decide) (by simp; lia)) (by rw [pick_upto _ _ (by lia), ← List.map_take]; rfl)) (fun P s v r => src_list oA.handled r) (by simp; lia) (fun K C h' i di v hk lk hdi rv => ⟨trL_nil, fun _ => ?body⟩) fun s1 _ S1 => ?_))
  case body =>
    rw [List.getElem?_map, Option.map_eq_some_iff] at hdi
    obtain ⟨x, hx, rfl⟩ := hdi
    refine ev_cast (ev_bin ((ev_name lk rv).flat rfl) (ev_int 1000000 _ _) (op_mod _ _ (by lia))) ?_
    congr 1
    have : (drawnOf ns).getD i 0 = (x.fmod 1000000).toNat := by
      rw [List.getD_eq_getElem?_getD, drawnOf, List.getElem?_map, hx]; rfl
    rw [this]
    have : 0 ≤ x.fmod 1000000 := Int.fmod_nonneg_of_pos _ (by lia)
    lia
  have hdr : (List.map (fun k => D.int (((drawnOf ns).getD k 0 : Nat) : Int)) (List.filter (fun _ => true) (List.range ((ns.take 60).map D.int).length))) = iL (drawnOf ns) := by
    rw [filter_all]
    refine List.ext_getElem? fun i => ?_
    rw [iL_get, List.getElem?_map]
    have hl : (drawnOf ns).length = ((ns.take 60).map D.int).length := by simp [drawnOf]
    rcases Nat.lt_or_ge i (drawnOf ns).length with z | z
    · rw [List.getElem?_range (by lia)]
      rw [List.getElem?_eq_getElem z]; simp [z]
    · rw [List.getElem?_eq_none (by simp; simp at hl; lia), List.getElem?_eq_none z]; rfl
  rw [hdr] at S1
  have hdl : (drawnOf ns).length ≤ 60 := by simp [drawnOf]; lia
  have T1 := T.sub S1.keep
  refine wpN_execs_cons (wpN_of (st_assign (d := .int (upOf ns : Nat)) S1 (ev_addN (ev_int ((158 : Nat) : Int) _ _) (ev_sum_nats (T1.blt (x := "sum") boot_sum).lk oA.handled (ev_cast (ev_slice_list (ev_has (S1.has (x := "drawn") (d := .list (iL (drawnOf ns))) (by with_unfolding_all rfl))) (.some (ev_int 0 _ _)) .none (.some (ev_int 3 _ _)) (by decide) (by rw [iL_len]; lia)) (congrArg D.list (iL_pick ..))))) fun s2 _ S2 => ?_))
  have T2 := T.sub S2.keep
  refine wpN_execs_cons (wpN_of (st_assign (d := .int (loOf ns : Nat)) S2 (ev_addN (ev_int ((56 : Nat) : Int) _ _) (ev_sum_nats (T2.blt (x := "sum") boot_sum).lk oA.handled (ev_cast (ev_slice_list (ev_has (S2.has (x := "drawn") (d := .list (iL (drawnOf ns))) (by with_unfolding_all rfl))) (.some (ev_int 1 _ _)) .none (.some (ev_int 3 _ _)) (by decide) (by rw [iL_len]; lia)) (congrArg D.list (iL_pick ..))))) fun s3 _ S3 => ?_))
  have T3 := T.sub S3.keep
  refine wpN_execs_cons (wpN_of (st_assign (d := .int (thOf ns : Nat)) S3 (ev_addN (ev_int ((4 : Nat) : Int) _ _) (ev_sum_nats (T3.blt (x := "sum") boot_sum).lk oA.handled (ev_cast (ev_slice_list (ev_has (S3.has (x := "drawn") (d := .list (iL (drawnOf ns))) (by with_unfolding_all rfl))) (.some (ev_int 2 _ _)) .none (.some (ev_int 3 _ _)) (by decide) (by rw [iL_len]; lia)) (congrArg D.list (iL_pick ..))))) fun s4 _ S4 => ?_))
  have hk5 : (lEnv L a cd).kindOf "menu" = some .local := by with_unfolding_all rfl
  have hk6 : (lEnv L a cd).kindOf "ends" = some .local := by with_unfolding_all rfl
  refine @wpN_execs_cons _ _ _ _ _ _ _ _ (@wpN_of _ _ _ _ _ _ _ (@st_assign _ _ _ _ _ _ _ _ _ _ _ _ _ _ _ (.list (iL menuL)) _ S4 (@ev_list prog w A _ _ _ _ _ _ (evl_cons (ev_int 1 _ _) (evl_cons (ev_int 2 _ _) (evl_cons (ev_int 3 _ _) (evl_cons (ev_int 4 _ _) (evl_cons (ev_int 5 _ _) (evl_cons (ev_int 0 _ _) (evl_one (ev_int 127 _ _)))))))) (by decide)) (fun s5 _ S5 => ?_) (.inl hk5) (by decide) (by with_unfolding_all rfl)))
  refine @wpN_execs_cons _ _ _ _ _ _ _ _ (@wpN_of _ _ _ _ _ _ _ (@st_assign _ _ _ _ _ _ _ _ _ _ _ _ _ _ _ (.list (endsL.map fun r => .list (iL r))) _ S5 (@ev_list prog w A _ _ _ _ _ _ (evl_cons (@ev_list prog w A _ _ _ _ _ _ .nil (by decide)) (evl_cons (@ev_list prog w A _ _ _ _ _ _ (evl_one (ev_int 0 _ _)) (by decide)) (evl_cons (@ev_list prog w A _ _ _ _ _ _ (evl_cons (ev_int 127 _ _) (evl_one (ev_int 2 _ _))) (by decide)) (evl_one (@ev_list prog w A _ _ _ _ _ _ (evl_cons (ev_int 1 _ _) (evl_one (ev_int 0 _ _))) (by decide)))))) (by decide)) (fun s6 _ S6 => ?_) (.inl hk6) (by decide) (by with_unfolding_all rfl)))
  refine next s6 (S6.weak ?_)
  intro p hp
  simp only [List.mem_cons, List.not_mem_nil, or_false] at hp
  rcases hp with rfl | rfl | rfl | rfl | rfl <;> with_unfolding_all rfl
end
end Mine
end
noncomputable section
open PySem PySem.W PyProof.Rows
set_option Elab.async false
set_option autoImplicit false
set_option linter.unusedVariables false
set_option linter.unusedSimpArgs false
namespace Mine
/-! The plain law, first part: orbits. -/
def it (f : Nat → Nat) : Nat → Nat → Nat
  | 0, p => p
  | i + 1, p => f (it f i p)
theorem it_add (f : Nat → Nat) (i : Nat) : ∀ j p, it f (i + j) p = it f i (it f j p) := by
  induction i with
  | zero => intro j p; simp [it]
  | succ i ih => intro j p; rw [show i + 1 + j = (i + j) + 1 by lia, it, ih]; rfl
theorem it_comm (f : Nat → Nat) (i : Nat) (p : Nat) : it f i (f p) = f (it f i p) := by
  have h1 := it_add f i 1 p
  have h2 := it_add f 1 i p
  rw [show 1 + i = i + 1 by lia] at h2
  exact h1.symm.trans h2
/-- The greatest of its orbit. -/
def top (f : Nat → Nat) (p : Nat) : Prop := ∀ i, it f i p ≤ p
noncomputable def topb (f : Nat → Nat) (p : Nat) : Bool := @decide (top f p) (Classical.propDecidable _)
theorem topb_iff {f : Nat → Nat} {p : Nat} : topb f p = true ↔ top f p := @decide_eq_true_iff (top f p) (Classical.propDecidable _)
/-- How many orbits. -/
noncomputable def orb (f : Nat → Nat) (n : Nat) : Nat := (List.range n).countP (topb f)
theorem orb_congr {f g : Nat → Nat} {n : Nat} (h : ∀ p, p < n → (top f p ↔ top g p)) : orb f n = orb g n := by
  unfold orb
  refine List.countP_congr fun p hp => ?_
  rw [topb_iff, topb_iff]
  exact h p (List.mem_range.mp hp)
theorem orb_split {f g : Nat → Nat} {k m : Nat} (h : ∀ q, q < m → (top f (k + q) ↔ top g q)) : orb f (k + m) = orb f k + orb g m := by
  unfold orb
  rw [List.range_add, List.countP_append, List.countP_map]
  congr 1
  refine List.countP_congr fun q hq => ?_
  rw [Function.comp_apply, topb_iff, topb_iff]
  exact h q (List.mem_range.mp hq)
theorem orb_none {f : Nat → Nat} {k : Nat} (h : ∀ p, p < k → p < f p) : orb f k = 0 := by
  unfold orb
  rw [List.countP_eq_zero]
  intro p hp ht
  have h1 := h p (List.mem_range.mp hp)
  have h2 := topb_iff.mp ht 1
  simp only [it] at h2
  lia
theorem orb_all {f : Nat → Nat} {k : Nat} (h : ∀ p, p < k → f p = p) : orb f k = k := by
  unfold orb
  have : (List.range k).countP (topb f) = (List.range k).length := by
    rw [List.countP_eq_length]
    intro p hp
    refine topb_iff.mpr fun i => ?_
    have e := h p (List.mem_range.mp hp)
    have : ∀ i, it f i p = p := by
      intro i
      induction i with
      | zero => rfl
      | succ i ih => rw [it, ih, e]
    rw [this]; exact Nat.le_refl _
  simpa using this
/-- The first return. -/
theorem orb_return {f g : Nat → Nat} {k m : Nat} (h1 : ∀ p, p < k → k ≤ f p) (h2 : ∀ q, k + g q = if k ≤ f (k + q) then f (k + q) else f (f (k + q))) : orb f (k + m) = orb g m := by
  have a1 : ∀ q i, ∃ j, k + it g i q = it f j (k + q) := by
    intro q i
    induction i with
    | zero => exact ⟨0, rfl⟩
    | succ i ih =>
      obtain ⟨j, hj⟩ := ih
      have := h2 (it g i q)
      rw [hj] at this
      split at this
      · exact ⟨j + 1, this⟩
      · exact ⟨j + 2, this⟩
  have a2 : ∀ q i, (k ≤ it f i (k + q) ∧ ∃ j, it f i (k + q) = k + it g j q) ∨ (it f i (k + q) < k ∧ ∃ j, f (it f i (k + q)) = k + it g j q) := by
    intro q i
    induction i with
    | zero => exact .inl ⟨Nat.le_add_right _ _, 0, rfl⟩
    | succ i ih =>
      rcases ih with ⟨hk, j, hj⟩ | ⟨hk, j, hj⟩
      · have := h2 (it g j q)
        rw [← hj] at this
        by_cases q1 : k ≤ f (it f i (k + q))
        · rw [if_pos q1] at this
          exact .inl ⟨q1, j + 1, this.symm⟩
        · rw [if_neg q1] at this
          exact .inr ⟨Nat.lt_of_not_le q1, j + 1, this.symm⟩
      · exact .inl ⟨h1 _ hk, j, hj⟩
  rw [orb_split (g := g)]
  · rw [orb_none fun p hp => Nat.lt_of_lt_of_le hp (h1 p hp), Nat.zero_add]
  · intro q _
    constructor
    · intro h i
      obtain ⟨j, hj⟩ := a1 q i
      have := h j
      lia
    · intro h i
      rcases a2 q i with ⟨_, j, hj⟩ | ⟨hk, _⟩
      · have := h j; lia
      · lia
/-- The first places stand still. -/
theorem orb_still {f g : Nat → Nat} {k m : Nat} (h1 : ∀ p, p < k → f p = p) (h2 : ∀ q, f (k + q) = k + g q) : orb f (k + m) = k + orb g m := by
  have a : ∀ q i, it f i (k + q) = k + it g i q := by
    intro q i
    induction i with
    | zero => rfl
    | succ i ih => rw [it, ih, h2]; rfl
  rw [orb_split (g := g), orb_all h1]
  intro q _
  constructor
  · intro h i; have := h i; rw [a] at this; lia
  · intro h i; have := h i; rw [a]; lia
/-! periods -/
theorem it_lt {f : Nat → Nat} {n : Nat} (hf : ∀ p, p < n → f p < n) {p : Nat} (hp : p < n) : ∀ i, it f i p < n
  | 0 => hp
  | i + 1 => hf _ (it_lt hf hp i)
theorem it_inj {f : Nat → Nat} (hi : ∀ p q, f p = f q → p = q) : ∀ i p q, it f i p = it f i q → p = q
  | 0, _, _, h => h
  | i + 1, p, q, h => it_inj hi i p q (hi _ _ h)
theorem period {f : Nat → Nat} {n : Nat} (hf : ∀ p, p < n → f p < n) (hi : ∀ p q, f p = f q → p = q) {p : Nat} (hp : p < n) : ∃ N, 1 ≤ N ∧ N ≤ n ∧ it f N p = p := by
  by_cases h : ((List.range (n + 1)).map fun i => it f i p).Nodup
  · exfalso
    have := h.length_le_of_subset (l₂ := List.range n) fun x hx => by
      obtain ⟨i, _, rfl⟩ := List.mem_map.mp hx
      exact List.mem_range.mpr (it_lt hf hp i)
    simp at this
    lia
  · unfold List.Nodup at h
    rw [List.pairwise_map] at h
    have h' : ∃ i j, i < j ∧ j ≤ n ∧ it f i p = it f j p := by
      refine Classical.byContradiction fun hn => h ?_
      refine (List.pairwise_lt_range (n := n + 1)).imp_of_mem fun {i j} hi hj hij e => hn ⟨i, j, hij, ?_, e⟩
      have := List.mem_range.mp hj; lia
    obtain ⟨i, j, hij, hj, e⟩ := h'
    refine ⟨j - i, by lia, by lia, ?_⟩
    have e2 := it_add f i (j - i) p
    rw [show i + (j - i) = j by lia, ← e] at e2
    exact (it_inj hi i _ _ e2).symm
theorem it_mul {f : Nat → Nat} {N p : Nat} (h : it f N p = p) : ∀ k, it f (N * k) p = p
  | 0 => rfl
  | k + 1 => by rw [Nat.mul_succ, it_add, h, it_mul h k]
theorem it_mod {f : Nat → Nat} {N p : Nat} (h : it f N p = p) (i : Nat) : it f i p = it f (i % N) p := by
  have e : i = i % N + N * (i / N) := (Nat.mod_add_div i N).symm
  conv => lhs; rw [e]
  rw [it_add, it_mul h]
/-- The least period. -/
theorem least_period {f : Nat → Nat} {n : Nat} (hf : ∀ p, p < n → f p < n) (hi : ∀ p q, f p = f q → p = q) {p : Nat} (hp : p < n) :
    ∃ N, 1 ≤ N ∧ N ≤ n ∧ it f N p = p ∧ ∀ i j, it f i p = it f j p → i % N = j % N := by
  obtain ⟨N0, h1, h2, h3⟩ := period hf hi hp
  have hex : ∃ N, N ≤ N0 ∧ 1 ≤ N ∧ it f N p = p ∧ ∀ M, 1 ≤ M → M < N → it f M p ≠ p := by
    clear h2
    induction N0 using Nat.strongRecOn with
    | ind N0 ih =>
      by_cases q : ∃ M, 1 ≤ M ∧ M < N0 ∧ it f M p = p
      · obtain ⟨M, a, b, c⟩ := q
        obtain ⟨N, d1, d2⟩ := ih M b a c
        exact ⟨N, by lia, d2⟩
      · exact ⟨N0, Nat.le_refl _, h1, h3, fun M a b c => q ⟨M, a, b, c⟩⟩
  obtain ⟨N, a0, a1, a2, a3⟩ := hex
  have key : ∀ i j, i < N → j < N → i ≤ j → it f i p = it f j p → i = j := by
    intro i j hi' hj hij e
    have e2 := it_add f i (j - i) p
    rw [show i + (j - i) = j by lia, ← e] at e2
    have e3 := it_inj hi i _ _ e2
    rcases Nat.eq_zero_or_pos (j - i) with z | z
    · lia
    · exact absurd e3.symm (a3 (j - i) z (by lia))
  refine ⟨N, a1, by lia, a2, fun i j e => ?_⟩
  rw [it_mod a2 i, it_mod a2 j] at e
  have l1 := Nat.mod_lt i (show N > 0 by lia)
  have l2 := Nat.mod_lt j (show N > 0 by lia)
  rcases Nat.le_total (i % N) (j % N) with q | q
  · exact key _ _ l1 l2 q e
  · exact (key _ _ l2 l1 q e.symm).symm
/-- What goes the other way round has the same orbits. -/
theorem it_back {f g : Nat → Nat} (hgf : ∀ p, g (f p) = p) : ∀ i p, it g i (it f i p) = p
  | 0, _ => rfl
  | i + 1, p => by
    rw [it, it, ← it_comm g i, hgf]
    exact it_back hgf i p
theorem top_back {f g : Nat → Nat} {n : Nat} (hf : ∀ p, p < n → f p < n) (hgf : ∀ p, g (f p) = p) {p : Nat} (hp : p < n) (h : top f p) : top g p := by
  have hi : ∀ p q, f p = f q → p = q := fun p q e => by rw [← hgf p, e, hgf q]
  obtain ⟨N, h1, h2, h3⟩ := period hf hi hp
  intro i
  have e1 := it_mul h3 i
  have e2 := it_add f i (N * i - i) p
  have hle : i ≤ N * i := Nat.le_mul_of_pos_left i (by lia)
  rw [show i + (N * i - i) = N * i by lia, e1] at e2
  have e3 : it g i p = it f (N * i - i) p := by
    conv => lhs; rw [e2]
    exact it_back hgf i _
  rw [e3]
  exact h _
theorem orb_back {f g : Nat → Nat} {n : Nat} (hf : ∀ p, p < n → f p < n) (hg : ∀ p, p < n → g p < n) (hgf : ∀ p, g (f p) = p) (hfg : ∀ p, f (g p) = p) : orb f n = orb g n :=
  orb_congr fun _ hp => ⟨top_back hf hgf hp, top_back hg hfg hp⟩
end Mine
end
noncomputable section
open PySem PySem.W PyProof.Rows
set_option Elab.async false
set_option autoImplicit false
set_option linter.unusedVariables false
set_option linter.unusedSimpArgs false
namespace Mine
/-! The plain law, second part: how many orbits. -/
/-- Turning about by groups. -/
def refl : List Nat → Nat → Nat
  | [], p => p
  | n :: ns, p => if p < n then n - 1 - p else n + refl ns (p - n)
theorem refl_lo {n p : Nat} {ns : List Nat} (h : p < n) : refl (n :: ns) p = n - 1 - p := by rw [refl, if_pos h]
theorem refl_hi {n p : Nat} {ns : List Nat} (h : n ≤ p) : refl (n :: ns) p = n + refl ns (p - n) := by rw [refl, if_neg (by lia)]
theorem refl_add {n q : Nat} {ns : List Nat} : refl (n :: ns) (n + q) = n + refl ns q := by rw [refl_hi (by lia), Nat.add_sub_cancel_left]
theorem refl_refl : ∀ (ns : List Nat) (p : Nat), refl ns (refl ns p) = p
  | [], _ => rfl
  | n :: ns, p => by
    rcases Nat.lt_or_ge p n with h | h
    · rw [refl_lo h, refl_lo (by lia)]; lia
    · rw [refl_hi h, refl_add, refl_refl ns]; lia
theorem refl_lt : ∀ (ns : List Nat) (p : Nat), p < ns.sum → refl ns p < ns.sum
  | [], _, h => h
  | n :: ns, p, h => by
    rw [List.sum_cons] at h ⊢
    rcases Nat.lt_or_ge p n with q | q
    · rw [refl_lo q]; lia
    · rw [refl_hi q]
      have := refl_lt ns (p - n) (by lia)
      lia
theorem refl_zero (ns : List Nat) (p : Nat) : refl (0 :: ns) p = refl ns p := by rw [refl_hi (Nat.zero_le _)]; simp
theorem mirT_eq {α : Type} (xs : List α) : ∀ (ns : List Nat) (t : List α), t.length + ns.sum ≤ xs.length → mirT xs t ns = t ++ mir (xs.drop t.length) ns
  | [], t, _ => by simp [mirT, mir]
  | n :: ns, t, h => by
    rw [List.sum_cons] at h
    have e1 : (t ++ ((xs.drop t.length).take n).reverse).length = t.length + n := by simp; lia
    have e2 : (((xs.drop t.length).take n).reverse).length = n := by simp; lia
    rw [mirT, mirT_eq xs ns _ (by rw [e1]; lia), e1]
    unfold mir
    rw [mirT]
    simp only [List.length_nil, List.drop_zero, List.nil_append]
    rw [mirT_eq (xs.drop t.length) ns _ (by rw [e2]; simp; lia), e2, List.drop_drop]
    simp only [List.append_assoc]
    rfl
theorem mir_cons {α : Type} (xs : List α) (n : Nat) (ns : List Nat) (h : n + ns.sum ≤ xs.length) : mir xs (n :: ns) = (xs.take n).reverse ++ mir (xs.drop n) ns := by
  have e2 : ((xs.take n).reverse).length = n := by simp; lia
  unfold mir
  rw [mirT]
  simp only [List.length_nil, List.drop_zero, List.nil_append]
  rw [mirT_eq xs ns _ (by rw [e2]; lia), e2]
  rfl
theorem mir_len {α : Type} : ∀ (ns : List Nat) (xs : List α), ns.sum ≤ xs.length → (mir xs ns).length = ns.sum
  | [], _, _ => rfl
  | n :: ns, xs, h => by
    rw [List.sum_cons] at h
    rw [mir_cons xs n ns h, List.length_append, mir_len ns _ (by simp; lia)]
    simp; lia
theorem mir_get {α : Type} : ∀ (ns : List Nat) (xs : List α), ns.sum ≤ xs.length → ∀ p, p < ns.sum → (mir xs ns)[p]? = xs[refl ns p]?
  | [], _, _, _, hp => by simp at hp
  | n :: ns, xs, h, p, hp => by
    rw [List.sum_cons] at h hp
    have e2 : ((xs.take n).reverse).length = n := by simp; lia
    rw [mir_cons xs n ns h]
    rcases Nat.lt_or_ge p n with q | q
    · rw [List.getElem?_append_left (by lia), refl_lo q, List.getElem?_reverse (by simp; lia), List.getElem?_take]
      have : (xs.take n).length = n := by simp; lia
      rw [this, if_pos (by lia)]
    · rw [List.getElem?_append_right (by lia), e2, mir_get ns _ (by simp; lia) _ (by lia), refl_hi q, List.getElem?_drop]
theorem mir_map {α β : Type} (f : α → β) : ∀ (ns : List Nat) (xs : List α), ns.sum ≤ xs.length → mir (xs.map f) ns = (mir xs ns).map f
  | [], _, _ => rfl
  | n :: ns, xs, h => by
    rw [List.sum_cons] at h
    rw [mir_cons _ n ns (by simpa using h), mir_cons xs n ns h, List.map_append, ← List.map_drop, mir_map f ns _ (by simp; lia)]
    simp
/-- One round: by the one row, then by the other. -/
def rr (U L : List Nat) (p : Nat) : Nat := refl L (refl U p)
theorem rr_lt {U L : List Nat} {n : Nat} (h1 : U.sum = n) (h2 : L.sum = n) (p : Nat) (hp : p < n) : rr U L p < n := by
  unfold rr
  have := refl_lt U p (by lia)
  have := refl_lt L (refl U p) (by lia)
  lia
theorem rr_rr (U L : List Nat) (p : Nat) : rr L U (rr U L p) = p := by unfold rr; rw [refl_refl, refl_refl]
theorem orb_swap {U L : List Nat} {n : Nat} (h1 : U.sum = n) (h2 : L.sum = n) : orb (rr U L) n = orb (rr L U) n :=
  orb_back (rr_lt h1 h2) (rr_lt h2 h1) (rr_rr U L) (rr_rr L U)
theorem rr_low {u l p : Nat} {us ls : List Nat} (hp : p < u) (hul : u ≤ l) : rr (u :: us) (l :: ls) p = p + (l - u) := by
  unfold rr
  rw [refl_lo hp, refl_lo (by lia)]; lia
theorem orb_same {u : Nat} {us ls : List Nat} (n : Nat) : orb (rr (u :: us) (u :: ls)) (u + n) = u + orb (rr us ls) n :=
  orb_still (fun p hp => by rw [rr_low hp (Nat.le_refl _)]; lia) fun q => by
    unfold rr
    rw [refl_add, refl_add]
theorem orb_less {u o : Nat} {us ls : List Nat} (n : Nat) (h : o < u) : orb (rr (u :: us) ((u + o) :: ls)) (o + n) = orb (rr ((u - o) :: us) (u :: ls)) n := by
  refine orb_return (fun p hp => ?_) fun q => ?_
  · rw [rr_low (by lia) (by lia)]; lia
  · rcases Nat.lt_or_ge q (u - o) with h1 | h1
    · have e1 : rr ((u - o) :: us) (u :: ls) q = q + (u - (u - o)) := rr_low h1 (by lia)
      have e2 : rr (u :: us) ((u + o) :: ls) (o + q) = o + q + (u + o - u) := rr_low (by lia) (by lia)
      rw [e1, e2, if_pos (by lia)]; lia
    · unfold rr
      have e1 : refl ((u - o) :: us) q = u - o + refl us (q - (u - o)) := refl_hi h1
      have e2 : refl (u :: us) (o + q) = u + refl us (q - (u - o)) := by rw [refl_hi (by lia)]; congr 2; lia
      rw [e1, e2]
      generalize refl us (q - (u - o)) = r
      rcases Nat.lt_or_ge r o with h2 | h2
      · rw [refl_lo (show u - o + r < u by lia), refl_lo (show u + r < u + o by lia)]
        have e3 : rr (u :: us) ((u + o) :: ls) (u + o - 1 - (u + r)) = u + o - 1 - (u + r) + (u + o - u) := rr_low (by lia) (by lia)
        unfold rr at e3
        rw [e3, if_neg (by lia)]; lia
      · rw [refl_hi (show u ≤ u - o + r by lia), refl_hi (show u + o ≤ u + r by lia), if_pos (by lia)]
        have : u - o + r - u = u + r - (u + o) := by lia
        rw [this]; lia
theorem orb_more {u o : Nat} {us ls : List Nat} (n : Nat) (h : u ≤ o) : orb (rr (u :: us) ((u + o) :: ls)) (u + n) = orb (rr us ((o - u) :: u :: ls)) n := by
  refine orb_return (fun p hp => ?_) fun q => ?_
  · rw [rr_low hp (by lia)]; lia
  · unfold rr
    rw [refl_add]
    generalize refl us q = r
    rcases Nat.lt_or_ge r (o - u) with h1 | h1
    · rw [refl_lo h1, refl_lo (show u + r < u + o by lia), if_pos (by lia)]; lia
    · rw [refl_hi h1]
      rcases Nat.lt_or_ge r o with h2 | h2
      · rw [refl_lo (show r - (o - u) < u by lia), refl_lo (show u + r < u + o by lia)]
        have e3 : rr (u :: us) ((u + o) :: ls) (u + o - 1 - (u + r)) = u + o - 1 - (u + r) + (u + o - u) := rr_low (by lia) (by lia)
        unfold rr at e3
        rw [e3, if_neg (by lia)]; lia
      · rw [refl_hi (show u ≤ r - (o - u) by lia), refl_hi (show u + o ≤ u + r by lia), if_pos (by lia)]
        have : r - (o - u) - u = u + r - (u + o) := by lia
        rw [this]; lia
theorem rr_zero (U ls : List Nat) : rr U (0 :: ls) = rr U ls := by
  funext p; unfold rr; rw [refl_zero]
theorem cmain_orb {c : Nat} {U L : List Nat} (h : cwf (c, U, L)) (hU : U ≠ []) (hle : U.headD 0 ≤ L.headD 0) :
    c + orb (rr U L) U.sum = (cmain c U L).1 + orb (rr (cmain c U L).2.1 (cmain c U L).2.2) (cmain c U L).2.1.sum := by
  obtain ⟨h1, h2, h3⟩ := h
  cases U with
  | nil => exact absurd rfl hU
  | cons u us =>
    have hu := h1 u List.mem_cons_self
    cases L with
    | nil => simp at h3; lia
    | cons l ls =>
      simp only [List.headD_cons, List.sum_cons] at hle h3
      rw [cmain_cons]
      by_cases q : l - u = 0
      · rw [if_pos q]
        have : l = u := by lia
        subst this
        show c + orb (rr (l :: us) (l :: ls)) (l :: us).sum = c + l + orb (rr us ls) us.sum
        rw [List.sum_cons, orb_same]; lia
      · rw [if_neg q]
        by_cases q2 : l - u < u
        · rw [if_pos q2]
          show c + orb (rr (u :: us) (l :: ls)) (u :: us).sum = c + orb (rr ((u - (l - u)) :: us) (u :: ls)) ((u - (l - u)) :: us).sum
          have e := orb_less (us := us) (ls := ls) ((u - (l - u)) + us.sum) q2
          rw [show u + (l - u) = l by lia] at e
          rw [List.sum_cons, List.sum_cons, ← e]
          congr 2; lia
        · rw [if_neg q2]
          show c + orb (rr (u :: us) (l :: ls)) (u :: us).sum = c + orb (rr us (([l - u - u, u].filter fun n => decide (0 < n)) ++ ls)) us.sum
          have e := orb_more (u := u) (o := l - u) (us := us) (ls := ls) us.sum (by lia)
          rw [show u + (l - u) = l by lia] at e
          rw [List.sum_cons, e]
          have hf : rr us (([l - u - u, u].filter fun n => decide (0 < n)) ++ ls) = rr us ((l - u - u) :: u :: ls) := by
            by_cases z : 0 < l - u - u
            · simp [z, hu]
            · have z' : l - u - u = 0 := by lia
              rw [z', rr_zero]; simp [hu]
          rw [hf]
theorem cstep_orb {a : CS} (h : cwf a) (hU : a.2.1 ≠ []) : a.1 + orb (rr a.2.1 a.2.2) a.2.1.sum = (cstep a).1 + orb (rr (cstep a).2.1 (cstep a).2.2) (cstep a).2.1.sum := by
  obtain ⟨c, U, L⟩ := a
  unfold cstep
  split
  · rename_i hlt
    simp only at hlt hU ⊢
    have hL : L ≠ [] := fun e => by
      subst e
      obtain ⟨h1, h2, h3⟩ := h
      cases U with
      | nil => exact hU rfl
      | cons u us => have := h1 u List.mem_cons_self; simp at h3; lia
    have e := cmain_orb (c := c) (U := L) (L := U) ⟨h.2.1, h.1, h.2.2.symm⟩ hL (by lia)
    rw [← e, orb_swap (n := U.sum) rfl h.2.2.symm]
    have e2 : U.sum = L.sum := h.2.2
    rw [e2]
  · rename_i hlt
    exact cmain_orb h hU (Nat.le_of_not_lt hlt)
theorem cnt_orb : ∀ (n : Nat) (a : CS), cwf a → cmu a ≤ n → cnt n a = a.1 + orb (rr a.2.1 a.2.2) a.2.1.sum := by
  have z : ∀ (f : Nat → Nat), orb f 0 = 0 := fun f => rfl
  intro n
  induction n with
  | zero =>
    intro a hw hn
    have : a.2.1.sum = 0 := by simp only [cmu] at hn; lia
    rw [this, z]; rfl
  | succ n ih =>
    intro a hw hn
    by_cases hU : a.2.1 = []
    · simp [cnt, hU, z]
    · obtain ⟨h1, h2⟩ := cstep_ok hw hU
      rw [cnt, if_neg hU, ih _ h1 (by lia), cstep_orb hw hU]
/-- The count tells the orbits. -/
theorem count_orb {U L : List Nat} (h : cwf (0, U, L)) : count U L = orb (rr U L) U.sum := by
  unfold count
  have := cnt_orb (U.sum + L.sum) (0, U, L) h (Nat.le_refl _)
  rw [this]
  simp
end Mine
end
noncomputable section
open PySem PySem.W PyProof.Rows
set_option Elab.async false
set_option autoImplicit false
set_option linter.unusedVariables false
set_option linter.unusedSimpArgs false
namespace Mine
/-! The plain law, third part: sizes, middles. -/
theorem last_i {t : List Nat} {n : Nat} (hn : 0 < n) : ∃ i, i ≤ t.length ∧ (t.take i).sum < n ∧ (i = t.length ∨ n ≤ (t.take (i + 1)).sum) := by
  have key : ∀ r m, t.length - m = r → m ≤ t.length → (t.take m).sum < n → ∃ i, i ≤ t.length ∧ (t.take i).sum < n ∧ (i = t.length ∨ n ≤ (t.take (i + 1)).sum) := by
    intro r
    induction r with
    | zero => intro m h1 h2 h3; exact ⟨m, h2, h3, .inl (by lia)⟩
    | succ r ih =>
      intro m h1 h2 h3
      rcases Nat.lt_or_ge (t.take (m + 1)).sum n with q | q
      · exact ih (m + 1) (by lia) (by lia) q
      · exact ⟨m, h2, h3, .inr q⟩
  exact key _ 0 rfl (Nat.zero_le _) (by simpa using hn)
theorem diffs_ok : ∀ (es : List Nat) (a : Nat), (a :: es).Pairwise (· < ·) → (∀ d ∈ diffs (a :: es), 0 < d) ∧ (diffs (a :: es)).sum + a = (a :: es).getLast (List.cons_ne_nil _ _)
  | [], a, _ => by simp [diffs]
  | b :: r, a, h => by
    have hab := (List.pairwise_cons.mp h).1 b List.mem_cons_self
    obtain ⟨h1, h2⟩ := diffs_ok r b (List.pairwise_cons.mp h).2
    rw [diffs_cons]
    refine ⟨fun d hd => ?_, ?_⟩
    · rcases List.mem_cons.mp hd with rfl | hd
      · lia
      · exact h1 d hd
    · rw [List.sum_cons, List.getLast_cons (List.cons_ne_nil _ _), ← h2]; lia
theorem sizes_ok {row : List Nat} {n : Nat} (h1 : 1 ≤ stopOf row) (hn : 0 < n) : (∀ d ∈ sizesOf row n, 0 < d) ∧ (sizesOf row n).sum = n := by
  unfold sizesOf
  have hp : ∀ r ∈ told row n, 0 < r := told_pos h1
  generalize told row n = t at hp
  obtain ⟨i, hi, hs, he⟩ := last_i (t := t) hn
  rw [edges_eq hp hi hs he]
  have e : (esOf t n i ++ [0]).reverse = 0 :: (esOf t n i).reverse := by simp
  rw [e]
  have hpw : (0 :: (esOf t n i).reverse).Pairwise (· < ·) := by
    rw [List.pairwise_cons, List.pairwise_reverse]
    refine ⟨fun a ha => ?_, esOf_desc hp hi hs⟩
    have ha := List.mem_reverse.mp ha
    unfold esOf at ha
    obtain ⟨k, hk, rfl⟩ := List.mem_map.mp ha
    have hk' := List.mem_range.mp hk
    have : (t.take k).sum ≤ (t.take i).sum := by
      rcases Nat.lt_or_ge k i with q | q
      · exact Nat.le_of_lt (take_sum_lt hp q hi)
      · rw [show k = i by lia]; exact Nat.le_refl _
    lia
  obtain ⟨a1, a2⟩ := diffs_ok _ _ hpw
  refine ⟨a1, ?_⟩
  have e2 : (0 :: (esOf t n i).reverse).getLast (List.cons_ne_nil _ _) = n := by
    have hne : (esOf t n i).reverse ≠ [] := by
      intro z
      have := congrArg List.length z
      simp [esOf_len] at this
    rw [List.getLast_cons hne, List.getLast_reverse]
    have : (esOf t n i)[0]? = some (n - (t.take 0).sum) := esOf_get (Nat.zero_le _)
    rw [List.head_eq_getElem]
    have z := (List.getElem?_eq_some_iff.mp this).2
    rw [z]; simp
  rw [e2] at a2
  lia
/-- The middles of the odd groups. -/
def midR (ns : List Nat) : List Nat := ((List.range ns.length).filter fun k => ns.getD k 0 % 2 == 1).map fun k => (ns.take k).sum + ns.getD k 0 / 2
theorem midR_cons (n : Nat) (ns : List Nat) : midR (n :: ns) = (if n % 2 = 1 then [n / 2] else []) ++ (midR ns).map (n + ·) := by
  unfold midR
  rw [List.length_cons, List.range_succ_eq_map, List.filter_cons, List.filter_map, List.map_map]
  have e2 : (List.map ((fun k => ((n :: ns).take k).sum + (n :: ns).getD k 0 / 2) ∘ Nat.succ) (List.filter ((fun k => (n :: ns).getD k 0 % 2 == 1) ∘ Nat.succ) (List.range ns.length))) = List.map (n + ·) (List.map (fun k => (ns.take k).sum + ns.getD k 0 / 2) (List.filter (fun k => ns.getD k 0 % 2 == 1) (List.range ns.length))) := by
    rw [List.map_map]
    have e3 : ((fun k => (n :: ns).getD k 0 % 2 == 1) ∘ Nat.succ) = fun k => ns.getD k 0 % 2 == 1 := by funext k; simp
    rw [e3]
    apply List.map_congr_left
    intro k _
    simp; lia
  by_cases h : n % 2 = 1
  · simp only [List.getD_cons_zero, h, beq_self_eq_true, if_true, List.map_cons, List.map_map]
    rw [e2]; simp
  · have h' : (n % 2 == 1) = false := by simpa using h
    simp only [List.getD_cons_zero, h', h, Bool.false_eq_true, if_false, List.map_map]
    rw [e2]; simp
theorem fix_block (n : Nat) : (List.range n).filter (fun p => n - 1 - p == p) = if n % 2 = 1 then [n / 2] else [] := by
  by_cases h : n % 2 = 1
  · rw [if_pos h]
    have e : (List.range n).filter (fun p => n - 1 - p == p) = (List.range n).filter (fun p => p == n / 2) := by
      apply List.filter_congr
      intro p hp
      have := List.mem_range.mp hp
      rw [Bool.eq_iff_iff]; simp only [beq_iff_eq]; lia
    rw [e, List.filter_beq]
    have : (List.range n).count (n / 2) = 1 := by
      rw [List.nodup_range.count, if_pos (List.mem_range.mpr (by lia))]
    rw [this]; rfl
  · rw [if_neg h, List.filter_eq_nil_iff]
    intro p hp
    have := List.mem_range.mp hp
    simp only [beq_iff_eq]; lia
theorem midR_eq : ∀ ns : List Nat, midR ns = (List.range ns.sum).filter fun p => refl ns p == p
  | [] => rfl
  | n :: ns => by
    rw [midR_cons, midR_eq ns, List.sum_cons, List.range_add, List.filter_append, ← fix_block, List.filter_map]
    congr 1
    · apply List.filter_congr
      intro p hp
      rw [refl_lo (List.mem_range.mp hp)]
    · congr 1
      apply List.filter_congr
      intro p _
      rw [Function.comp_apply, refl_add, Bool.eq_iff_iff]; simp
/-! first and last of a kind -/
theorem kinds_count {α : Type} (s : Nat → α) (n : Nat) (F G : Nat → Bool) (hF : ∀ p, p < n → (F p = true ↔ ∀ q, q < p → s q ≠ s p)) (hG : ∀ p, p < n → (G p = true ↔ ∀ q, p < q → q < n → s q ≠ s p)) :
    (List.range n).countP F = (List.range n).countP G := by
  have n1 : (((List.range n).filter F).map s).Nodup := by
    unfold List.Nodup
    rw [List.pairwise_map]
    refine ((List.pairwise_lt_range (n := n)).sublist List.filter_sublist).imp_of_mem fun {a b} ha hb h => ?_
    obtain ⟨hb1, hb2⟩ := List.mem_filter.mp hb
    exact (hF b (List.mem_range.mp hb1)).mp hb2 a h
  have n2 : (((List.range n).filter G).map s).Nodup := by
    unfold List.Nodup
    rw [List.pairwise_map]
    refine ((List.pairwise_lt_range (n := n)).sublist List.filter_sublist).imp_of_mem fun {a b} ha hb h => ?_
    obtain ⟨ha1, ha2⟩ := List.mem_filter.mp ha
    obtain ⟨hb1, hb2⟩ := List.mem_filter.mp hb
    exact ((hG a (List.mem_range.mp ha1)).mp ha2 b h (List.mem_range.mp hb1)).symm
  have lo : ∀ m p, p ≤ m → p < n → ∃ q, q < n ∧ F q = true ∧ s q = s p := by
    intro m
    induction m with
    | zero => intro p h1 h2; exact ⟨p, h2, (hF p h2).mpr fun q hq => by lia, rfl⟩
    | succ m ih =>
      intro p h1 h2
      by_cases h : ∀ q, q < p → s q ≠ s p
      · exact ⟨p, h2, (hF p h2).mpr h, rfl⟩
      · have ⟨q, hq1, hq2⟩ : ∃ q, q < p ∧ s q = s p := Classical.byContradiction fun hn => h fun q hq e => hn ⟨q, hq, e⟩
        obtain ⟨r, a, b, c⟩ := ih q (by lia) (by lia)
        exact ⟨r, a, b, c.trans hq2⟩
  have hi : ∀ m p, n - p ≤ m → p < n → ∃ q, q < n ∧ G q = true ∧ s q = s p := by
    intro m
    induction m with
    | zero => intro p h1 h2; lia
    | succ m ih =>
      intro p h1 h2
      by_cases h : ∀ q, p < q → q < n → s q ≠ s p
      · exact ⟨p, h2, (hG p h2).mpr h, rfl⟩
      · have ⟨q, hq1, hq0, hq2⟩ : ∃ q, p < q ∧ q < n ∧ s q = s p := Classical.byContradiction fun hn => h fun q hq hq' e => hn ⟨q, hq, hq', e⟩
        obtain ⟨r, a, b, c⟩ := ih q (by lia) (by lia)
        exact ⟨r, a, b, c.trans hq2⟩
  have pm := (List.perm_ext_iff_of_nodup n1 n2).mpr fun x => by
    simp only [List.mem_map, List.mem_filter, List.mem_range]
    constructor
    · rintro ⟨p, ⟨h1, _⟩, rfl⟩
      obtain ⟨q, a, b, c⟩ := hi _ p (Nat.le_refl _) h1
      exact ⟨q, ⟨a, b⟩, c⟩
    · rintro ⟨p, ⟨h1, _⟩, rfl⟩
      obtain ⟨q, a, b, c⟩ := lo _ p (Nat.le_refl _) h1
      exact ⟨q, ⟨a, b⟩, c⟩
  have := pm.length_eq
  rw [List.length_map, List.length_map] at this
  rw [List.countP_eq_length_filter, List.countP_eq_length_filter, this]
/-! the middles in an orbit -/
theorem two_each : ∀ N : Fin 10, ∀ b : Fin 10, 1 ≤ N.val → b.val < N.val → (List.range N.val).countP (fun i => (2 * i) % N.val == b.val) + (List.range N.val).countP (fun i => (2 * i + 1) % N.val == b.val) = 2 := by decide +kernel
theorem mids_orbit {D S : List Nat} {n p : Nat} (hD : D.sum = n) (hS : S.sum = n) (hn : n ≤ 9) (hp : p < n) (q : Nat → Bool) (hq : ∀ m, m < n → (q m = true ↔ ∃ i, it (rr D S) i p = m)) :
    ((midR S).filter q).length + ((midR D).filter q).length = if q (refl S p) then 2 else 0 := by
  have hf := rr_lt hD hS
  have hinj : ∀ x y, rr D S x = rr D S y → x = y := fun x y e => by rw [← rr_rr D S x, e, rr_rr]
  obtain ⟨N, hN1, hN2, hN3, hN4⟩ := least_period hf hinj hp
  have hO : ((List.range N).map fun i => it (rr D S) i p).Perm ((List.range n).filter q) := by
    refine (List.perm_ext_iff_of_nodup ?_ (List.nodup_range.filter _)).mpr fun x => ?_
    · unfold List.Nodup
      rw [List.pairwise_map]
      refine (List.pairwise_lt_range (n := N)).imp_of_mem fun {a b} ha hb h e => ?_
      have := hN4 a b e
      rw [Nat.mod_eq_of_lt (List.mem_range.mp ha), Nat.mod_eq_of_lt (List.mem_range.mp hb)] at this
      lia
    · simp only [List.mem_map, List.mem_filter, List.mem_range]
      constructor
      · rintro ⟨i, _, rfl⟩
        have := it_lt hf hp i
        exact ⟨this, (hq _ this).mpr ⟨i, rfl⟩⟩
      · rintro ⟨h1, h2⟩
        obtain ⟨i, rfl⟩ := (hq x h1).mp h2
        exact ⟨i % N, Nat.mod_lt _ (by lia), (it_mod hN3 i).symm⟩
  have hc : ∀ g : Nat → Bool, (((List.range n).filter g).filter q).length = (List.range N).countP fun i => g (it (rr D S) i p) := by
    intro g
    rw [List.filter_filter]
    have e : (List.range n).filter (fun a => q a && g a) = ((List.range n).filter q).filter g := by
      rw [List.filter_filter]
      apply List.filter_congr
      intro x _; rw [Bool.and_comm]
    rw [e, ← List.countP_eq_length_filter, ← hO.countP_eq, List.countP_map]
    rfl
  rw [midR_eq, midR_eq, hS, hD, hc, hc]
  have kS : ∀ i, it (rr D S) i (refl S (it (rr D S) i p)) = refl S p := by
    intro i
    induction i with
    | zero => rfl
    | succ i ih =>
      have e : rr D S (refl S (rr D S (it (rr D S) i p))) = refl S (it (rr D S) i p) := by
        unfold rr; rw [refl_refl, refl_refl]
      rw [it, it, ← it_comm (rr D S) i (refl S (rr D S (it (rr D S) i p))), e]
      exact ih
  have fS : ∀ i, (refl S (it (rr D S) i p) == it (rr D S) i p) = true ↔ it (rr D S) (2 * i) p = refl S p := by
    intro i
    rw [beq_iff_eq]
    have e := it_add (rr D S) i i p
    rw [show i + i = 2 * i by lia] at e
    rw [e]
    constructor
    · intro h; rw [← kS i, h]
    · intro h; rw [← kS i] at h; exact (it_inj hinj i _ _ h).symm
  have fD : ∀ i, (refl D (it (rr D S) i p) == it (rr D S) i p) = true ↔ it (rr D S) (2 * i + 1) p = refl S p := by
    intro i
    rw [beq_iff_eq]
    have e1 : refl D (it (rr D S) i p) = refl S (it (rr D S) (i + 1) p) := by
      rw [it]; unfold rr; rw [refl_refl]
    have k2 := kS (i + 1)
    rw [← e1] at k2
    have e := it_add (rr D S) (i + 1) i p
    rw [show i + 1 + i = 2 * i + 1 by lia] at e
    rw [e]
    constructor
    · intro h; rw [← k2, h]
    · intro h; rw [← k2] at h; exact (it_inj hinj (i + 1) _ _ h).symm
  have hSp : refl S p < n := by rw [← hS]; exact refl_lt S p (by lia)
  by_cases hqs : q (refl S p) = true
  · rw [if_pos hqs]
    obtain ⟨a, ha⟩ := (hq _ hSp).mp hqs
    have hb : a % N < N := Nat.mod_lt _ (by lia)
    have := two_each ⟨N, by lia⟩ ⟨a % N, by lia⟩ hN1 hb
    refine Eq.trans ?_ this
    congr 1
    · refine List.countP_congr fun i _ => ?_
      rw [fS i, ← ha, beq_iff_eq]
      exact ⟨fun h => hN4 _ _ h, fun h => by rw [it_mod hN3, h, ← it_mod hN3]⟩
    · refine List.countP_congr fun i _ => ?_
      rw [fD i, ← ha, beq_iff_eq]
      exact ⟨fun h => hN4 _ _ h, fun h => by rw [it_mod hN3, h, ← it_mod hN3]⟩
  · rw [if_neg hqs]
    have z : ∀ j, it (rr D S) j p ≠ refl S p := fun j e => hqs ((hq _ hSp).mpr ⟨j, e⟩)
    have z1 : (List.range N).countP (fun i => refl S (it (rr D S) i p) == it (rr D S) i p) = 0 := by
      rw [List.countP_eq_zero]
      intro i _ h
      exact z _ ((fS i).mp h)
    have z2 : (List.range N).countP (fun i => refl D (it (rr D S) i p) == it (rr D S) i p) = 0 := by
      rw [List.countP_eq_zero]
      intro i _ h
      exact z _ ((fD i).mp h)
    rw [z1, z2]
end Mine
end
noncomputable section
open PySem PySem.W PyProof.Rows
set_option Elab.async false
set_option autoImplicit false
set_option linter.unusedVariables false
set_option linter.unusedSimpArgs false
namespace Mine
/-! The plain law, fourth part: what is seen. -/
def ddN (acc l : List Nat) : List Nat := l.foldl (fun acc k => if k ∈ acc then acc else acc ++ [k]) acc
theorem ddN_cons (acc : List Nat) (k : Nat) (l : List Nat) : ddN acc (k :: l) = ddN (if k ∈ acc then acc else acc ++ [k]) l := rfl
theorem ddN_nodup : ∀ (l acc : List Nat), acc.Nodup → (ddN acc l).Nodup
  | [], acc, h => h
  | k :: l, acc, h => by
    rw [ddN_cons]
    refine ddN_nodup l _ ?_
    split
    · exact h
    · rename_i hk
      rw [List.nodup_append]
      refine ⟨h, by simp, fun a ha b hb e => hk ?_⟩
      rw [List.mem_singleton.mp hb] at e
      exact e ▸ ha
theorem ddN_mem : ∀ (l acc : List Nat) (x : Nat), x ∈ ddN acc l ↔ x ∈ acc ∨ x ∈ l
  | [], acc, x => by simp [ddN]
  | k :: l, acc, x => by
    rw [ddN_cons, ddN_mem l]
    split
    · rename_i hk
      constructor
      · rintro (h | h)
        · exact .inl h
        · exact .inr (List.mem_cons_of_mem _ h)
      · rintro (h | h)
        · exact .inl h
        · rcases List.mem_cons.mp h with rfl | h
          · exact .inl hk
          · exact .inr h
    · rw [List.mem_append, List.mem_singleton, List.mem_cons, or_assoc]
/-- What is seen, in order, each once. -/
def seenL (l : List Nat) : List Nat := isort (ddN [] l)
theorem seenL_mem (l : List Nat) (x : Nat) : x ∈ seenL l ↔ x ∈ l := by
  unfold seenL
  rw [(isort_perm _).mem_iff, ddN_mem]
  simp
theorem seenL_eq {l m : List Nat} : seenL l = seenL m ↔ ∀ x, x ∈ l ↔ x ∈ m := by
  constructor
  · intro h x
    rw [← seenL_mem l, ← seenL_mem m, h]
  · intro h
    unfold seenL
    have pm : (ddN [] l).Perm (ddN [] m) := (List.perm_ext_iff_of_nodup (ddN_nodup _ _ .nil) (ddN_nodup _ _ .nil)).mpr fun x => by
      rw [ddN_mem, ddN_mem]; simp [h x]
    exact List.Perm.eq_of_pairwise (fun a b _ _ h1 h2 => Nat.le_antisymm h1 h2) (isort_sorted _) (isort_sorted _) ((isort_perm _).trans (pm.trans (isort_perm _).symm))
/-! the lines -/
section
variable {α : Type}
/-- The line behind so many rounds. -/
def lineK (xs : List α) (S D : List Nat) : Nat → List α
  | 0 => xs
  | k + 1 => mir (mir (lineK xs S D k) S) D
variable {xs : List α} {S D : List Nat} {n : Nat}
theorem lineK_len (hx : xs.length = n) (hS : S.sum = n) (hD : D.sum = n) : ∀ k, (lineK xs S D k).length = n
  | 0 => hx
  | k + 1 => by
    have h := lineK_len hx hS hD k
    rw [lineK, mir_len _ _ (by rw [mir_len _ _ (by lia)]; lia)]; exact hD
theorem lineK_get (hx : xs.length = n) (hS : S.sum = n) (hD : D.sum = n) : ∀ k p, p < n → (lineK xs S D k)[p]? = xs[it (rr D S) k p]?
  | 0, p, _ => rfl
  | k + 1, p, hp => by
    have h := lineK_len hx hS hD k
    rw [lineK, mir_get D _ (by rw [mir_len _ _ (by lia)]; lia) p (by lia), mir_get S _ (by lia) _ (by have := refl_lt D p (by lia); lia)]
    have hr : refl S (refl D p) = rr D S p := rfl
    rw [hr, lineK_get hx hS hD k _ (rr_lt hD hS p hp), it_comm]; rfl
end
/-- What is seen at a place. -/
def seenAt (xs S D : List Nat) (n p : Nat) : List Nat := seenL ((List.range (n + 1)).map fun k => (lineK xs S D k).getD p 0)
section
variable {xs S D : List Nat} {n : Nat}
theorem seenAt_eq (hx : xs.length = n) (hS : S.sum = n) (hD : D.sum = n) (hd : ∀ a b, a < n → b < n → xs[a]? = xs[b]? → a = b) {p q : Nat} (hp : p < n) (hq : q < n) :
    seenAt xs S D n q = seenAt xs S D n p ↔ ∃ i, it (rr D S) i p = q := by
  have hf := rr_lt hD hS
  have hinj : ∀ x y, rr D S x = rr D S y → x = y := fun x y e => by rw [← rr_rr D S x, e, rr_rr]
  have hm : ∀ p, p < n → ∀ x, x ∈ ((List.range (n + 1)).map fun k => (lineK xs S D k).getD p 0) ↔ ∃ k, xs[it (rr D S) k p]? = some x := by
    intro p hp x
    obtain ⟨N, h1, h2, h3⟩ := period hf hinj hp
    have hg : ∀ k, (lineK xs S D k).getD p 0 = x ↔ xs[it (rr D S) k p]? = some x := by
      intro k
      have hl := lineK_len hx hS hD k
      rw [← lineK_get hx hS hD k p hp, List.getD_eq_getElem?_getD, List.getElem?_eq_getElem (by lia)]
      simp
    simp only [List.mem_map, List.mem_range]
    constructor
    · rintro ⟨k, _, e⟩
      exact ⟨k, (hg k).mp e⟩
    · rintro ⟨k, e⟩
      have hk : k % N < N := Nat.mod_lt _ (by lia)
      refine ⟨k % N, by lia, (hg _).mpr ?_⟩
      rw [← it_mod h3]; exact e
  unfold seenAt
  rw [seenL_eq]
  constructor
  · intro h
    have hq' : q < xs.length := by lia
    have := (h xs[q]).mp ((hm q hq _).mpr ⟨0, List.getElem?_eq_getElem hq'⟩)
    obtain ⟨k, hk⟩ := (hm p hp _).mp this
    exact ⟨k, hd _ _ (it_lt hf hp k) hq (by rw [hk, List.getElem?_eq_getElem hq'])⟩
  · rintro ⟨i, rfl⟩ x
    rw [hm _ hq, hm _ hp]
    constructor
    · rintro ⟨k, hk⟩
      exact ⟨k + i, by rw [it_add]; exact hk⟩
    · rintro ⟨k, hk⟩
      obtain ⟨N, h1, h2, h3⟩ := period hf hinj hp
      refine ⟨k + (N * i - i), ?_⟩
      have hle : i ≤ N * i := Nat.le_mul_of_pos_left i (by lia)
      rw [← it_add, show k + (N * i - i) + i = k + N * i by lia, it_add, it_mul h3]
      exact hk
/-- The rings, as many as the count tells. -/
theorem rings_count (hx : xs.length = n) (hS : S.sum = n) (hD : D.sum = n) (hd : ∀ a b, a < n → b < n → xs[a]? = xs[b]? → a = b) (pS : ∀ d ∈ S, 0 < d) (pD : ∀ d ∈ D, 0 < d) (F : Nat → Bool)
    (hF : ∀ p, p < n → (F p = true ↔ ∀ q, q < p → seenAt xs S D n q ≠ seenAt xs S D n p)) : (List.range n).countP F = count S D := by
  have hw : cwf (0, S, D) := ⟨pS, pD, hS.trans hD.symm⟩
  rw [count_orb hw, hS, orb_swap hS hD]
  have hf := rr_lt hD hS
  refine kinds_count (seenAt xs S D n) n F _ hF fun p hp => ?_
  rw [topb_iff]
  constructor
  · intro h q h1 h2 e
    obtain ⟨i, hi⟩ := (seenAt_eq hx hS hD hd hp h2).mp e
    have := h i
    lia
  · intro h i
    rcases Nat.lt_or_ge p (it (rr D S) i p) with z | z
    · have hl := it_lt hf hp i
      exact absurd ((seenAt_eq hx hS hD hd hp hl).mpr ⟨i, rfl⟩) (h _ z hl)
    · exact z
theorem mids_count (hx : xs.length = n) (hS : S.sum = n) (hD : D.sum = n) (hn : n ≤ 9) (hd : ∀ a b, a < n → b < n → xs[a]? = xs[b]? → a = b) {p : Nat} (hp : p < n) :
    ((midR S ++ midR D).filter fun m => seenAt xs S D n m == seenAt xs S D n p).length = if seenAt xs S D n (refl S p) == seenAt xs S D n p then 2 else 0 := by
  rw [List.filter_append, List.length_append]
  have := mids_orbit hD hS hn hp (fun m => seenAt xs S D n m == seenAt xs S D n p) fun m hm => by
    rw [beq_iff_eq]; exact seenAt_eq hx hS hD hd hp hm
  exact this
end
/-! the octets at first -/
theorem first_apart {c e : Nat} (d : Nat) (he : e = 1 + 2 * d) {a b : Nat} (ha : a < 9) (hb : b < 9) (h : (c + e * a) % 256 = (c + e * b) % 256) : a = b := by
  have key : ∀ m, m < 9 → ∀ x, (x + e * m) % 256 = x % 256 → m = 0 := by
    intro m hm x hxy
    match m, hm with
    | 0, _ => rfl
    | 1, _ => lia
    | 2, _ => lia
    | 3, _ => lia
    | 4, _ => lia
    | 5, _ => lia
    | 6, _ => lia
    | 7, _ => lia
    | 8, _ => lia
  rcases Nat.le_total a b with q | q
  · obtain ⟨m, rfl⟩ := Nat.exists_eq_add_of_le q
    have := key m (by lia) (c + e * a) (by rw [h, Nat.mul_add, Nat.add_assoc])
    lia
  · obtain ⟨m, rfl⟩ := Nat.exists_eq_add_of_le q
    have := key m (by lia) (c + e * b) (by rw [← h, Nat.mul_add, Nat.add_assoc])
    lia
end Mine
end
noncomputable section
open PySem PySem.W PyProof.Rows
set_option Elab.async false
set_option autoImplicit false
set_option linter.unusedVariables false
set_option linter.unusedSimpArgs false
namespace Mine
/-! The plain law, fifth part: rows of one width; octets. -/
theorem width_fin : ∀ T : Fin 10, ∀ w : Fin 10, 1 ≤ w.val → 5 ≤ T.val → w.val ≤ T.val → T.val % w.val = 0 → (sizesOf [w.val, 0] T.val).sum = T.val ∧ (List.range T.val).all (fun p => refl (sizesOf [w.val, 0] T.val) p == mix w.val p && decide (p / w.val < T.val / w.val) && decide (mix w.val p < T.val)) = true := by decide +kernel
theorem laid_mir {x : List UInt8} {T w : Nat} (hx : x.length = T) (h5 : 5 ≤ T) (h9 : T ≤ 9) (hw : 1 ≤ w) (hwT : w ≤ T) (hm : T % w = 0) : mir x (sizesOf [w, 0] T) = laid x w (T / w) 0 := by
  obtain ⟨h1, h2⟩ := width_fin ⟨T, by lia⟩ ⟨w, by lia⟩ hw h5 hwT hm
  simp only at h1 h2
  rw [List.all_eq_true] at h2
  refine List.ext_getElem? fun p => ?_
  rcases Nat.lt_or_ge p T with hp | hp
  · have h3 := h2 p (List.mem_range.mpr hp)
    simp only [Bool.and_eq_true, beq_iff_eq, decide_eq_true_eq] at h3
    obtain ⟨⟨h3, h4⟩, h5'⟩ := h3
    rw [mir_get _ _ (by lia) p (by lia), h3]
    unfold laid
    rw [List.getElem?_map, hx, List.getElem?_range hp, Option.map_some, if_pos (.inl h4), List.getD_eq_getElem?_getD, List.getElem?_eq_getElem (by lia)]
    rfl
  · rw [List.getElem?_eq_none (by rw [mir_len _ _ (by lia)]; lia), List.getElem?_eq_none (by rw [laid_len]; lia)]
theorem mir_twice {α : Type} {xs : List α} {S : List Nat} (h : S.sum = xs.length) : mir (mir xs S) S = xs := by
  have hl := mir_len S xs (by lia)
  refine List.ext_getElem? fun p => ?_
  rcases Nat.lt_or_ge p xs.length with hp | hp
  · rw [mir_get _ _ (by lia) p (by lia), mir_get _ _ (by lia) _ (by have := refl_lt S p (by lia); lia), refl_refl]
  · rw [List.getElem?_eq_none (by rw [mir_len _ _ (by lia)]; lia), List.getElem?_eq_none hp]
def oct (l : List Nat) : List UInt8 := l.map fun n => n.toUInt8
theorem bD_oct {l : List Nat} (h : ∀ n ∈ l, n < 256) : bD (oct l) = iL l := by
  unfold bD oct iL
  rw [List.map_map]
  apply List.map_congr_left
  intro n hn
  have := h n hn
  simp only [Function.comp_apply]
  congr 1
  show ((UInt8.ofNat n).toNat : Int) = (n : Int)
  rw [UInt8.toNat_ofNat_of_lt' (by show n < 2 ^ 8; lia)]
theorem mir_mem {α : Type} : ∀ (ns : List Nat) (xs : List α), ns.sum ≤ xs.length → ∀ x ∈ mir xs ns, x ∈ xs := by
  intro ns xs h x hx
  obtain ⟨p, hp⟩ := List.getElem?_of_mem hx
  have hl : p < ns.sum := by
    have := (List.getElem?_eq_some_iff.mp hp).1
    rw [mir_len ns xs h] at this; exact this
  rw [mir_get ns xs h p hl] at hp
  exact List.mem_of_getElem? hp
theorem lineK_mem {α : Type} {xs : List α} {S D : List Nat} {n : Nat} (hx : xs.length = n) (hS : S.sum = n) (hD : D.sum = n) : ∀ k, ∀ x ∈ lineK xs S D k, x ∈ xs
  | 0, x, h => h
  | k + 1, x, h => by
    have hl := lineK_len hx hS hD k
    have h1 := mir_mem D _ (by rw [mir_len _ _ (by lia)]; lia) x h
    have h2 := mir_mem S _ (by lia) x h1
    exact lineK_mem hx hS hD k x h2
end Mine
end
noncomputable section
open PySem PySem.W PyProof.Rows
open PySem.Sem (wp)
set_option Elab.async false
set_option autoImplicit false
set_option linter.unusedVariables false
set_option linter.unusedSimpArgs false
set_option maxRecDepth 4000
namespace Mine
def totOf (th : Nat) : Nat := 5 + th % 5
theorem tot_le (th : Nat) : 5 ≤ totOf th ∧ totOf th ≤ 9 := by unfold totOf; lia
theorem iL_app (a b : List Nat) : iL a ++ iL b = iL (a ++ b) := by simp [iL]
section
variable {prog : Program} {w : World} {A : Around} {mg mb : Str → Option Value} {sb : Shared} {G : Addr → Prop} {sa : Shared} {L a : Addr} {cd : Value}
theorem ev_rowOf {env : Env} {P : Addr → Prop} {h : Heap} {u : Nat} {x x1 x2 : Str} {q1 q2 q3 q4 q5 q6 q7 q8 q9 q10 q11 q12 q13 q14 q15 q16 q17 q18 q19 q20 q21 q22 q23 q24 q25 q26 q27 q28 : Pos} {k1 k2 k3 k4 k5 k6 k7 k8 : Nat}
    (hu : ∀ q, Ev prog w A env P h (.Name x q) (.int (u : Nat))) (hm : ∀ q, Ev prog w A env P h (.Name x1 q) (.list (iL menuL))) (he : ∀ q, Ev prog w A env P h (.Name x2 q) (.list (endsL.map fun r => .list (iL r))))
    (hs1 : starEach [(.BinOp (.Constant (.int 1) k1 q1) .Add (.BinOp (.Name x q2) .Mod (.Constant (.int 9) k2 q3) q4) q5), (.Subscript (.Name x1 q6) (.BinOp (.BinOp (.Name x q7) .FloorDiv (.Constant (.int 9) k3 q8) q9) .Mod (.Constant (.int 7) k4 q10) q11) q12), (.Subscript (.Name x1 q13) (.BinOp (.BinOp (.Name x q14) .FloorDiv (.Constant (.int 63) k5 q15) q16) .Mod (.Constant (.int 7) k6 q17) q18) q19)] env = (false, eval (.BinOp (.Constant (.int 1) k1 q1) .Add (.BinOp (.Name x q2) .Mod (.Constant (.int 9) k2 q3) q4) q5) env) :: starEach [(.Subscript (.Name x1 q6) (.BinOp (.BinOp (.Name x q7) .FloorDiv (.Constant (.int 9) k3 q8) q9) .Mod (.Constant (.int 7) k4 q10) q11) q12), (.Subscript (.Name x1 q13) (.BinOp (.BinOp (.Name x q14) .FloorDiv (.Constant (.int 63) k5 q15) q16) .Mod (.Constant (.int 7) k6 q17) q18) q19)] env := by first | exact star_cons rfl | with_unfolding_all rfl)
    (hs2 : starEach [(.Subscript (.Name x1 q6) (.BinOp (.BinOp (.Name x q7) .FloorDiv (.Constant (.int 9) k3 q8) q9) .Mod (.Constant (.int 7) k4 q10) q11) q12), (.Subscript (.Name x1 q13) (.BinOp (.BinOp (.Name x q14) .FloorDiv (.Constant (.int 63) k5 q15) q16) .Mod (.Constant (.int 7) k6 q17) q18) q19)] env = (false, eval (.Subscript (.Name x1 q6) (.BinOp (.BinOp (.Name x q7) .FloorDiv (.Constant (.int 9) k3 q8) q9) .Mod (.Constant (.int 7) k4 q10) q11) q12) env) :: starEach [(.Subscript (.Name x1 q13) (.BinOp (.BinOp (.Name x q14) .FloorDiv (.Constant (.int 63) k5 q15) q16) .Mod (.Constant (.int 7) k6 q17) q18) q19)] env := by first | exact star_cons rfl | with_unfolding_all rfl)
    (hs3 : starEach [(.Subscript (.Name x1 q13) (.BinOp (.BinOp (.Name x q14) .FloorDiv (.Constant (.int 63) k5 q15) q16) .Mod (.Constant (.int 7) k6 q17) q18) q19)] env = [(false, eval (.Subscript (.Name x1 q13) (.BinOp (.BinOp (.Name x q14) .FloorDiv (.Constant (.int 63) k5 q15) q16) .Mod (.Constant (.int 7) k6 q17) q18) q19) env)] := by first | exact star_one rfl | with_unfolding_all rfl) :
    Ev prog w A env P h (.BinOp (.List [(.BinOp (.Constant (.int 1) k1 q1) .Add (.BinOp (.Name x q2) .Mod (.Constant (.int 9) k2 q3) q4) q5), (.Subscript (.Name x1 q6) (.BinOp (.BinOp (.Name x q7) .FloorDiv (.Constant (.int 9) k3 q8) q9) .Mod (.Constant (.int 7) k4 q10) q11) q12), (.Subscript (.Name x1 q13) (.BinOp (.BinOp (.Name x q14) .FloorDiv (.Constant (.int 63) k5 q15) q16) .Mod (.Constant (.int 7) k6 q17) q18) q19)] q27) .Add (.Subscript (.Name x2 q20) (.BinOp (.BinOp (.Name x q21) .FloorDiv (.Constant (.int 441) k7 q22) q23) .Mod (.Constant (.int 4) k8 q24) q25) q26) q28) (.list (iL (rowOf u))) := by
  have e3 : ((endsL.getD (u / 441 % 4) []).length) ≤ 2 := ends_len _
  exact ev_cast (ev_bin (ev_list (evl_cons (ev_addN (ev_int ((1 : Nat) : Int) _ _) (ev_modN (hu _) (ev_int ((9 : Nat) : Int) _ _) (by decide)))
    (evl_cons (ev_nth (hm _) (ev_modN (ev_divN (hu _) (ev_int ((9 : Nat) : Int) _ _) (by decide) (by decide)) (ev_int ((7 : Nat) : Int) _ _) (by decide)) (menu_at _ (Nat.mod_lt _ (by decide))) (by lia))
    (evl_one (ev_nth (hm _) (ev_modN (ev_divN (hu _) (ev_int ((63 : Nat) : Int) _ _) (by decide) (by decide)) (ev_int ((7 : Nat) : Int) _ _) (by decide)) (menu_at _ (Nat.mod_lt _ (by decide))) (by lia))))))
    (ev_nth (he _) (ev_modN (ev_divN (hu _) (ev_int ((441 : Nat) : Int) _ _) (by decide) (by decide)) (ev_int ((4 : Nat) : Int) _ _) (by decide)) (ends_at _ (Nat.mod_lt _ (by decide))) (by lia)) (op_cat _ _ (by rw [iL_len]; simp only [List.length_cons, List.length_nil]; lia))) (by
      rw [rowOf, ← iL_app]; rfl)
theorem row_ok (u : Nat) : (rowOf u).length ≤ 20 := Nat.le_trans (row_len u) (by decide)
set_option maxHeartbeats 8000000 in
theorem law2 {n : Nat} {up lo th : Nat} {s0 : Shared} {Q : Flow → Shared → Prop} {E : Value → Shared → Prop} (oA : OkA (n + 2) A) (T : Gd mg mb sb.heap)
    (S0 : Sta sb G (lEnv L a cd) (fun _ => False) sa [("ends", .list (endsL.map fun r => .list (iL r))), ("menu", .list (iL menuL)), ("third", .int (th : Nat)), ("lower", .int (lo : Nat)), ("upper", .int (up : Nat))] s0)
    (next : ∀ s', Sta sb G (lEnv L a cd) (fun _ => False) sa [("double", .list (iL (sizesOf (rowOf lo) (totOf th)))), ("single", .list (iL (sizesOf (rowOf up) (totOf th)))), ("first", .list (iL (firstOf th (totOf th)))), ("total", .int (totOf th : Nat)), ("two", .list (iL (rowOf lo))), ("one", .list (iL (rowOf up)))] s' → wpN (model prog w) A (execs ((theDef 9).body.drop 12) (lEnv L a cd)) Q E s') :
    wpN (model prog w) A (execs ((theDef 9).body.drop 6) (lEnv L a cd)) Q E s0 := by
  have hT := tot_le th
  refine wpN_execs_cons (wpN_of (st_assign (d := .list (iL (rowOf up))) S0 (ev_rowOf (fun q => ev_has (S0.has (x := "upper") (by with_unfolding_all rfl))) (fun q => ev_has (S0.has (x := "menu") (by with_unfolding_all rfl))) (fun q => ev_has (S0.has (x := "ends") (by with_unfolding_all rfl)))) fun s1 _ S1 => ?_))
  refine wpN_execs_cons (wpN_of (st_assign (d := .list (iL (rowOf lo))) S1 (ev_rowOf (fun q => ev_has (S1.has (x := "lower") (by with_unfolding_all rfl))) (fun q => ev_has (S1.has (x := "menu") (by with_unfolding_all rfl))) (fun q => ev_has (S1.has (x := "ends") (by with_unfolding_all rfl)))) fun s2 _ S2 => ?_))
  refine wpN_execs_cons (wpN_of (st_assign (d := .int (totOf th : Nat)) S2 (ev_addN (ev_int ((5 : Nat) : Int) _ _) (ev_modN (ev_has (S2.has (x := "third") (by with_unfolding_all rfl))) (ev_int ((5 : Nat) : Int) _ _) (by decide))) fun s3 _ S3 => ?_))
  have T3 := T.sub S3.keep
  have hth3 := S3.has (x := "third") (d := .int (th : Nat)) (by with_unfolding_all rfl)
  refine wpN_execs_cons (wpN_of (st_assign_comp (ds := (List.range (totOf th)).map fun (k : Nat) => D.int k) (d := .range 0 ((totOf th : Nat) : Int) 1) S3 scOk_of (fun _ => true) (fun k => .int (((th / 5 + (1 + 2 * (th / 1280 % 128)) * k) % 256 : Nat) : Int))
    (ev_range1 (T3.blt (x := "range") boot_range).lk (ev_has (S3.has (x := "total") (d := .int (totOf th : Nat)) (by with_unfolding_all rfl)))) (fun P s v r => src_range1 oA.handled (by lia) r) (by simp; lia) (fun K C h' k di v hk lk hdi rv => ⟨trL_nil, fun _ => ?body⟩) fun s4 _ S4 => ?_))
  case body =>
    obtain ⟨hk1, rfl⟩ := range_at hdi
    have hth' := (hth3.sub hk).free (C := C) K
    have hm : th / 1280 % 128 < 128 := Nat.mod_lt _ (by decide)
    exact ev_modN (ev_addN (ev_divN (ev_has hth') (ev_int ((5 : Nat) : Int) _ _) (by decide) (by decide)) (ev_mulN (ev_addN (ev_int ((1 : Nat) : Int) _ _) (ev_mulN (ev_int ((2 : Nat) : Int) _ _) (ev_modN (ev_divN (ev_has hth') (ev_int ((1280 : Nat) : Int) _ _) (by decide) (by decide)) (ev_int ((128 : Nat) : Int) _ _) (by decide)) (by decide))) ((ev_name lk rv).flat rfl) (by lia))) (ev_int ((256 : Nat) : Int) _ _) (by decide)
  have hfi : (List.map (fun k => D.int (((th / 5 + (1 + 2 * (th / 1280 % 128)) * k) % 256 : Nat) : Int)) (List.filter (fun _ => true) (List.range ((List.range (totOf th)).map fun (k : Nat) => D.int k).length))) = iL (firstOf th (totOf th)) := by
    rw [filter_all, List.length_map, List.length_range]
    simp [iL, firstOf]
  rw [hfi] at S4
  have T4 := T.sub S4.keep
  obtain ⟨as, cs, gs, Fs_⟩ := T4.at (i := 3)
  obtain ⟨os, pms, docs, hos, hfs⟩ := Fs_.obj
  refine wpN_execs_cons (wpN_of (st_assign (d := .list (iL (sizesOf (rowOf up) (totOf th)))) S4 (ev_call_fn (T4.glob gs).lk hos hfs (evl_cons (ev_has (S4.has (x := "one") (d := .list (iL (rowOf up))) (by with_unfolding_all rfl))) (evl_one (ev_has (S4.has (x := "total") (d := .int (totOf th : Nat)) (by with_unfolding_all rfl)))))
    (ct_sizes oA T4 Fs_ (rowOf up) (totOf th) (row_ok _) (by lia) (row_stop _))) fun s5 _ S5 => ?_))
  have T5 := T.sub S5.keep
  obtain ⟨as2, cs2, gs2, Fs2⟩ := T5.at (i := 3)
  obtain ⟨os2, pms2, docs2, hos2, hfs2⟩ := Fs2.obj
  refine wpN_execs_cons (wpN_of (st_assign (d := .list (iL (sizesOf (rowOf lo) (totOf th)))) S5 (ev_call_fn (T5.glob gs2).lk hos2 hfs2 (evl_cons (ev_has (S5.has (x := "two") (d := .list (iL (rowOf lo))) (by with_unfolding_all rfl))) (evl_one (ev_has (S5.has (x := "total") (d := .int (totOf th : Nat)) (by with_unfolding_all rfl)))))
    (ct_sizes oA T5 Fs2 (rowOf lo) (totOf th) (row_ok _) (by lia) (row_stop _))) fun s6 _ S6 => ?_))
  refine next s6 (S6.weak ?_)
  intro p hp
  simp only [List.mem_cons, List.not_mem_nil, or_false] at hp
  rcases hp with rfl | rfl | rfl | rfl | rfl | rfl <;> with_unfolding_all rfl
end
end Mine
end
noncomputable section
open PySem PySem.W PyProof.Rows
open PySem.Sem (wp)
set_option Elab.async false
set_option autoImplicit false
set_option linter.unusedVariables false
set_option linter.unusedSimpArgs false
set_option maxRecDepth 4000
namespace Mine
/-- What is known of the rows and of the octets at first. -/
structure LP (ro rt fi sg db : List Nat) (T : Nat) : Prop where
  lo : 5 ≤ T
  hi : T ≤ 9
  r1 : ro.length ≤ 10
  r2 : rt.length ≤ 10
  s1 : 1 ≤ stopOf ro
  s2 : 1 ≤ stopOf rt
  e1 : sizesOf ro T = sg
  e2 : sizesOf rt T = db
  fl : fi.length = T
  fb : ∀ n ∈ fi, n < 256
  fa : ∀ a b, a < T → b < T → fi[a]? = fi[b]? → a = b
section
variable {ro rt fi sg db : List Nat} {T : Nat}
theorem LP.sS (H : LP ro rt fi sg db T) : sg.sum = T := by rw [← H.e1]; exact (sizes_ok H.s1 (by have := H.lo; lia)).2
theorem LP.sD (H : LP ro rt fi sg db T) : db.sum = T := by rw [← H.e2]; exact (sizes_ok H.s2 (by have := H.lo; lia)).2
theorem LP.pS (H : LP ro rt fi sg db T) : ∀ d ∈ sg, 0 < d := by rw [← H.e1]; exact (sizes_ok H.s1 (by have := H.lo; lia)).1
theorem LP.pD (H : LP ro rt fi sg db T) : ∀ d ∈ db, 0 < d := by rw [← H.e2]; exact (sizes_ok H.s2 (by have := H.lo; lia)).1
theorem oct_len (l : List Nat) : (oct l).length = l.length := by simp [oct]
theorem LP.line (H : LP ro rt fi sg db T) (k : Nat) : (lineK fi sg db k).length = T := lineK_len H.fl H.sS H.sD k
theorem oct_mir {l ns : List Nat} (h : ns.sum ≤ l.length) : mir (oct l) ns = oct (mir l ns) := mir_map _ ns l h
end
/-- The names that stay. -/
abbrev bV (ro rt fi sg db : List Nat) (T : Nat) : List (Str × D) := [("double", .list (iL db)), ("single", .list (iL sg)), ("first", .list (iL fi)), ("total", .int (T : Nat)), ("two", .list (iL rt)), ("one", .list (iL ro))]
def linesD (fi sg db : List Nat) (m : Nat) : List D := (List.range m).map fun k => D.bytes (oct (lineK fi sg db k))
theorem linesD_succ (fi sg db : List Nat) (m : Nat) : linesD fi sg db (m + 1) = linesD fi sg db m ++ [D.bytes (oct (lineK fi sg db m))] := by simp [linesD, List.range_succ]
theorem linesD_len (fi sg db : List Nat) (m : Nat) : (linesD fi sg db m).length = m := by simp [linesD]
theorem linesD_last (fi sg db : List Nat) (m : Nat) : (linesD fi sg db (m + 1)).getLast? = some (.bytes (oct (lineK fi sg db m))) := by rw [linesD_succ, List.getLast?_concat]
section
variable {prog : Program} {w : World} {A : Around} {mg mb : Str → Option Value} {sb : Shared} {G : Addr → Prop} {sa : Shared} {L a : Addr} {cd : Value}
variable {ro rt fi sg db : List Nat} {T : Nat}
set_option maxHeartbeats 8000000 in
theorem law3 {n : Nat} {s0 : Shared} {Q : Flow → Shared → Prop} (oA : OkA (n + 2) A) (Tg : Gd mg mb sb.heap) (H : LP ro rt fi sg db T)
    (S0 : Sta sb G (lEnv L a cd) (fun _ => False) sa (bV ro rt fi sg db T) s0)
    (next : ∀ s', Sta sb G (lEnv L a cd) (fun _ => False) sa (("lines", .list (linesD fi sg db (T + 1))) :: ("plain", .list (iL (lineK fi sg db T))) :: bV ro rt fi sg db T) s' → wpN (model prog w) A (execs ((theDef 9).body.drop 15) (lEnv L a cd)) Q (fun _ _ => False) s') :
    wpN (model prog w) A (execs ((theDef 9).body.drop 12) (lEnv L a cd)) Q (fun _ _ => False) s0 := by
  have hlo := H.lo
  have hhi := H.hi
  have T0 := Tg.sub S0.keep
  refine wpN_execs_cons (wpN_of (st_mklist (ds := [.bytes (oct fi)]) S0 (evl_one (ev_cast (ev_call_ty (T0.blt (x := "bytes") PyProof.Rows.Boot.«bytes»).lk (evl_one (ev_cast (ev_has (S0.has (x := "first") (d := .list (iL fi)) (by with_unfolding_all rfl))) (congrArg D.list (iL_int fi)))) (ct_bytes_list oA.handled _ ?_ ?_)) ?_)) (fun d hd => by rw [List.mem_singleton.mp hd]; rfl) (by simp) fun s1 B hB hBa hGB hBX m1 S1 => ?_))
  · intro x hx
    obtain ⟨y, hy, rfl⟩ := List.mem_map.mp hx
    have := H.fb y hy
    lia
  · rw [List.length_map, H.fl]; lia
  · simp [oct]
  have hBF : ¬ FrA (lEnv L a cd) B := fun z => hBX (.inl z)
  refine wpN_execs_cons (wpN_of (st_assign (d := .list (iL fi)) S1 (ev_has (S1.has (x := "first") (d := .list (iL fi)) (by with_unfolding_all rfl))) fun s2 k2 S2 => ?_))
  have m2 : ML s2.heap B (linesD fi sg db 1) := m1.at fun o e => k2.keep B o hBF e
  have T2 := Tg.sub S2.keep
  refine wpN_execs_cons (staN_for (d := .range 0 ((T : Nat) : Int) 1) (ds := (List.range T).map fun (k : Nat) => D.int k) (fun i => ("plain", .list (iL (lineK fi sg db i))) :: ("lines", .addr B) :: bV ro rt fi sg db T) (fun i s => ML s.heap B (linesD fi sg db (i + 1))) S2
    (ev_range1 (T2.blt (x := "range") boot_range).lk (ev_has (S2.has (x := "total") (d := .int (T : Nat)) (by with_unfolding_all rfl)))) (fun P s v r => src_range1 oA.handled (by lia) r) ?V0 (fun s' k' => m2.at fun o e => k'.keep _ _ e) (fun I i s1 s2 hI j kw => j.at fun o e => kw.keep B _ (fun z => hI (.inr (.inr z.symm))) e) (fun i s1 s2 j kx => j.at fun o e => kx.keep B _ hBF e)
    (fun G' i di s4 hdi hG kx4 S4 m4 => ?turn) fun s4 S4 m4 => ?done)
  case V0 =>
    intro p hp
    simp only [List.mem_cons, List.not_mem_nil, or_false] at hp
    rcases hp with rfl | rfl | rfl | rfl | rfl | rfl | rfl | rfl <;> with_unfolding_all rfl
  case done =>
    have hlen : ((List.range T).map fun (k : Nat) => D.int k).length = T := by simp
    rw [hlen] at S4 m4
    refine next s4 ((S4.settle (x := "lines") (X := fun _ => False) (by with_unfolding_all rfl) m4 hBa hGB hBX).weak ?_)
    intro p hp
    simp only [List.mem_cons, List.not_mem_nil, or_false] at hp
    rcases hp with rfl | rfl | rfl | rfl | rfl | rfl | rfl | rfl <;> with_unfolding_all rfl
  case turn =>
    obtain ⟨hiT, rfl⟩ := range_at hdi
    have T4 := Tg.sub S4.keep
    obtain ⟨a7, c7, g7, F7⟩ := T4.at (i := 7)
    obtain ⟨o7, pm7, doc7, ho7, hf7⟩ := F7.obj
    have hl := H.line i
    have hl1 : (mir (lineK fi sg db i) sg).length = T := by rw [mir_len _ _ (by rw [hl, H.sS]; lia), H.sS]
    have hS := H.sS
    have hD := H.sD
    have c1 : CtN prog w A s4.heap (.ref a7) [.bytes (oct (lineK fi sg db i)), .list (iL ro)] (.bytes (oct (mir (lineK fi sg db i) sg))) := by
      have := ctN_turned (prog := prog) (w := w) oA T4 F7 (oct (lineK fi sg db i)) ro (by rw [oct_len, hl]; lia) (by rw [oct_len, hl]; lia) (by have := H.r1; lia) H.s1
      rw [oct_len, hl, H.e1, oct_mir (by rw [hl, hS]; lia)] at this
      exact this
    have c2 : CtN prog w A s4.heap (.ref a7) [.bytes (oct (mir (lineK fi sg db i) sg)), .list (iL rt)] (.bytes (oct (lineK fi sg db (i + 1)))) := by
      have := ctN_turned (prog := prog) (w := w) oA T4 F7 (oct (mir (lineK fi sg db i) sg)) rt (by rw [oct_len, hl1]; lia) (by rw [oct_len, hl1]; lia) (by have := H.r2; lia) H.s2
      rw [oct_len, hl1, H.e2, oct_mir (by rw [hl1, hD]; lia)] at this
      exact this
    refine wpN_execs_cons (stN_append (B := B) (ds := linesD fi sg db (i + 1)) (d := .bytes (oct (lineK fi sg db (i + 1)))) S4 (by with_unfolding_all rfl) (.inr rfl) hBF m4
      (evN_call_fn (T4.glob g7).lk ho7 hf7 (evlN_cons (evN_call_fn (T4.glob g7).lk ho7 hf7 (evlN_cons (ev_last (ev_ml (ev_has (S4.has (x := "lines") (d := .addr B) (by with_unfolding_all rfl))) m4) (ev_neg (ev_int _ _ _)) (linesD_last fi sg db i)).n (evlN_one (ev_has (S4.has (x := "one") (d := .list (iL ro)) (by with_unfolding_all rfl)).all).n)) c1) (evlN_one (ev_has (S4.has (x := "two") (d := .list (iL rt)) (by with_unfolding_all rfl)).all).n)) c2)
      rfl (by rw [linesD_len]; lia) fun s5 k5 m5 S5 => ?_)
    have T5 := Tg.sub S5.keep
    obtain ⟨a4, c4, g4, F4⟩ := T5.at (i := 4)
    obtain ⟨o4, pm4, doc4, ho4, hf4⟩ := F4.obj
    have d1 : Ct prog w A s5.heap (.ref a4) [.list (iL (lineK fi sg db i)), .list (iL sg)] (.list (iL (mir (lineK fi sg db i) sg))) := by
      have := ct_mirrored (prog := prog) (w := w) oA T5 F4 (iL (lineK fi sg db i)) sg (by rw [iL_len, hl]; lia)
      have e : mir (iL (lineK fi sg db i)) sg = iL (mir (lineK fi sg db i) sg) := mir_map _ _ _ (by rw [hl, hS]; lia)
      rw [e] at this
      exact this
    have d2 : Ct prog w A s5.heap (.ref a4) [.list (iL (mir (lineK fi sg db i) sg)), .list (iL db)] (.list (iL (lineK fi sg db (i + 1)))) := by
      have := ct_mirrored (prog := prog) (w := w) oA T5 F4 (iL (mir (lineK fi sg db i) sg)) db (by rw [iL_len, hl1]; lia)
      have e : mir (iL (mir (lineK fi sg db i) sg)) db = iL (mir (mir (lineK fi sg db i) sg) db) := mir_map _ _ _ (by rw [hl1, hD]; lia)
      rw [e] at this
      exact this
    refine wpN_execs_cons (wpN_of (st_assign (d := .list (iL (lineK fi sg db (i + 1)))) S5 (ev_call_fn (T5.glob g4).lk ho4 hf4 (evl_cons (ev_call_fn (T5.glob g4).lk ho4 hf4 (evl_cons (ev_has (S5.has (x := "plain") (d := .list (iL (lineK fi sg db i))) (by with_unfolding_all rfl))) (evl_one (ev_has (S5.has (x := "single") (d := .list (iL sg)) (by with_unfolding_all rfl))))) d1) (evl_one (ev_has (S5.has (x := "double") (d := .list (iL db)) (by with_unfolding_all rfl))))) d2) fun s6 k6 S6 => ?_))
    refine wpN_of (wpAny_execs_nil ⟨S6.weak ?_, ?_⟩)
    · intro p hp
      simp only [List.mem_cons, List.not_mem_nil, or_false] at hp
      rcases hp with rfl | rfl | rfl | rfl | rfl | rfl | rfl | rfl <;> with_unfolding_all rfl
    · show ML s6.heap B (linesD fi sg db (i + 1 + 1))
      rw [linesD_succ]
      exact m5.at fun o e => k6.keep B o hBF e
end
end Mine
end
noncomputable section
open PySem PySem.W PyProof.Rows
open PySem.Sem (wp)
set_option Elab.async false
set_option autoImplicit false
set_option linter.unusedVariables false
set_option linter.unusedSimpArgs false
set_option maxRecDepth 4000
namespace Mine
theorem dd_cast : ∀ (l acc : List Nat), dd (acc.map fun (n : Nat) => (n : Int)) (l.map fun (n : Nat) => (n : Int)) = (ddN acc l).map fun (n : Nat) => (n : Int)
  | [], acc => rfl
  | k :: l, acc => by
    have e : ((k : Int) ∈ acc.map fun (n : Nat) => (n : Int)) ↔ k ∈ acc := by
      rw [List.mem_map]
      constructor
      · rintro ⟨a, ha, e⟩
        have : a = k := by lia
        exact this ▸ ha
      · intro h; exact ⟨k, h, rfl⟩
    rw [List.map_cons]
    show dd (if (k : Int) ∈ acc.map (fun (n : Nat) => (n : Int)) then _ else _) _ = (ddN (if k ∈ acc then acc else acc ++ [k]) l).map _
    by_cases h : k ∈ acc
    · rw [if_pos (e.mpr h), if_pos h]; exact dd_cast l acc
    · rw [if_neg (fun q => h (e.mp q)), if_neg h]
      have := dd_cast l (acc ++ [k])
      rw [List.map_append] at this
      exact this
theorem seenL_ok (l : List Nat) : ((seenL l).map fun (n : Nat) => (n : Int)).Perm (dd [] (l.map fun (n : Nat) => (n : Int))) ∧ ((seenL l).map fun (n : Nat) => (n : Int)).Pairwise (· ≤ ·) := by
  constructor
  · have := dd_cast l []
    rw [List.map_nil] at this
    rw [this]
    exact (isort_perm _).map _
  · exact (isort_sorted _).map _ fun a b h => Int.ofNat_le.mpr h
theorem oct_get {l : List Nat} (h : ∀ n ∈ l, n < 256) (p : Nat) : ((oct l).getD p 0).toNat = l.getD p 0 := by
  unfold oct
  rw [List.getD_eq_getElem?_getD, List.getD_eq_getElem?_getD, List.getElem?_map]
  cases e : l[p]? with
  | none => rfl
  | some x =>
    have := h x (List.mem_of_getElem? e)
    show (UInt8.ofNat x).toNat = x
    rw [UInt8.toNat_ofNat_of_lt' (by show x < 2 ^ 8; lia)]
def seenD (fi sg db : List Nat) (T : Nat) : List D := (List.range T).map fun p => D.list (iL (seenAt fi sg db T p))
theorem seenD_get {fi sg db : List Nat} {T p : Nat} (h : p < T) : (seenD fi sg db T)[p]? = some (.list (iL (seenAt fi sg db T p))) := by
  unfold seenD
  rw [List.getElem?_map, List.getElem?_range h]; rfl
/-- The names, behind the looks. -/
abbrev eV (ro rt fi sg db : List Nat) (T : Nat) : List (Str × D) := ("there", .bytes (oct (mir (List.range T) sg))) :: ("places", .bytes (oct (List.range T))) :: ("seen", .list (seenD fi sg db T)) :: ("lines", .list (linesD fi sg db (T + 1))) :: ("plain", .list (iL (lineK fi sg db T))) :: bV ro rt fi sg db T
section
variable {prog : Program} {w : World} {A : Around} {mg mb : Str → Option Value} {sb : Shared} {G : Addr → Prop} {sa : Shared} {L a : Addr} {cd : Value}
variable {ro rt fi sg db : List Nat} {T : Nat}
theorem linesD_at {i : Nat} {di : D} {m : Nat} (h : (linesD fi sg db m)[i]? = some di) : i < m ∧ di = .bytes (oct (lineK fi sg db i)) := by
  unfold linesD at h
  rw [List.getElem?_map] at h
  rcases Nat.lt_or_ge i m with q | q
  · rw [List.getElem?_range q] at h; exact ⟨q, (Option.some.inj h).symm⟩
  · rw [List.getElem?_eq_none (by simpa using q)] at h; cases h
set_option maxHeartbeats 8000000 in
theorem law4 {n : Nat} {s0 : Shared} {Q : Flow → Shared → Prop} (oA : OkA (n + 2) A) (Tg : Gd mg mb sb.heap) (H : LP ro rt fi sg db T)
    (S0 : Sta sb G (lEnv L a cd) (fun _ => False) sa (("lines", .list (linesD fi sg db (T + 1))) :: ("plain", .list (iL (lineK fi sg db T))) :: bV ro rt fi sg db T) s0)
    (next : ∀ s', Sta sb G (lEnv L a cd) (fun _ => False) sa (eV ro rt fi sg db T) s' → wpN (model prog w) A (execs ((theDef 9).body.drop 18) (lEnv L a cd)) Q (fun _ _ => False) s') :
    wpN (model prog w) A (execs ((theDef 9).body.drop 15) (lEnv L a cd)) Q (fun _ _ => False) s0 := by
  have hlo := H.lo
  have hhi := H.hi
  have T0 := Tg.sub S0.keep
  have hli := S0.has (x := "lines") (d := .list (linesD fi sg db (T + 1))) (by with_unfolding_all rfl)
  refine wpN_execs_cons (wpN_of (st_assign (d := .list (seenD fi sg db T)) S0 (ev_cast (ev_comp (ds := (List.range T).map fun (k : Nat) => D.int k) (d := .range 0 ((T : Nat) : Int) 1) scOk_of (fun _ => true) (fun p => .list (iL (seenAt fi sg db T p)))
    (ev_range1 (T0.blt (x := "range") boot_range).lk (ev_has (S0.has (x := "total") (d := .int (T : Nat)) (by with_unfolding_all rfl)))) (fun P s v r => src_range1 oA.handled (by lia) r) (fun b e => e.2) (by simp; lia) (fun K C h' p di v hk lk hdi rv => ⟨trL_nil, fun _ => ?body⟩)) (by rw [filter_all]; simp [seenD])) fun s1 _ S1 => ?_))
  case body =>
    obtain ⟨hp, rfl⟩ := range_at hdi
    have lsorted := ScOk.glob (C := C) K (by with_unfolding_all rfl) ((T0.sub hk).blt (x := "sorted") (env := lEnv L a cd) boot_sorted) (by decide)
    have lset := ScOk.glob (C := C) K (by with_unfolding_all rfl) ((T0.sub hk).blt (x := "set") (env := lEnv L a cd) PyProof.Rows.Boot.«set») (by decide)
    have hli' := (hli.sub hk).free (C := C) K
    have ok := seenL_ok ((List.range (T + 1)).map fun k => (lineK fi sg db k).getD p 0)
    refine ev_cast (ev_sorted_set (ns := ((List.range (T + 1)).map fun k => (lineK fi sg db k).getD p 0).map fun (n : Nat) => (n : Int)) oA.handled lsorted lset (ev_cast (ev_comp (ds := linesD fi sg db (T + 1)) (d := .list (linesD fi sg db (T + 1))) scOk_of (fun _ => true) (fun k => .int (((lineK fi sg db k).getD p 0 : Nat) : Int))
      (ev_has hli') (fun P s v r => src_list oA.handled r) (fun b e => let ⟨o, ho⟩ := e.2; ⟨o, hk _ _ ho⟩) (by rw [linesD_len]; lia) (fun K2 C2 h2 k dk v2 hk2 lk2 hdk rv2 => ⟨trL_nil, fun _ => ?body2⟩)) ?cast) (by simp; lia) ok.1 ok.2) ?cast2
    case body2 =>
      obtain ⟨hkT, rfl⟩ := linesD_at hdk
      have hpl : Has (CE _ (lEnv L a cd) C) (PP G (lEnv L a cd) (fun _ => False) s0.heap) h' "place" (.int (p : Nat)) := ⟨v, lk, rv.flat rfl⟩
      have hpl2 := (hpl.sub hk2).free (C := C2) K2
      refine ev_cast (ev_itemB (i := p) (bsrc_bytes h2 (oct (lineK fi sg db k)) (by rw [oct_len, H.line]; lia)) (.refl _) ((ev_name lk2 rv2).flat rfl) (ev_has hpl2) (by rw [oct_len, H.line]; lia) (by intro _ _; with_unfolding_all rfl)) ?_
      rw [oct_get fun n hn => H.fb n (lineK_mem H.fl H.sS H.sD k n hn)]
    case cast => simp [filter_all, linesD_len]
    case cast2 => simp [iL, seenAt]
  have T1 := Tg.sub S1.keep
  refine wpN_execs_cons (wpN_of (st_assign (d := .bytes (oct (List.range T))) S1 (ev_cast (ev_call_ty (T1.blt (x := "bytes") PyProof.Rows.Boot.«bytes»).lk (evl_one (ev_cast (ev_comp (ds := (List.range T).map fun (k : Nat) => D.int k) (d := .range 0 ((T : Nat) : Int) 1) scOk_of (fun _ => true) (fun k => .int (k : Nat))
    (ev_range1 (T1.blt (x := "range") boot_range).lk (ev_has (S1.has (x := "total") (d := .int (T : Nat)) (by with_unfolding_all rfl)))) (fun P s v r => src_range1 oA.handled (by lia) r) (fun b e => e.2) (by simp; lia) (fun K C h' p di v hk lk hdi rv => ⟨trL_nil, fun _ => ?body3⟩)) (?cast3 : _ = D.list (((List.range T).map fun (n : Nat) => (n : Int)).map D.int)))) (ct_bytes_list oA.handled _ ?rng (by simp; lia))) ?cast4) fun s2 _ S2 => ?_))
  case body3 =>
    obtain ⟨hp, rfl⟩ := range_at hdi
    exact (ev_name lk rv).flat rfl
  case cast3 => simp [filter_all, Function.comp_def]
  case rng =>
    intro x hx
    obtain ⟨y, hy, rfl⟩ := List.mem_map.mp hx
    have := List.mem_range.mp hy
    lia
  case cast4 => simp [oct]
  have T2 := Tg.sub S2.keep
  obtain ⟨a7, c7, g7, F7⟩ := T2.at (i := 7)
  obtain ⟨o7, pm7, doc7, ho7, hf7⟩ := F7.obj
  have c1 : CtN prog w A s2.heap (.ref a7) [.bytes (oct (List.range T)), .list (iL ro)] (.bytes (oct (mir (List.range T) sg))) := by
    have := ctN_turned (prog := prog) (w := w) oA T2 F7 (oct (List.range T)) ro (by rw [oct_len, List.length_range]; lia) (by rw [oct_len, List.length_range]; lia) (by have := H.r1; lia) H.s1
    rw [oct_len, List.length_range, H.e1, oct_mir (by rw [List.length_range, H.sS]; lia)] at this
    exact this
  refine wpN_execs_cons (stN_assign (d := .bytes (oct (mir (List.range T) sg))) S2 (evN_call_fn (T2.glob g7).lk ho7 hf7 (evlN_cons (ev_has (S2.has (x := "places") (d := .bytes (oct (List.range T))) (by with_unfolding_all rfl))).n (evlN_one (ev_has (S2.has (x := "one") (d := .list (iL ro)) (by with_unfolding_all rfl))).n)) c1) fun s3 _ S3 => ?_)
  refine next s3 (S3.weak ?_)
  intro p hp
  simp only [List.mem_cons, List.not_mem_nil, or_false] at hp
  rcases hp with rfl | rfl | rfl | rfl | rfl | rfl | rfl | rfl | rfl | rfl | rfl <;> with_unfolding_all rfl
end
end Mine
end
noncomputable section
open PySem PySem.W PyProof.Rows
open PySem.Sem (wp)
set_option Elab.async false
set_option autoImplicit false
set_option linter.unusedVariables false
set_option linter.unusedSimpArgs false
set_option maxRecDepth 4000
namespace Mine
theorem len_le_sum : ∀ {zs : List Nat}, (∀ n ∈ zs, 0 < n) → zs.length ≤ zs.sum
  | [], _ => Nat.zero_le _
  | z :: zs, h => by
    have h1 := h z List.mem_cons_self
    have h2 := len_le_sum fun n hn => h n (List.mem_cons_of_mem _ hn)
    simp only [List.length_cons, List.sum_cons]; lia
section
variable {ro rt fi sg db : List Nat} {T : Nat}
theorem LP.lS (H : LP ro rt fi sg db T) : sg.length ≤ 9 := by have := len_le_sum H.pS; have := H.sS; have := H.hi; lia
theorem LP.lD (H : LP ro rt fi sg db T) : db.length ≤ 9 := by have := len_le_sum H.pD; have := H.sD; have := H.hi; lia
end
def midScope : Scope := { kind := .function, names := [(".0", .local), ("sizes", .local), ("k", .local), ("range", .globalImplicit), ("len", .globalImplicit), ("sum", .globalImplicit)], isGenerator := false, isCoroutine := false, more := [] }
def pairR (sg db : List Nat) (i : Nat) : List Nat := [sg, db].getD i []
theorem pair_at {sg db : List Nat} {i : Nat} {di : D} (h : ([D.list (iL sg), D.list (iL db)] : List D)[i]? = some di) : i < 2 ∧ di = .list (iL (pairR sg db i)) := by
  match i with
  | 0 => exact ⟨by lia, (Option.some.inj h).symm⟩
  | 1 => exact ⟨by lia, (Option.some.inj h).symm⟩
  | n + 2 => simp at h
theorem iL_at {l : List Nat} {j : Nat} (h : j < l.length) : (iL l)[j]? = some (.int (l.getD j 0 : Nat)) := by
  rw [iL_get, List.getElem?_eq_getElem h]; simp [h]
theorem eqv_nats (l m : List Nat) : PyData.eqv (D.list (iL l)).py (D.list (iL m)).py = (l == m) := by
  rw [iL_int, iL_int, ← cast_inj]
  simp only [D.py, pyL_map_int, PyData.eqv, eqvAll_ints]
def isNew (fi sg db : List Nat) (T p : Nat) : Bool := !((List.range p).any fun q => seenAt fi sg db T q == seenAt fi sg db T p)
theorem isNew_iff {fi sg db : List Nat} {T p : Nat} : isNew fi sg db T p = true ↔ ∀ q, q < p → seenAt fi sg db T q ≠ seenAt fi sg db T p := by
  unfold isNew
  rw [Bool.not_eq_true', List.any_eq_false]
  constructor
  · intro h q hq e
    exact h q (List.mem_range.mpr hq) (beq_iff_eq.mpr e)
  · intro h q hq e
    exact h q (List.mem_range.mp hq) (beq_iff_eq.mp e)
def ringsD (fi sg db : List Nat) (T : Nat) : List D := ((List.range T).filter (isNew fi sg db T)).map fun p => D.list (iL (seenAt fi sg db T p))
theorem ringsD_len {ro rt fi sg db : List Nat} {T : Nat} (H : LP ro rt fi sg db T) : (ringsD fi sg db T).length = count sg db := by
  unfold ringsD
  rw [List.length_map, ← List.countP_eq_length_filter]
  exact rings_count H.fl H.sS H.sD H.fa H.pS H.pD _ fun p _ => isNew_iff
theorem py_any (f : Nat → D) (g : PyData → Bool) : ∀ l : List Nat, (D.pyL (l.map f)).any g = l.any fun q => g (f q).py
  | [] => rfl
  | q :: l => by rw [List.map_cons, D.pyL, List.any_cons, List.any_cons, py_any f g l]
theorem plainL_map (f : Nat → D) (h : ∀ q, (f q).plain = true) : ∀ l : List Nat, D.plainL (l.map f) = true
  | [] => rfl
  | q :: l => by rw [List.map_cons, D.plainL, h q, plainL_map f h l]; rfl
theorem plain_nats (l : List Nat) : (D.list (iL l)).plain = true := by
  rw [iL_int]; exact plainL_map_int _
theorem depth_nats (l : List Nat) : (D.list (iL l)).py.depth ≤ 64 := by rw [iL_int]; exact depth_ints _
section
variable {prog : Program} {w : World} {A : Around} {mg mb : Str → Option Value} {sb : Shared} {G : Addr → Prop} {sa : Shared} {L a : Addr} {cd : Value}
variable {ro rt fi sg db : List Nat} {T : Nat}
abbrev fV (ro rt fi sg db : List Nat) (T : Nat) : List (Str × D) := ("rings", .list (ringsD fi sg db T)) :: ("middles", .list (iL (midR sg ++ midR db))) :: eV ro rt fi sg db T
set_option maxHeartbeats 8000000 in
theorem law5 {n : Nat} {s0 : Shared} {Q : Flow → Shared → Prop} (oA : OkA (n + 2) A) (Tg : Gd mg mb sb.heap) (H : LP ro rt fi sg db T)
    (S0 : Sta sb G (lEnv L a cd) (fun _ => False) sa (eV ro rt fi sg db T) s0)
    (next : ∀ s', Sta sb G (lEnv L a cd) (fun _ => False) sa (fV ro rt fi sg db T) s' → wpN (model prog w) A (execs ((theDef 9).body.drop 20) (lEnv L a cd)) Q (fun _ _ => False) s') :
    wpN (model prog w) A (execs ((theDef 9).body.drop 18) (lEnv L a cd)) Q (fun _ _ => False) s0 := by
  have hlo := H.lo
  have hhi := H.hi
  have hlS := H.lS
  have hlD := H.lD
  have hpl : ∀ i, (pairR sg db i).length ≤ 9 := fun i => by
    match i with
    | 0 => exact hlS
    | 1 => exact hlD
    | n + 2 => simp [pairR]
  have T0 := Tg.sub S0.keep
  refine wpN_execs_cons (wpN_of (st_assign_comp2 (x1 := "sizes") (x2 := "k") (d1 := .list [.list (iL sg), .list (iL db)]) (ds1 := [.list (iL sg), .list (iL db)]) S0 scOk_of (by with_unfolding_all rfl) scOk_of (by with_unfolding_all rfl) (by decide)
    (fun i => .range 0 ((pairR sg db i).length : Nat) 1) (fun i => (List.range (pairR sg db i).length).map fun (k : Nat) => D.int k) (fun i j => (pairR sg db i).getD j 0 % 2 == 1) (fun i j => ((((pairR sg db i).take j).sum + (pairR sg db i).getD j 0 / 2 : Nat) : Int))
    (ev_list (evl_cons (ev_has (S0.has (x := "single") (d := .list (iL sg)) (by with_unfolding_all rfl))) (evl_one (ev_has (S0.has (x := "double") (d := .list (iL db)) (by with_unfolding_all rfl)))))) (fun P s v r => src_list oA.handled r) ?hn
    (fun C h' i di v hk lk hdi rv => ?body1) (fun i P s v r => src_range1 oA.handled (by have := hpl i; lia) r) (fun i d hd => ?flat) (fun C h' i j di dj v1 v2 hk lk1 lk2 hdi rv1 hdj rv2 => ?body2) fun s1 _ S1 => ?_))
  case hn =>
    intro i hi
    have hi2 : i < 2 := hi
    have h1 := List.length_filter_le (fun j => (pairR sg db 0).getD j 0 % 2 == 1) (List.range (pairR sg db 0).length)
    have h2 := hpl 0
    have h3 := hpl 1
    simp only [List.length_range] at h1
    match i, hi2 with
    | 0, _ => simp; lia
    | 1, _ => simp at h1 ⊢; lia
  case flat =>
    obtain ⟨k, _, rfl⟩ := List.mem_map.mp hd
    rfl
  case body1 =>
    obtain ⟨hi, rfl⟩ := pair_at hdi
    have K : ScOk midScope (lEnv L a cd) "sizes" := scOk_of
    have llen := ScOk.glob (C := C) K (by with_unfolding_all rfl) ((T0.sub hk).blt (x := "len") (env := lEnv L a cd) boot_len) (by decide)
    have lran := ScOk.glob (C := C) K (by with_unfolding_all rfl) ((T0.sub hk).blt (x := "range") (env := lEnv L a cd) boot_range) (by decide)
    exact ev_range1 lran ((ev_len_list llen (ev_name lk rv) (iL_len _) (by have := hpl i; lia)).flat rfl)
  case body2 =>
    obtain ⟨hi, rfl⟩ := pair_at hdi
    obtain ⟨hj, rfl⟩ := range_at hdj
    have K : ScOk midScope (lEnv L a cd) "sizes" := scOk_of
    have lsum := ScOk.glob (C := C) K (by with_unfolding_all rfl) ((T0.sub hk).blt (x := "sum") (env := lEnv L a cd) boot_sum) (by decide)
    have hp9 := hpl i
    have en : ∀ q1 q2 q3, Ev prog w A (CE midScope (lEnv L a cd) C) All h' (.Subscript (.Name "sizes" q1) (.Name "k" q2) q3) (.int ((pairR sg db i).getD j 0 : Nat)) := fun q1 q2 q3 => ev_nth (ev_name lk1 rv1) (ev_name lk2 rv2) (iL_at hj) (by lia)
    refine ⟨trL_one (tr_cast (tr_cmp' (P := All) (ev_modN (en _ _ _) (ev_int ((2 : Nat) : Int) _ _) (by decide)) (ev_int ((1 : Nat) : Int) _ _) (op_eq _ _)) ?_), fun _ => ev_addN (ev_sum_nats lsum oA.handled (ev_cast (ev_slice_list (ev_name lk1 rv1) .none (.some (ev_name lk2 rv2)) .none (by decide) (by rw [iL_len]; lia)) ?_)) (ev_divN (en _ _ _) (ev_int ((2 : Nat) : Int) _ _) (by decide) (by decide))⟩
    · rw [Bool.eq_iff_iff]; simp only [beq_iff_eq]; lia
    · rw [iL_pick, pick_upto _ _ (by lia)]; simp
  have hmid : ((((List.range ([D.list (iL sg), D.list (iL db)] : List D).length).map fun i => ((List.range ((fun i => (List.range (pairR sg db i).length).map fun (k : Nat) => D.int k) i).length).filter ((fun i j => (pairR sg db i).getD j 0 % 2 == 1) i)).map ((fun i j => ((((pairR sg db i).take j).sum + (pairR sg db i).getD j 0 / 2 : Nat) : Int)) i)).flatten).map D.int) = iL (midR sg ++ midR db) := by
    simp [iL, midR, pairR, List.range_succ, Function.comp_def]
  rw [hmid] at S1
  have T1 := Tg.sub S1.keep
  have hse := S1.has (x := "seen") (d := .list (seenD fi sg db T)) (by with_unfolding_all rfl)
  refine wpN_execs_cons (wpN_of (st_assign_comp (ds := (List.range T).map fun (k : Nat) => D.int k) (d := .range 0 ((T : Nat) : Int) 1) S1 scOk_of (isNew fi sg db T) (fun p => .list (iL (seenAt fi sg db T p)))
    (ev_range1 (T1.blt (x := "range") boot_range).lk (ev_has (S1.has (x := "total") (d := .int (T : Nat)) (by with_unfolding_all rfl)))) (fun P s v r => src_range1 oA.handled (by lia) r) (by simp; lia) (fun K C h' p di v hk lk hdi rv => ?body) fun s2 _ S2 => ?_))
  case body =>
    obtain ⟨hp, rfl⟩ := range_at hdi
    have hse' := (hse.sub hk).free (C := C) K
    have en := fun q1 q2 q3 => ev_nth (prog := prog) (w := w) (A := A) (pos := q3) (ev_has (pos := q1) hse') ((ev_name (pos := q2) lk rv).flat rfl) (seenD_get (fi := fi) (sg := sg) (db := db) hp) (by lia)
    refine ⟨trL_one (tr_cast (tr_cmp' (en _ _ _) (ev_slice_list (ev_has hse') .none (.some ((ev_name lk rv).flat rfl)) .none (by decide) (by simp [seenD]; lia)) (op_notInL oA _ _ (plain_nats _) ?pl (depth_nats _))) ?eq), fun _ => en _ _ _⟩
    case pl =>
      rw [pick_upto _ _ (by lia), seenD, ← List.map_take]
      exact plainL_map _ (fun q => plain_nats _) _
    case eq =>
      rw [pick_upto _ _ (by lia), seenD, ← List.map_take, py_any, isNew]
      congr 1
      have e : (List.range T).take (p : Int).toNat = List.range p := by
        rw [List.take_range]; congr 1; simp; lia
      rw [e]
      congr 1
      funext q
      exact eqv_nats _ _
  have hri : (List.map (fun p => D.list (iL (seenAt fi sg db T p))) (List.filter (isNew fi sg db T) (List.range ((List.range T).map fun (k : Nat) => D.int k).length))) = ringsD fi sg db T := by
    simp [ringsD]
  rw [hri] at S2
  refine next s2 (S2.weak ?_)
  intro p hp
  simp only [List.mem_cons, List.not_mem_nil, or_false] at hp
  rcases hp with rfl | rfl | rfl | rfl | rfl | rfl | rfl | rfl | rfl | rfl | rfl | rfl | rfl <;> with_unfolding_all rfl
end
end Mine
end
noncomputable section
open PySem PySem.W PyProof.Rows
open PySem.Sem (wp)
set_option Elab.async false
set_option autoImplicit false
set_option linter.unusedVariables false
set_option linter.unusedSimpArgs false
set_option maxRecDepth 4000
namespace Mine
def midsL (sg db : List Nat) : List Nat := midR sg ++ midR db
section
variable {ro rt fi sg db : List Nat} {T : Nat}
theorem LP.mids (H : LP ro rt fi sg db T) : ∀ m ∈ midsL sg db, m < T := by
  intro m hm
  have hS := H.sS
  have hD := H.sD
  rcases List.mem_append.mp hm with h | h
  · rw [midR_eq] at h
    have := List.mem_range.mp (List.mem_filter.mp h).1
    lia
  · rw [midR_eq] at h
    have := List.mem_range.mp (List.mem_filter.mp h).1
    lia
theorem midsL_len (H : LP ro rt fi sg db T) : (midsL sg db).length ≤ 18 := by
  have h1 := List.length_filter_le (fun k => sg.getD k 0 % 2 == 1) (List.range sg.length)
  have h2 := List.length_filter_le (fun k => db.getD k 0 % 2 == 1) (List.range db.length)
  have := H.lS
  have := H.lD
  simp only [List.length_range] at h1 h2
  simp only [midsL, midR, List.length_append, List.length_map]
  lia
theorem count_le (H : LP ro rt fi sg db T) : count sg db ≤ 9 := by
  rw [← ringsD_len H]
  have h1 := List.length_filter_le (isNew fi sg db T) (List.range T)
  simp only [List.length_range] at h1
  have := H.hi
  simp only [ringsD, List.length_map]
  lia
theorem there_get (H : LP ro rt fi sg db T) {p : Nat} (hp : p < T) : ((oct (mir (List.range T) sg)).getD p 0).toNat = refl sg p := by
  have hS := H.sS
  have hhi := H.hi
  have hr : refl sg p < T := by have := refl_lt sg p (by lia); lia
  rw [oct_get]
  · rw [List.getD_eq_getElem?_getD, mir_get sg _ (by rw [List.length_range]; lia) p (by lia), List.getElem?_range hr]; rfl
  · intro n hn
    have := List.mem_range.mp (mir_mem sg _ (by rw [List.length_range]; lia) n hn)
    lia
end
section
variable {prog : Program} {w : World} {A : Around} {mg mb : Str → Option Value} {sb : Shared} {G : Addr → Prop} {sa : Shared} {L a : Addr} {cd : Value}
variable {ro rt fi sg db : List Nat} {T : Nat}
set_option maxHeartbeats 8000000 in
theorem law6 {n : Nat} {s0 : Shared} {Q : Flow → Shared → Prop} (oA : OkA (n + 2) A) (Tg : Gd mg mb sb.heap) (H : LP ro rt fi sg db T)
    (S0 : Sta sb G (lEnv L a cd) (fun _ => False) sa (fV ro rt fi sg db T) s0)
    (next : ∀ s', Sta sb G (lEnv L a cd) (fun _ => False) sa (fV ro rt fi sg db T) s' → wpN (model prog w) A (execs ((theDef 9).body.drop 22) (lEnv L a cd)) Q (fun _ _ => False) s') :
    wpN (model prog w) A (execs ((theDef 9).body.drop 20) (lEnv L a cd)) Q (fun _ _ => False) s0 := by
  have hlo := H.lo
  have hhi := H.hi
  have hS := H.sS
  have T0 := Tg.sub S0.keep
  obtain ⟨a5, c5, g5, F5⟩ := T0.at (i := 5)
  obtain ⟨o5, pm5, doc5, ho5, hf5⟩ := F5.obj
  refine wpN_execs_cons (stN_if (b := false) (Tr.n (tr_cast (tr_cmp' (ev_len_list (T0.blt (x := "len") boot_len).lk (ev_has (S0.has (x := "rings") (d := .list (ringsD fi sg db T)) (by with_unfolding_all rfl))) (ringsD_len H) (by have := count_le H; lia))
    (ev_call_fn (T0.glob g5).lk ho5 hf5 (evl_cons (ev_has (S0.has (x := "single") (d := .list (iL sg)) (by with_unfolding_all rfl))) (evl_one (ev_has (S0.has (x := "double") (d := .list (iL db)) (by with_unfolding_all rfl))))) (ct_count oA T0 F5 sg db ⟨H.pS, H.pD, hS.trans H.sD.symm⟩ (by lia))) (op_ne _ _)) (by simp))) (fun s1 k1 hb => Bool.noConfusion hb) fun s1 k1 _ => wpN_of (wpAny_execs_nil ?_))
  have S1 := S0.kp k1
  have T1 := Tg.sub S1.keep
  refine wpN_execs_cons (staN_for (d := .range 0 ((T : Nat) : Int) 1) (ds := (List.range T).map fun (k : Nat) => D.int k) (fun i => fV ro rt fi sg db T) (fun i s => True) S1
    (ev_range1 (T1.blt (x := "range") boot_range).lk (ev_has (S1.has (x := "total") (d := .int (T : Nat)) (by with_unfolding_all rfl)))) (fun P s v r => src_range1 oA.handled (by lia) r) ?V0 (fun _ _ => trivial) (fun _ _ _ _ _ _ _ => trivial) (fun _ _ _ _ _ => trivial)
    (fun G' p di s2 hdi hG kx2 S2 _ => ?turn) fun s2 S2 _ => ?done)
  case V0 =>
    intro p hp
    simp only [List.mem_cons, List.not_mem_nil, or_false] at hp
    rcases hp with rfl | rfl | rfl | rfl | rfl | rfl | rfl | rfl | rfl | rfl | rfl | rfl | rfl <;> with_unfolding_all rfl
  case done =>
    refine next s2 (S2.weak ?_)
    intro p hp
    simp only [List.mem_cons, List.not_mem_nil, or_false] at hp
    rcases hp with rfl | rfl | rfl | rfl | rfl | rfl | rfl | rfl | rfl | rfl | rfl | rfl | rfl <;> with_unfolding_all rfl
  case turn =>
    obtain ⟨hp, rfl⟩ := range_at hdi
    have hr : refl sg p < T := by have := refl_lt sg p (by lia); lia
    have hse := S2.has (x := "seen") (d := .list (seenD fi sg db T)) (by with_unfolding_all rfl)
    have hpl := S2.has (x := "place") (d := .int (p : Nat)) (by with_unfolding_all rfl)
    have hth := S2.has (x := "there") (d := .bytes (oct (mir (List.range T) sg))) (by with_unfolding_all rfl)
    have hml : (oct (mir (List.range T) sg)).length = T := by rw [oct_len, mir_len _ _ (by rw [List.length_range]; lia), hS]
    refine wpN_execs_cons (wpN_of (st_assign (d := .int ((if seenAt fi sg db T (refl sg p) == seenAt fi sg db T p then 2 else 0 : Nat) : Int)) S2 (ev_ifexp (b := seenAt fi sg db T (refl sg p) == seenAt fi sg db T p) (tr_cmp' (ev_nth (ev_has hse) (ev_cast (ev_itemB (i := p) (bsrc_bytes s2.heap _ (by rw [hml]; lia)) (.refl _) (ev_has hth) (ev_has hpl) (by rw [hml]; lia) (by intro _ _; with_unfolding_all rfl)) (by rw [there_get H hp])) (seenD_get hr) (by lia)) (ev_nth (ev_has hse) (ev_has hpl) (seenD_get hp) (by lia)) (op_eq_nats oA _ _)) (fun hb => ?_) (fun hb => ?_)) fun s3 _ S3 => ?_))
    · rw [if_pos hb]; exact ev_int _ _ _
    · rw [if_neg (by rw [hb]; decide)]; exact ev_int _ _ _
    have T3 := Tg.sub S3.keep
    have hse3 := S3.has (x := "seen") (d := .list (seenD fi sg db T)) (by with_unfolding_all rfl)
    have hpl3 := S3.has (x := "place") (d := .int (p : Nat)) (by with_unfolding_all rfl)
    have hcnt := mids_count H.fl hS H.sD hhi H.fa hp
    refine wpN_execs_cons (stN_if (b := false) (Tr.n (tr_cast (tr_cmp' (ev_len_list (m := ((midsL sg db).filter fun m => seenAt fi sg db T m == seenAt fi sg db T p).length) (T3.blt (x := "len") boot_len).lk (ev_cast (ev_comp (ds := iL (midsL sg db)) (d := .list (iL (midsL sg db))) scOk_of (fun i => seenAt fi sg db T ((midsL sg db).getD i 0) == seenAt fi sg db T p) (fun i => .int ((midsL sg db).getD i 0 : Nat))
      (ev_has (S3.has (x := "middles") (d := .list (iL (midsL sg db))) (by with_unfolding_all rfl))) (fun P s v r => src_list oA.handled r) (fun b e => e.2) (by rw [iL_len]; have := midsL_len H; lia) (fun K C h' i di v hk lk hdi rv => ?body)) (?cast : _ = D.list (iL ((midsL sg db).filter fun m => seenAt fi sg db T m == seenAt fi sg db T p)))) (iL_len _) ?len) (ev_has (S3.has (x := "due") (by with_unfolding_all rfl))) (op_ne _ _)) ?eq)) (fun s4 k4 hb => Bool.noConfusion hb) fun s4 k4 _ => wpN_of (wpAny_execs_nil ?_))
    case body =>
      have hi : i < (midsL sg db).length := by
        have := (List.getElem?_eq_some_iff.mp hdi).1
        rw [iL_len] at this; exact this
      have hdi' : di = .int ((midsL sg db).getD i 0 : Nat) := by
        rw [iL_at hi] at hdi; exact (Option.some.inj hdi).symm
      subst hdi'
      have hm : (midsL sg db).getD i 0 < T := H.mids _ (by rw [List.getD_eq_getElem?_getD, List.getElem?_eq_getElem hi]; exact List.getElem_mem hi)
      have hse' := (hse3.sub hk).free (C := C) K
      have hpl' := (hpl3.sub hk).free (C := C) K
      exact ⟨trL_one (tr_cmp' (ev_nth (ev_has hse') ((ev_name lk rv).flat rfl) (seenD_get hm) (by lia)) (ev_nth (ev_has hse') (ev_has hpl') (seenD_get hp) (by lia)) (op_eq_nats oA _ _)), fun _ => (ev_name lk rv).flat rfl⟩
    case cast =>
      have := comp_list 0 (fun m => seenAt fi sg db T m == seenAt fi sg db T p) (fun (n : Nat) => D.int n) (midsL sg db)
      rw [iL_len, this]; rfl
    case len =>
      have h1 := List.length_filter_le (fun m => seenAt fi sg db T m == seenAt fi sg db T p) (midsL sg db)
      have := midsL_len H
      lia
    case eq =>
      have hcnt' : ((midsL sg db).filter fun m => seenAt fi sg db T m == seenAt fi sg db T p).length = if seenAt fi sg db T (refl sg p) == seenAt fi sg db T p then 2 else 0 := hcnt
      rw [hcnt']; simp
    refine wpN_of (wpAny_execs_nil ⟨(S3.kp k4).weak ?_, trivial⟩)
    intro p hp
    simp only [List.mem_cons, List.not_mem_nil, or_false] at hp
    rcases hp with rfl | rfl | rfl | rfl | rfl | rfl | rfl | rfl | rfl | rfl | rfl | rfl | rfl <;> with_unfolding_all rfl
end
end Mine
end
noncomputable section
open PySem PySem.W PyProof.Rows
open PySem.Sem (wp)
set_option Elab.async false
set_option autoImplicit false
set_option linter.unusedVariables false
set_option linter.unusedSimpArgs false
set_option maxRecDepth 4000
namespace Mine
section
variable {prog : Program} {w : World} {A : Around} {env : Env} {P : Addr → Prop} {h : Heap}
theorem trN_cast {e : Expr} {b b' : Bool} (x : TrN prog w A env h e b) (hb : b = b') : TrN prog w A env h e b' := hb ▸ x
theorem op_ne_flat {n : Nat} (oA : OkA n A) (d : D) (hd : (∃ x, d = .str x ∧ PyData.strOk x = true) ∨ (∃ x, d = .bytes x)) : Op2 prog w A (compareOp .NotEq) d d (.bool false) := by
  rcases hd with ⟨x, rfl, hx⟩ | ⟨x, rfl⟩
  · have := op_neD (prog := prog) (w := w) oA (d1 := .str x) (d2 := .str x) hx hx (by simp [D.py, PyData.depth])
    have e : PyData.eqv (D.str x).py (D.str x).py = true := by simp [D.py, PyData.eqv]
    rw [e] at this
    exact this
  · have := op_ne_bytes (prog := prog) (w := w) (A := A) x x
    have e : (x != x) = false := by simp
    rw [e] at this
    exact this
end
section
variable {prog : Program} {w : World} {A : Around} {mg mb : Str → Option Value} {sb : Shared} {G : Addr → Prop} {sa : Shared} {L a : Addr} {cd : Value}
variable {ro rt fi sg db : List Nat} {T : Nat}
set_option maxHeartbeats 8000000 in
theorem law7 {n : Nat} {s0 : Shared} {Q : Flow → Shared → Prop} (oA : OkA (n + 2) A) (Tg : Gd mg mb sb.heap) (H : LP ro rt fi sg db T)
    (S0 : Sta sb G (lEnv L a cd) (fun _ => False) sa (fV ro rt fi sg db T) s0)
    (next : ∀ s', Sta sb G (lEnv L a cd) (fun _ => False) sa (fV ro rt fi sg db T) s' → wpN (model prog w) A (execs ((theDef 9).body.drop 23) (lEnv L a cd)) Q (fun _ _ => False) s') :
    wpN (model prog w) A (execs ((theDef 9).body.drop 22) (lEnv L a cd)) Q (fun _ _ => False) s0 := by
  have hlo := H.lo
  have hhi := H.hi
  have hS := H.sS
  have T0 := Tg.sub S0.keep
  obtain ⟨a7, c7, g7, F7⟩ := T0.at (i := 7)
  obtain ⟨o7, pm7, doc7, ho7, hf7⟩ := F7.obj
  have hm : (mir (List.range T) sg).length = T := by rw [mir_len _ _ (by rw [List.length_range]; lia), hS]
  have c1 : CtN prog w A s0.heap (.ref a7) [.bytes (oct (mir (List.range T) sg)), .list (iL ro)] (.bytes (oct (List.range T))) := by
    have := ctN_turned (prog := prog) (w := w) oA T0 F7 (oct (mir (List.range T) sg)) ro (by rw [oct_len, hm]; lia) (by rw [oct_len, hm]; lia) (by have := H.r1; lia) H.s1
    rw [oct_len, hm, H.e1, oct_mir (by rw [hm]; lia), mir_twice (by rw [List.length_range]; lia)] at this
    exact this
  have hb : bD (oct (lineK fi sg db T)) = iL (lineK fi sg db T) := bD_oct fun n hn => H.fb n (lineK_mem H.fl H.sS H.sD T n hn)
  refine wpN_execs_cons (stN_if (b := false) (trN_or2
    (Tr.n (tr_cast (tr_cmp' (ev_cast (ev_call_ty (T0.blt (x := "list") PyProof.Rows.Boot.«list»).lk (evl_one (ev_last (ev_has (S0.has (x := "lines") (d := .list (linesD fi sg db (T + 1))) (by with_unfolding_all rfl))) (ev_neg (ev_int _ _ _)) (linesD_last fi sg db T))) (ct_list_bytes oA.handled _ (by rw [oct_len, H.line]; lia))) (congrArg D.list hb))
      (ev_has (S0.has (x := "plain") (d := .list (iL (lineK fi sg db T))) (by with_unfolding_all rfl))) (op_ne_nats oA _ _)) (by simp)))
    (trN_cast (trN_cmp (evN_call_fn (T0.glob g7).lk ho7 hf7 (evlN_cons (ev_has (S0.has (x := "there") (d := .bytes (oct (mir (List.range T) sg))) (by with_unfolding_all rfl))).n (evlN_one (ev_has (S0.has (x := "one") (d := .list (iL ro)) (by with_unfolding_all rfl))).n)) c1)
      (ev_has (S0.has (x := "places") (d := .bytes (oct (List.range T))) (by with_unfolding_all rfl))).n (op_ne_bytes _ _)) (by simp)))
    (fun s1 k1 hb => Bool.noConfusion hb) fun s1 k1 _ => wpN_of (wpAny_execs_nil ?_))
  exact next s1 (S0.kp k1)
/-- What is due at a width. -/
theorem due_is (H : LP ro rt fi sg db T) (wd : Nat) (hw : wd ≤ T) : swD (oct fi) wd = if wd = 0 then .str "width" else if T % wd = 0 then .bytes (mir (oct fi) (sizesOf [wd, 0] T)) else .str "rest" := by
  unfold swD
  rw [oct_len, H.fl]
  by_cases h0 : wd = 0
  · rw [if_pos h0, if_pos h0]
  · rw [if_neg h0, if_neg h0]
    by_cases hm : T % wd = 0
    · rw [if_pos hm, if_pos hm, laid_mir (by rw [oct_len, H.fl]) H.lo H.hi (by lia) hw hm]
    · rw [if_neg hm, if_neg hm]
theorem swD_flat (x : List UInt8) (wd : Nat) : ((∃ y, swD x wd = .str y ∧ PyData.strOk y = true) ∨ (∃ y, swD x wd = .bytes y)) ∧ (swD x wd).flat = true := by
  unfold swD
  split
  · exact ⟨.inl ⟨_, rfl, by decide +kernel⟩, rfl⟩
  · split
    · exact ⟨.inr ⟨_, rfl⟩, rfl⟩
    · exact ⟨.inl ⟨_, rfl, by decide +kernel⟩, rfl⟩
theorem stop_width {wd : Nat} (h0 : wd ≠ 0) (h9 : wd ≤ 9) : 1 ≤ stopOf [wd, 0] := by
  have h : isEnd wd = false := by
    unfold isEnd
    rw [Bool.or_eq_false_iff, beq_eq_false_iff_ne, beq_eq_false_iff_ne]
    lia
  unfold stopOf
  rw [List.findIdx_cons, h]
  simp
end
end Mine
end
noncomputable section
open PySem PySem.W PyProof.Rows
open PySem.Sem (wp)
set_option Elab.async false
set_option autoImplicit false
set_option linter.unusedVariables false
set_option linter.unusedSimpArgs false
set_option maxRecDepth 4000
namespace Mine
theorem linesD_first (fi sg db : List Nat) (m : Nat) : (linesD fi sg db (m + 1))[0]? = some (.bytes (oct fi)) := by
  unfold linesD
  rw [List.getElem?_map, List.getElem?_range (by lia)]; rfl
section
variable {prog : Program} {w : World} {A : Around} {mg mb : Str → Option Value} {sb : Shared} {G : Addr → Prop} {sa : Shared} {L a : Addr} {cd : Value}
variable {ro rt fi sg db : List Nat} {T : Nat}
set_option maxHeartbeats 8000000 in
theorem law8 {n : Nat} {s0 : Shared} {Q : Flow → Shared → Prop} (oA : OkA (n + 2) A) (hfr : A.frames = some [lEnv L a cd]) (Tg : Gd mg mb sb.heap) (H : LP ro rt fi sg db T)
    (S0 : Sta sb G (lEnv L a cd) (fun _ => False) sa (fV ro rt fi sg db T) s0)
    (next : ∀ s', Sta sb G (lEnv L a cd) (fun _ => False) sa (fV ro rt fi sg db T) s' → wpN (model prog w) A (execs ((theDef 9).body.drop 24) (lEnv L a cd)) Q (fun _ _ => False) s') :
    wpN (model prog w) A (execs ((theDef 9).body.drop 23) (lEnv L a cd)) Q (fun _ _ => False) s0 := by
  have hlo := H.lo
  have hhi := H.hi
  have hS := H.sS
  have T0 := Tg.sub S0.keep
  have hfl : (lEnv L a cd).frame = some (lEnv L a cd).locals := rfl
  refine wpN_execs_cons (staN_for (d := .range 0 ((T + 1 : Nat) : Int) 1) (ds := (List.range (T + 1)).map fun (k : Nat) => D.int k) (fun i => fV ro rt fi sg db T) (fun i s => True) S0
    (ev_range1 (T0.blt (x := "range") boot_range).lk (ev_addN (ev_has (S0.has (x := "total") (d := .int (T : Nat)) (by with_unfolding_all rfl))) (ev_int ((1 : Nat) : Int) _ _))) (fun P s v r => src_range1 oA.handled (by lia) r) ?V0 (fun _ _ => trivial) (fun _ _ _ _ _ _ _ => trivial) (fun _ _ _ _ _ => trivial)
    (fun G' wd di s2 hdi hG kx2 S2 _ => ?turn) fun s2 S2 _ => ?done)
  case V0 =>
    intro p hp
    simp only [List.mem_cons, List.not_mem_nil, or_false] at hp
    rcases hp with rfl | rfl | rfl | rfl | rfl | rfl | rfl | rfl | rfl | rfl | rfl | rfl | rfl <;> with_unfolding_all rfl
  case done =>
    refine next s2 (S2.weak ?_)
    intro p hp
    simp only [List.mem_cons, List.not_mem_nil, or_false] at hp
    rcases hp with rfl | rfl | rfl | rfl | rfl | rfl | rfl | rfl | rfl | rfl | rfl | rfl | rfl <;> with_unfolding_all rfl
  case turn =>
    obtain ⟨hwT, rfl⟩ := range_at hdi
    have T2 := Tg.sub S2.keep
    obtain ⟨a7, c7, g7, F7⟩ := T2.at (i := 7)
    obtain ⟨o7, pm7, doc7, ho7, hf7⟩ := F7.obj
    have hwi := S2.has (x := "width") (d := .int (wd : Nat)) (by with_unfolding_all rfl)
    have hto := S2.has (x := "total") (d := .int (T : Nat)) (by with_unfolding_all rfl)
    have hli := S2.has (x := "lines") (d := .list (linesD fi sg db (T + 1))) (by with_unfolding_all rfl)
    have hdu := due_is H wd (by lia)
    have hfo : (oct fi).length = T := by rw [oct_len, H.fl]
    refine wpN_execs_cons (stN_assign (d := swD (oct fi) wd) S2 (evN_ifexp (b := decide (wd = 0)) (tr_cast (tr_cmp' (ev_has hwi) (ev_int ((0 : Nat) : Int) _ _) (op_eq _ _)) ?t1) (fun hb => ?v1) fun hb => evN_ifexp (b := decide (0 < T % wd)) (tr_cast (tr_cmp' (ev_modN (ev_has hto) (ev_has hwi) ?nz) (ev_int ((0 : Nat) : Int) _ _) (op_gt _ _)) ?t2) (fun hb2 => ?v2) fun hb2 => ?v3) fun s3 _ S3 => ?_)
    case t1 => rw [Bool.eq_iff_iff]; simp only [beq_iff_eq, decide_eq_true_eq]; lia
    case v1 =>
      rw [hdu, if_pos (of_decide_eq_true hb)]
      exact (ev_str _ _ _).n
    case nz => exact of_decide_eq_false hb
    case t2 => rw [Bool.eq_iff_iff]; simp only [decide_eq_true_eq]; lia
    case v2 =>
      have h1 := of_decide_eq_false hb
      have h2 := of_decide_eq_true hb2
      rw [hdu, if_neg h1, if_neg (by lia)]
      exact (ev_str _ _ _).n
    case v3 =>
      have h1 := of_decide_eq_false hb
      have h2 := of_decide_eq_false hb2
      rw [hdu, if_neg h1, if_pos (by lia)]
      have c1 := ctN_turned (prog := prog) (w := w) oA T2 F7 (oct fi) [wd, 0] (by lia) (by lia) (by simp) (stop_width h1 (by lia))
      rw [hfo] at c1
      exact evN_call_fn (T2.glob g7).lk ho7 hf7 (evlN_cons (ev_nth (ev_has hli) (ev_int ((0 : Nat) : Int) _ _) (linesD_first fi sg db T) (by lia)).n (evlN_one (ev_list (evl_cons (ev_has hwi) (evl_one (ev_int ((0 : Nat) : Int) _ _)))).n)) c1
    have T3 := Tg.sub S3.keep
    obtain ⟨a8, c8, g8, F8⟩ := Tg.at (i := 8)
    obtain ⟨o8, pm8, doc8, ho8, hf8⟩ := F8.obj
    have hli3 := S3.has (x := "lines") (d := .list (linesD fi sg db (T + 1))) (by with_unfolding_all rfl)
    have hwi3 := S3.has (x := "width") (d := .int (wd : Nat)) (by with_unfolding_all rfl)
    refine wpN_execs_cons (wpN_If (wpN_isTrue_cmp (evN_call_gen (T3.glob g8).lk (S3.keep _ _ ho8) hf8 (evlN_cons (ev_nth (ev_has hli3) (ev_int ((0 : Nat) : Int) _ _) (linesD_first fi sg db T) (by lia)).n (evlN_one (ev_has hwi3).n)) fun vs s4 k4 r4 => ?_)))
    have S4 := S3.kp k4
    refine ctF_swapped oA hfr Tg F8 (oct fi) wd (by lia) (by lia) _ s4 vs S4.keep r4 (S4.funFrames hfl (.refl _)) _ _ fun v s5 k5 r5 => ?_
    have S5 := S4.kf k5 hfl
    refine (ev_has (S5.has (x := "due") (d := swD (oct fi) wd) (by with_unfolding_all rfl))).n s5 (.refl _) _ _ fun v2 s6 k6 r6 => ?_
    have S6 := S5.kp k6
    refine op_ne_flat oA (swD (oct fi) wd) (swD_flat _ _).1 All s6 v v2 (r5.sub k6.keep) (r6.flat (swD_flat _ _).2) _ _ fun v3 s7 k7 r7 => ?_
    rw [rd_bool.mp r7]
    refine wpAny_truthy_bool ?_
    rw [if_neg Bool.false_ne_true]
    refine wpN_of (wpAny_execs_nil (wpN_of (wpAny_execs_nil ⟨(S6.kp k7).weak ?_, trivial⟩)))
    intro p hp
    simp only [List.mem_cons, List.not_mem_nil, or_false] at hp
    rcases hp with rfl | rfl | rfl | rfl | rfl | rfl | rfl | rfl | rfl | rfl | rfl | rfl | rfl <;> with_unfolding_all rfl
end
end Mine
end
noncomputable section
open PySem PySem.W PyProof.Rows
open PySem.Sem (wp)
set_option Elab.async false
set_option autoImplicit false
set_option linter.unusedVariables false
set_option linter.unusedSimpArgs false
set_option maxRecDepth 4000
namespace Mine
section
variable {prog : Program} {w : World} {A : Around} {env : Env} {P : Addr → Prop} {h : Heap}
theorem tr_call {f : Expr} {es : List Expr} {ks : List Keyword} {pos : Pos} {b : Bool} (x : Ev prog w A env All h (.Call f es ks pos) (.bool b)) : Tr prog w A env h (.Call f es ks pos) b := fun s hs Q E hQ =>
  wpAny_isTrue_value (x s hs _ _ fun v s' k r => by
    rw [rd_bool.mp r]
    exact wpAny_truthy_bool (hQ s' k))
end
section
variable {prog : Program} {w : World} {A : Around} {mg mb : Str → Option Value} {sb : Shared} {G : Addr → Prop} {sa : Shared} {L a : Addr} {cd : Value}
variable {ro rt fi sg db : List Nat} {T : Nat}
set_option maxHeartbeats 8000000 in
theorem law9 {n : Nat} {s0 : Shared} {Q : Flow → Shared → Prop} (oA : OkA (n + 2) A) (Tg : Gd mg mb sb.heap) (H : LP ro rt fi sg db T)
    (S0 : Sta sb G (lEnv L a cd) (fun _ => False) sa (fV ro rt fi sg db T) s0)
    (next : ∀ s' B, Sta sb G (lEnv L a cd) (fun b => False ∨ b = B) sa (fV ro rt fi sg db T) s' → sa.heap.get? B = none → wpN (model prog w) A (execs ((theDef 9).body.drop 27) (lEnv L a cd)) Q (fun _ _ => False) s') :
    wpN (model prog w) A (execs ((theDef 9).body.drop 24) (lEnv L a cd)) Q (fun _ _ => False) s0 := by
  have hlo := H.lo
  have hhi := H.hi
  have T0 := Tg.sub S0.keep
  have hfo : (oct fi).length = T := by rw [oct_len, H.fl]
  refine wpN_execs_cons (wpN_Assign_Name (wpN_call_ty (T0.blt (x := "bytearray") PyProof.Rows.Boot.«bytearray»).lk (.refl _) (evl_one (ev_cast (ev_has (S0.has (x := "first") (d := .list (iL fi)) (by with_unfolding_all rfl))) (congrArg D.list (iL_int fi)))) fun vs s1 k1 r1 => ?_))
  obtain ⟨v, q, rfl, r1, r2⟩ := rdL_cons.mp r1
  rw [rdL_nil.mp r2]
  obtain ⟨l, us, rfl, _, hl, q1⟩ := rd_list.mp r1
  refine call_ba_list (ns := fi.map fun (n : Nat) => (n : Int)) oA.guards hl q1.ints ?rng (by rw [List.length_map]; have := H.fl; lia) fun h2 hs2 b2 => ?_
  case rng =>
    intro x hx
    obtain ⟨y, hy, rfl⟩ := List.mem_map.mp hx
    have := H.fb y hy
    lia
  have e2 : ((fi.map fun (n : Nat) => (n : Int)).map fun n => n.toNat.toUInt8) = oct fi := by simp [oct]
  rw [e2] at b2
  generalize hB : s1.heap.objs.size = B at *
  have kk : Kp s0 { s1 with heap := h2 } := k1.trans (Kp.heap (t := s1.toks) hs2)
  have hBn : s0.heap.get? B = none := by rw [← hB]; exact none_of_kp k1 (get_size _)
  refine (S0.grow kk hBn ⟨_, b2⟩).store (d := .addr B) (rd_addr.mpr rfl) (.inl (by with_unfolding_all rfl)) (by decide) fun s3 k3 S3 => ?_
  have hBX : ¬ FrA (lEnv L a cd) B := fun z => S0.notX hBn (.inl z)
  have b3 : BA s3.heap B (oct fi) := k3.keep B _ hBX b2
  have hsa : sa.heap.get? B = none := S0.kx.live B hBn
  have T3 := Tg.sub S3.keep
  obtain ⟨a0, c0, g0, F0⟩ := T3.at (i := 0)
  obtain ⟨o0, pm0, doc0, ho0, hf0⟩ := F0.obj
  have c1 : CtN prog w A s3.heap (.ref a0) [.addr B, .int (T : Nat)] (.bytes (oct fi).reverse) := by
    have := ctN_byteswap (prog := prog) (w := w) oA T3 F0 (bsrc_ba b3 (by lia)) T 1 (by lia) (by lia) (by lia) (by lia)
    have e := laid_rev (x := oct fi) (by lia)
    rw [hfo] at e
    rw [e] at this
    exact this
  refine wpN_execs_cons (stN_assign (d := .bytes (oct fi).reverse) S3 (evN_call_fn (T3.glob g0).lk ho0 hf0 (evlN_cons (ev_has (S3.has (x := "loose") (d := .addr B) (by with_unfolding_all rfl))).n (evlN_one (ev_has (S3.has (x := "total") (d := .int (T : Nat)) (by with_unfolding_all rfl))).n)) c1) fun s4 k4 S4 => ?_)
  have b4 : BA s4.heap B (oct fi) := k4.keep B _ hBX b3
  have T4 := Tg.sub S4.keep
  have hwh := S4.has (x := "whole") (d := .bytes (oct fi).reverse) (by with_unfolding_all rfl)
  have hfi := S4.has (x := "first") (d := .list (iL fi)) (by with_unfolding_all rfl)
  have hlo4 := S4.has (x := "loose") (d := .addr B) (by with_unfolding_all rfl)
  have er : bD (oct fi).reverse = iL fi.reverse := by
    have : (oct fi).reverse = oct fi.reverse := by simp [oct]
    rw [this]
    exact bD_oct fun n hn => H.fb n (List.mem_reverse.mp hn)
  have ef : bD (oct fi) = iL fi := bD_oct H.fb
  have llist := (T4.blt (x := "list") (env := lEnv L a cd) PyProof.Rows.Boot.«list»).lk
  refine wpN_execs_cons (stN_if (b := false) (trN_or3
    (Tr.n (tr_not (b := true) (tr_call (ev_isinst_bytes (T4.blt (x := "isinstance") PyProof.Rows.Boot.«isinstance»).lk (T4.blt (x := "bytes") PyProof.Rows.Boot.«bytes»).lk ((ev_has hwh).flat rfl)))))
    (Tr.n (tr_cast (tr_cmp' (ev_cast (ev_call_ty llist (evl_one (ev_has hwh)) (ct_list_bytes oA.handled _ (by rw [List.length_reverse]; lia))) (congrArg D.list er)) (ev_cast (ev_slice_list (ev_has hfi) .none .none (.some (ev_neg (ev_int _ _ _))) (by decide) (by rw [iL_len]; have := H.fl; lia)) (by rw [iL_pick, pick_rev])) (op_ne_nats oA _ _)) (by simp)))
    (Tr.n (tr_cast (tr_cmp' (ev_cast (ev_call_ty llist (evl_one (ev_has hlo4)) (ct_list_ba oA.handled b4 (by lia))) (congrArg D.list ef)) (ev_has hfi) (op_ne_nats oA _ _)) (by simp))))
    (fun s5 k5 hb => Bool.noConfusion hb) fun s5 k5 _ => wpN_of (wpAny_execs_nil ?_))
  refine next s5 B ((S4.kp k5).weak ?_) hsa
  intro p hp
  simp only [List.mem_cons, List.not_mem_nil, or_false] at hp
  rcases hp with rfl | rfl | rfl | rfl | rfl | rfl | rfl | rfl | rfl | rfl | rfl | rfl | rfl <;> with_unfolding_all rfl
end
end Mine
end
noncomputable section
open PySem PySem.W PyProof.Rows
open PySem.Sem (wp)
set_option Elab.async false
set_option autoImplicit false
set_option linter.unusedVariables false
set_option linter.unusedSimpArgs false
set_option maxRecDepth 4000
namespace Mine
section
variable {prog : Program} {w : World} {A : Around} {mg mb : Str → Option Value} {sb : Shared} {G : Addr → Prop} {sa : Shared} {L a : Addr} {cd : Value}
variable {ro rt fi sg db : List Nat} {T : Nat}
theorem op_ne_inv {n : Nat} (oA : OkA n A) : Op2 prog w A (compareOp .NotEq) (.list [.str "invalid grouping"]) (.list [.str "invalid grouping"]) (.bool false) := by
  have hp : (D.list [.str "invalid grouping"]).plain = true := by
    have : PyData.strOk "invalid grouping" = true := by decide +kernel
    show (PyData.strOk "invalid grouping" && true) = true
    rw [this]; rfl
  have := op_neD (prog := prog) (w := w) oA hp hp (by decide +kernel)
  have e : PyData.eqv (D.list [.str "invalid grouping"]).py (D.list [.str "invalid grouping"]).py = true := by decide +kernel
  rw [e] at this
  exact this
set_option maxHeartbeats 8000000 in
theorem law10 {n : Nat} {s0 : Shared} {P0 : Addr → Prop} (oA : OkA (n + 2) A) (hfr : A.frames = some [lEnv L a cd]) (Tg : Gd mg mb sb.heap) (H : LP ro rt fi sg db T)
    (S0 : Sta sb G (lEnv L a cd) (fun _ => False) sa (fV ro rt fi sg db T) s0) (k0 : Kp sb sa) (hG : ∀ b, G b → Nw P0 sb b) :
    wpN (model prog w) A (execs ((theDef 9).body.drop 27) (lEnv L a cd)) (Ret sb P0 (.bool true)) (fun _ _ => False) s0 := by
  have hlo := H.lo
  have hhi := H.hi
  have hr1 := H.r1
  have hr2 := H.r2
  have T0 := Tg.sub S0.keep
  have hfl : (lEnv L a cd).frame = some (lEnv L a cd).locals := rfl
  obtain ⟨a6, c6, g6, F6⟩ := Tg.at (i := 6)
  obtain ⟨o6, pm6, doc6, ho6, hf6⟩ := F6.obj
  have hone := S0.has (x := "one") (d := .list (iL ro)) (by with_unfolding_all rfl)
  refine wpN_execs_cons (wpN_If ?_)
  rw [arm_isTrue_BoolOp]
  refine wpN_bind (m := isTrue _ _ _) (wpN_isTrue_cmp (evN_call_gen (T0.glob g6).lk (S0.keep _ _ ho6) hf6 (evlN_cons (ev_cast (ev_bin (ev_list (evl_one (ev_int ((0 : Nat) : Int) _ _))) (ev_has hone) (op_cat _ _ (by rw [iL_len]; simp only [List.length_cons, List.length_nil]; lia))) (rfl : _ = D.list (iL (0 :: ro)))).n (evlN_one (ev_int ((1 : Nat) : Int) _ _).n)) fun vs s1 k1 r1 => ?_))
  have S1 := S0.kp k1
  refine ctF_front_zero oA hfr Tg F6 (0 :: ro) 1 (by simp only [List.length_cons]; lia) rfl _ s1 vs S1.keep r1 (S1.funFrames hfl (.refl _)) _ _ fun v s2 k2 r2 => ?_
  have S2 := S1.kf k2 hfl
  refine (ev_list (prog := prog) (w := w) (A := A) (P := All) (h := s2.heap) (evl_one (ev_str _ _ _))).n s2 (.refl _) _ _ fun v2 s3 k3 r3 => ?_
  have S3 := S2.kp k3
  refine op_ne_inv oA All s3 v v2 (r2.sub k3.keep) (r3.mono fun _ _ => trivial) _ _ fun v3 s4 k4 r4 => ?_
  rw [rd_bool.mp r4]
  refine wpAny_truthy_bool ?_
  have S4 := S3.kp k4
  have T4 := Tg.sub S4.keep
  have F6' := F6.sub S4.keep
  have ho6' := S4.keep _ _ ho6
  have two4 := S4.has (x := "two") (d := .list (iL rt)) (by with_unfolding_all rfl)
  have cf2 : Ct prog w A s4.heap (.ref a6) [.list (iL (127 :: rt)), .int (1 : Nat)] (.list (iL [])) :=
    ct_front oA T4 F6' (127 :: rt) [] 1 (by simp only [List.length_cons]; lia) (by simp) (by lia) (by lia) (by simp) fun i hi => by
      have : stopOf (127 :: rt) = 0 := by unfold stopOf; rw [List.findIdx_cons]; rfl
      unfold gout
      rw [this]; simp
  show wpN _ A (do match BoolOp.Or, ← isTrue _ _ (eval _ _) with | .And, false => pure false | .Or, true => pure true | _, _ => allTrue .Or [] (lEnv L a cd)) _ _ s4
  refine wpN_bind ((Tr.n (tr_cast (tr_cmp' (ev_call_fn (T4.glob g6).lk ho6' hf6 (evl_cons (ev_cast (ev_bin (ev_list (evl_one (ev_int ((127 : Nat) : Int) _ _))) (ev_has two4) (op_cat _ _ (by rw [iL_len]; simp only [List.length_cons, List.length_nil]; lia))) (rfl : _ = D.list (iL (127 :: rt)))) (evl_one (ev_int ((1 : Nat) : Int) _ _))) cf2) (ev_list .nil) (op_ne_nats oA [] [])) (rfl : _ = false))) s4 (.refl _) _ _ fun s5 k5 => ?_)
  refine wpN_pure ?_
  rw [if_neg (show ¬ (BoolOp.Or == BoolOp.And) = true by decide)]
  refine wpN_of (wpAny_execs_nil ?_)
  have S5 := S4.kp k5
  have T5 := Tg.sub S5.keep
  have F65 := F6.sub S5.keep
  have ho65 := S5.keep _ _ ho6
  obtain ⟨a2, c2, g2, F2⟩ := T5.at (i := 2)
  obtain ⟨o2, pm2, doc2, ho2, hf2⟩ := F2.obj
  have tot5 := S5.has (x := "total") (d := .int (T : Nat)) (by with_unfolding_all rfl)
  have one5 := S5.has (x := "one") (d := .list (iL ro)) (by with_unfolding_all rfl)
  have two5 := S5.has (x := "two") (d := .list (iL rt)) (by with_unfolding_all rfl)
  have q1 : Ct prog w A s5.heap (.ref a6) [.list (iL ro), .int (T : Nat)] (.list (iL (told ro T))) :=
    ct_front oA T5 F65 ro (told ro T) T (by lia) (head_ne H.s1) (by lia) (by lia) (told_len _ _) fun i hi => told_get H.s1 hi
  have q2 : Ct prog w A s5.heap (.ref a6) [.list (iL rt), .int (T : Nat)] (.list (iL (told rt T))) :=
    ct_front oA T5 F65 rt (told rt T) T (by lia) (head_ne H.s2) (by lia) (by lia) (told_len _ _) fun i hi => told_get H.s2 hi
  have q3 : Ct prog w A s5.heap (.ref a2) [.list (iL ro), .int (T : Nat)] (.list (iL (told ro T))) := ct_told oA T5 F2 ro T (by lia) (by lia) H.s1
  have q4 : Ct prog w A s5.heap (.ref a2) [.list (iL rt), .int (T : Nat)] (.list (iL (told rt T))) := ct_told oA T5 F2 rt T (by lia) (by lia) H.s2
  refine wpN_of (wpAny_execs_cons (st_return (P0 := P0) (d := .bool true) S5 k0 hG (ev_and2
    (ev_cast (ev_cmp (ev_call_fn (T5.glob g6).lk ho65 hf6 (evl_cons (ev_has one5) (evl_one (ev_has tot5))) q1) (ev_call_fn (T5.glob g2).lk ho2 hf2 (evl_cons (ev_has one5) (evl_one (ev_has tot5))) q3) (op_eq_nats oA _ _)) (by simp))
    (ev_cast (ev_cmp (ev_call_fn (T5.glob g6).lk ho65 hf6 (evl_cons (ev_has two5) (evl_one (ev_has tot5))) q2) (ev_call_fn (T5.glob g2).lk ho2 hf2 (evl_cons (ev_has two5) (evl_one (ev_has tot5))) q4) (op_eq_nats oA _ _)) (by simp))) fun v s6 r => r))
end
end Mine
end
noncomputable section
open PySem PySem.W PyProof.Rows
open PySem.Sem (wp)
set_option Elab.async false
set_option autoImplicit false
set_option linter.unusedVariables false
set_option linter.unusedSimpArgs false
set_option maxRecDepth 4000
namespace Mine
theorem lp_ok (up lo th : Nat) : LP (rowOf up) (rowOf lo) (firstOf th (totOf th)) (sizesOf (rowOf up) (totOf th)) (sizesOf (rowOf lo) (totOf th)) (totOf th) where
  lo := (tot_le th).1
  hi := (tot_le th).2
  r1 := Nat.le_trans (row_len _) (by decide)
  r2 := Nat.le_trans (row_len _) (by decide)
  s1 := row_stop _
  s2 := row_stop _
  e1 := rfl
  e2 := rfl
  fl := by simp [firstOf]
  fb := fun n hn => by
    unfold firstOf at hn
    obtain ⟨p, _, rfl⟩ := List.mem_map.mp hn
    exact Nat.mod_lt _ (by decide)
  fa := fun a b ha hb e => by
    have h9 := (tot_le th).2
    unfold firstOf at e
    rw [List.getElem?_map, List.getElem?_map, List.getElem?_range ha, List.getElem?_range hb] at e
    have e := Option.some.inj e
    exact first_apart (th / 1280 % 128) rfl (by lia) (by lia) e
section
variable {prog : Program} {w : World} {A : Around} {mg mb : Str → Option Value} {h : Heap} {a : Addr} {cd : Value}
set_option maxHeartbeats 8000000 in
theorem ctN_law {n : Nat} (oA : OkA (n + 3) A) (hfr : A.frames = some []) (T : Gd mg mb h) (F : FnAt h a (theDef 9) cd) (ns : List Int) (hns : ns.length ≤ 63) : CtN prog w A h (.ref a) [.list (ns.map D.int)] (.bool true) := by
  refine ctN_fn oA F ok9 rfl (by with_unfolding_all rfl) fun sb P0 L s0 hs0 k0 S0 => ?_
  have oA' : OkA (n + 2) (A.deeper (lEnv L a cd)) := oA.deeper _
  have hfr' : (A.deeper (lEnv L a cd)).frames = some [lEnv L a cd] := Around.frames_deeper hfr
  show wpN (model prog w) (A.deeper (lEnv L a cd)) (execs (theDef 9).body (lEnv L a cd)) _ _ s0
  generalize A.deeper (lEnv L a cd) = A' at oA' hfr' ⊢
  have Tg := T.sub hs0
  have H := lp_ok (upOf ns) (loOf ns) (thOf ns)
  refine law1 oA' Tg S0 (by lia) fun s1 S1 => ?_
  refine law2 oA' Tg S1 fun s2 S2 => ?_
  refine law3 oA' Tg H S2 fun s3 S3 => ?_
  refine law4 oA' Tg H S3 fun s4 S4 => ?_
  refine law5 oA' Tg H S4 fun s5 S5 => ?_
  refine law6 oA' Tg H S5 fun s6 S6 => ?_
  refine law7 oA' Tg H S6 fun s7 S7 => ?_
  refine law8 oA' hfr' Tg H S7 fun s8 S8 => ?_
  refine law9 oA' Tg H S8 fun s9 B S9 hB => ?_
  exact law10 oA' hfr' Tg H (S9.shut hB) k0 fun b hb => hb
end
end Mine
end
noncomputable section
open PySem PySem.W PyProof.Rows PySem.Spec PySem.Calls
open PySem.Sem (wp)
set_option Elab.async false
set_option autoImplicit false
set_option linter.unusedVariables false
set_option linter.unusedSimpArgs false
set_option maxRecDepth 100000
namespace Mine
theorem wp_of_wpN_done {M : Model} {A : Around} {Γ : PySem.Ctx} {t : Sem PySem.Fin} {R : Result → Shared → Prop} {s : Shared} (hin : Γ.In A) (hn : ND Γ)
    (h : wpN M A t (fun fin s' => ∃ f, fin = .done f ∧ R (.ok f) s') (fun e s' => R (.error e) s') s) (p : Pos) :
    wp M Γ t (Sem.finPost M Γ R) (fun e _ s' => R (.error e) s') p s := by
  refine Sem.wp_mono M Γ t (fun fin p' s' h' => ?_) (fun _ _ _ h' => h') p s (h Γ p hin hn)
  obtain ⟨f, rfl, hf⟩ := h'
  exact hf
theorem caller_nd : ND (⟨.builtin "claim.caller" {}, none, none, [], none⟩ : PySem.Ctx) := ⟨by decide +kernel, fun q hq => by cases hq⟩
theorem thread_ends_bothN {prog : Program} {w : World} {t : Sem PySem.Fin} {s : Shared} {R : Result → Shared → Prop} (hreg : s.asleep)
    (h : wpN (model prog w) callerA t (fun fin s' => ∃ f, fin = .done f ∧ (R (.ok f) s' ∧ leftWithCleanup s'.gens = false)) (fun e s' => R (.error e) s' ∧ leftWithCleanup s'.gens = false) s) :
    ∃ n r s' s'', runN (denote table) prog w n s ⟨t, .builtin "claim.caller" {}, default, []⟩ = .halted (outcomeOf r) s' ∧
      schedN (denote table) prog w n (.single s ⟨t, .builtin "claim.caller" {}, default, []⟩) = .halted (outcomeOf r) s' ∧ s'.forget = s''.forget ∧ R r s'' := by
  obtain ⟨n, r, s₁, s₂, hs, hn, hfo, hR⟩ := wp_halts_full (M := model prog w) (R := R) hreg (wp_of_wpN_done (R := fun r s' => R r s' ∧ leftWithCleanup s'.gens = false) caller_in caller_nd h default)
  exact ⟨n, r, s₂, s₁, hn, hs, hfo, hR⟩
theorem callFrom_of_specN {c : ClaimW} {tree : List Value → Sem PySem.Fin} {w : World} {s : Shared} {free : Addr → Prop} {gens : Prop} {kept : Heap → Prop} (hz : s.asleep) (hgens : s.gens = #[])
    (hspec : ∀ args, c.pre args = true → WData.layableAll args = true →
      ∀ ord : List DictEntry → List DictEntry, (∀ l, (ord l).Perm l) →
      ∃ vs s₁, layAllW c.records (classAt s.heap) w.params ord args s = some (vs, s₁) ∧
        wpN (model c.prog w) callerA (tree vs) (fun fin s' => ∃ f, fin = .done f ∧ (c.Ends s args vs s₁ (.ok f) s' ∧ s'.os = s.os ∧ AllBare s'.gens ∧ kept s'.heap))
          (fun e s' => c.Ends s args vs s₁ (.error e) s' ∧ s'.os = s.os ∧ AllBare s'.gens ∧ kept s'.heap) s₁) :
    c.CallFrom (fun vs => ⟨tree vs, .builtin "claim.caller" {}, default, []⟩) w free gens kept s := by
  intro args hpre hlay ord hord
  obtain ⟨vs, s₁, hlaid, hcode⟩ := hspec args hpre hlay ord hord
  have hal := layAllW_rest _ _ _ hlaid
  obtain ⟨k, r, s', s'', hrun, hsched, hfo, hcase, hos, hkp⟩ := thread_ends_bothN (prog := c.prog) (w := w) (t := tree vs) (s := s₁)
    (R := fun r s' => c.Ends s args vs s₁ r s' ∧ s'.os = s.os ∧ kept s'.heap)
    (Shared.asleep_of_life hal.2.2.2 hz)
    (wpN_mono hcode (by
      rintro fin s' ⟨f, e, h1, h2, h3, h4⟩
      exact ⟨f, e, ⟨h1, h2, h4⟩, leftWithCleanup_false_of_bare h3⟩) (by
      rintro e s' ⟨h1, h2, h3, h4⟩
      exact ⟨⟨h1, h2, h4⟩, leftWithCleanup_false_of_bare h3⟩))
  obtain ⟨eh, _, _, eo, _⟩ := Shared.forget_eq hfo
  have hcase := hcase.congr eh
  have hkp : kept s'.heap := by first | exact eh ▸ hkp | (rw [eh] at hkp; exact hkp) | (rw [← eh] at hkp; exact hkp)
  rw [← eo] at hos
  have hlife : s'.heap.life = s.heap.life := (runN_life _ _ _ hrun).trans hal.2.2.2
  refine ⟨vs, s₁, hlaid, k, _, s', hsched, ?_, (fun _ i x hx => by rw [hgens] at hx; simp at hx), hkp, by rw [hlife], Shared.rest_eq hos⟩
  rcases hcase with ⟨v, rfl, d1, d2, d3, d4, d5⟩ | ⟨e, ob, cls, rfl, d1, d2, d3, d4, d5⟩
  · exact .inl ⟨v, rfl, d1, d2, d3, fun b o y _ => d4 b o y, d5⟩
  · exact .inr ⟨e, ob, cls, rfl, d1, d2, d3, d4, fun b o y _ => d5 b o y⟩
theorem open_anyN {r : RowW} {run : Value → List Value → Sem Value} {tree : List Value → Sem PySem.Fin} {q : Program} {loose defs kps : List Str} {writes : Bool} {Xt : Shared → Bool} {XP : (Str → Option Value) → Heap → Prop} {α : Type} {Yf : Shared → α} {Ya : World → α} {N : Nat}
    (left : LeftO r.prog q loose Xt Yf Ya N) (hX : ∀ s, Xt s = true → XP (s.heap.nsMap mainGlobals) s.heap) (hXk : ∀ mg h h', XP mg h → (∀ b o, h.get? b = some o → h'.get? b = some o) → XP mg h')
    (hRf : ∀ s, Xt s = true → RecFacts r.records s.heap) (hwr : (!writes || r.records.isEmpty) = true) (ok : (chainsOk q && opensWell r.prog && (frees r && r.within.isEmpty)) = true) (hb : r.prog.bare) (hw : r.promised)
    (ht : ∀ vs (w : World) (s : Shared) mg f (Q : PySem.Fin → Shared → Prop) (E : Value → Shared → Prop), s.heap.Ns mainGlobals mg → mg r.name = some f → wpN (model r.prog w) callerA (run f vs) (fun v s' => Q (.done (.ret v)) s') E s → wpN (model r.prog w) callerA (tree vs) Q E s)
    (pin : ∀ w s, s.heap.isNs mainGlobals = true → Ground q loose [] XP w s (s.heap.nsMap mainGlobals) (s.heap.nsMap builtinsNs) s.heap → ∀ n ∈ defs, isTheDefsW r.prog s.heap n)
    (call : ∀ (w : World) (s₀ s₁ : Shared) (mg mb : Str → Option Value), Ground q loose r.records XP w s₀ mg mb s₁.heap → Yf s₀ = Ya w → ∀ (args : List WData) (vs : List Value) (as : List Addr),
      r.claim.pre args = true → WData.layableAll args = true → Laid r.records w s₀ s₁ args vs as → sysModules < s₀.heap.objs.size → ∃ f, mg r.name = some f ∧
        wpN (model r.prog w) callerA (run f vs) (fun v s' => GoodWG r.claim (classAt s₀.heap) (ExcName.means s₀.heap) args s₁ (.ok (.ret v)) s')
          (fun e s' => GoodWG r.claim (classAt s₀.heap) (ExcName.means s₀.heap) args s₁ (.error e) s') s₁) : r.claim.HoldsOpenBy (fun vs => ⟨tree vs, .builtin "claim.caller" {}, default, []⟩) defs kps writes := by
  obtain ⟨ok, k5⟩ := Bool.and_eq_true_iff.mp ok
  obtain ⟨hch, o1⟩ := Bool.and_eq_true_iff.mp ok
  obtain ⟨k5, k6⟩ := Bool.and_eq_true_iff.mp k5
  obtain ⟨hsame, hu, ha, hap, hm⟩ := frees_parts k5
  refine ⟨⟨hb, o1, by show r.makers.map _ = []; rw [hm]; rfl⟩, hw.witness, fun w => ⟨(left.behind hX hch w).1, fun s' hs' => ?_⟩⟩
  obtain ⟨s₀, hf, hg0, s, hT, hz, hgens, hg, G00, y⟩ := (left.behind (XP := fun mg h => XP mg h ∧ RecFacts r.records h) (fun s hs => ⟨hX s hs, hRf s hs⟩) hch w).2 s' hs'
  have G0 : Ground q loose [] XP w s (s.heap.nsMap mainGlobals) (s.heap.nsMap builtinsNs) s.heap := ⟨G00.T, G00.B, G00.D, G00.TE, G00.TD, G00.W, G00.X.1, G00.cls, G00.has, G00.apart, G00.once, G00.K⟩
  have RF := G00.X.2
  have hT' := hT
  refine ⟨s₀, hf, hg0, s, hT, pin w s hg G0, RF.1, RF.2.1, ?_⟩
  have hgens : s.gens = #[] := Array.eq_empty_of_size_eq_zero (beq_iff_eq.mp hgens)
  have G : Ground q loose r.records XP w s _ _ s.heap := RF.ground G0
  refine callFrom_of_specN (c := r.claim) hz hgens fun args hpre hlay ord hord => ?_
  obtain ⟨⟨vs, s₁⟩, hlaid⟩ := Option.isSome_iff_exists.mp (layAllW_isSome (P := w.params) (ord := ord) G.has args r.args s (pre_splitW hpre).1)
  have keeps := layAllW_keeps _ _ _ hlaid
  have hal := layAllW_rest _ _ _ hlaid
  obtain ⟨as, hrd, hin, hold⟩ := reads_layAllW hord _ _ _ hlaid hlay s₁.heap (fun _ _ e => e)
  have L : Laid r.records w s s₁ args vs as := ⟨⟨ord, hord, hlaid⟩, hrd, hin, hold, keeps, hal.1.trans hgens, hal.2.2.1⟩
  have G₁ := G.keeps hXk keeps
  obtain ⟨f, hf, h⟩ := call w s s₁ _ _ G₁ y args vs as hpre hlay L G.low
  have hi := ident_freeW hu ha hap
  have hwi : r.claim.within = [] := List.isEmpty_iff.mp k6
  exact ⟨vs, s₁, hlaid, ht vs w s₁ _ f _ _ G₁.T.g hf (wpN_mono h (fun v s' g => ⟨_, rfl, have z := g.laid (c := r.claim) hsame hwi hi L; ⟨z.1, z.2.1, z.2.2, fun q => ⟨namesKept_of hT' hg kps keeps g.2.1.old, noTable hwr q⟩⟩⟩) fun e s' g => have z := g.laid (c := r.claim) hsame hwi hi L; ⟨z.1, z.2.1, z.2.2, fun q => ⟨namesKept_of hT' hg kps keeps g.2.1.old, noTable hwr q⟩⟩)⟩
abbrev WalkN (q : Program) (loose : List Str) (XP : (Str → Option Value) → Heap → Prop) {α : Type} (Yf : Shared → α) (Ya : World → α) (r : RowW) (d : DefRec) (kwd : List (Str × Expr)) (run : Value → List Value → Sem Value) : Prop :=
  ∀ (w : World) (s₀ s₁ : Shared) (mg mb : Str → Option Value), Ground q loose r.records XP w s₀ mg mb s₁.heap → Yf s₀ = Ya w → ∀ (a : Addr) (o : Obj) (pm cd doc dV kV : Value), s₁.heap.get? a = some o →
    o.data = .func { docDef d.name d.params d.body d.scope pm cd doc with defaults := dV, kwdefaults := kV } → s₁.heap.CodeRec cd d.name → Dflts mg s₁.heap d.params kwd dV kV → mg d.name = some (.ref a) → s₁.gens = #[] →
    ∀ (args : List WData) (vals : List Value) (as : List Addr), Laid r.records w s₀ s₁ args vals as → r.claim.pre args = true → WData.layableAll args = true → ReadsAllW r.records (classAt s₀.heap) s₁.heap vals args as → WellAll w.params s₁.heap vals args → (∀ a ∈ as, (a == sysModules) = false) →
      wpN (model r.prog w) callerA (run (.ref a) vals) (fun v s' => GoodWG r.claim (classAt s₀.heap) (ExcName.means s₀.heap) args s₁ (.ok (.ret v)) s')
        (fun e s' => GoodWG r.claim (classAt s₀.heap) (ExcName.means s₀.heap) args s₁ (.error e) s') s₁
theorem holds_openN {r : OpenRow} {q : Program} {loose : List Str} {Xt : Shared → Bool} {XP : (Str → Option Value) → Heap → Prop} {α : Type} {Yf : Shared → α} {Ya : World → α} {d : DefRec} {kwd : List (Str × Expr)} {N : Nat}
    (left : LeftO r.prog q loose Xt Yf Ya N)
    (hX : ∀ s, Xt s = true → XP (s.heap.nsMap mainGlobals) s.heap) (hXk : ∀ mg h h', XP mg h → (∀ b o, h.get? b = some o → h'.get? b = some o) → XP mg h')
    (hdef : defOf q r.name = some (d, kwd)) (hp : r.prog.theDef r.name = some (d.params, d.body, d.scope)) (hk : kwWritten? d.params.kwonlyargs d.params.kw_defaults = some kwd) (hRf : ∀ s, Xt s = true → RecFacts r.records s.heap) (hwr : (!r.writes || r.records.isEmpty) = true)
    (k1 : r.wellSaid = true) (ok : (chainsOk q && opensWell r.prog && (frees r.toRowW && r.within.isEmpty)) = true) (hb : r.prog.bare) (hw : r.toRowW.promised)
    (call : WalkN q loose XP Yf Ya r.toRowW d kwd fun f vs => PySem.call f vs) : r.Holds := by
  refine ⟨k1, hw, open_anyN (r := r.toRowW) (run := fun f vs => PySem.call f vs) (tree := fun vs => do match ← nsGet mainNs r.name with
      | some f => do ret (← PySem.call f vs)
      | none => unsupported "claim.caller:no-such-global") left hX hXk hRf hwr ok hb hw
    (fun vs w s mg f Q E hg hf h => wpN_bind (wpN_of (wpAny_nsGet hg (by rw [hf]; exact wpN_bind (wpN_mono h (fun _ _ x => wpN_pure x) fun _ _ x => x)))))
    (fun w s hg G n hn => ?_) fun w s₀ s₁ mg mb G Y args vs as hpre hlay L low => ?_⟩
  · obtain rfl : n = r.name := by split at hn <;> simp_all
    exact pinned_of_view hg G hdef hp hk
  · obtain ⟨a, o, pm, cd, doc, dV, kV, h1, h2, h3, h4, h5⟩ := G.fn hdef
    exact ⟨.ref a, h1, call w s₀ s₁ mg mb G Y a o pm cd doc dV kV h2 h3 h4 h5 (defOf_name hdef ▸ h1) L.gens args vs as L hpre hlay L.reads L.well (L.low low)⟩
end Mine
end
noncomputable section
open PySem PySem.W PyProof.Rows PySem.Spec PySem.Calls
set_option Elab.async false
set_option autoImplicit false
set_option maxRecDepth 100000
set_option maxHeartbeats 8000000
namespace Mine
theorem look_a : noRoadLSs { strict := false, foot := none, bare := [] } PySem.Challenge.rw_ph0007_01.row.prog.main.body = true := by kernel_rfl
theorem look_b : noRoadLSs { strict := true, foot := some [("__name__" : Str), "_byteswap", "CHAR_MAX", "_grouping_intervals"], writes := false, may := none } PySem.Challenge.rw_ph0007_01.footing = true := by kernel_rfl
theorem look_c : namesResolve PySem.Challenge.rw_ph0007_01.row.prog = true := by kernel_rfl
theorem look_d : (namesMeet PySem.Challenge.rw_ph0007_01.row.prog PySem.Challenge.rw_ph0007_01.row.prog.main.body fun _ n => attrL n) = true := by kernel_rfl
theorem looks_ok : looksOpen PySem.Challenge.rw_ph0007_01.row.prog = true := by
  have e1 : (!(importedModules PySem.Challenge.rw_ph0007_01.row.prog.main.body).all cThrough.contains) = false := by kernel_rfl
  have e2 : (["vars", "dir", "locals"] : List Str).filter (readsOut PySem.Challenge.rw_ph0007_01.row.prog PySem.Challenge.rw_ph0007_01.row.prog.main.body) = [] := by kernel_rfl
  unfold looksOpen
  refine look_both (look_both (look_both (look_both (look_both ?_ ?_) look_c) ?_) ?_) look_d
  · kernel_rfl
  · kernel_rfl
  · kernel_rfl
  · rw [e1, e2]; exact look_a
theorem row_said' : PySem.Challenge.rw_ph0007_01.row.wellSaid = true := by
  unfold OpenRow.wellSaid OpenRow.partSaid
  repeat' (with_reducible refine look_both ?_ ?_)
  all_goals first | with_reducible exact looks_ok | kernel_rfl
theorem law_said : PySem.Challenge.rw_ph0007_01.wellSaid = true := by
  have e1 : PySem.Challenge.rw_ph0007_01.bound' = [("__name__" : Str), "_byteswap", "CHAR_MAX", "_grouping_intervals"] := by kernel_rfl
  have e2 : PySem.Challenge.rw_ph0007_01.writes = false := by kernel_rfl
  have e3 : PySem.Challenge.rw_ph0007_01.may = none := by kernel_rfl
  have hb : noRoadLSs { strict := true, foot := some PySem.Challenge.rw_ph0007_01.bound', writes := PySem.Challenge.rw_ph0007_01.writes, may := PySem.Challenge.rw_ph0007_01.may } PySem.Challenge.rw_ph0007_01.footing = true := by
    rw [e1, e2, e3]; exact look_b
  unfold OpenLaw.wellSaid
  repeat' (with_reducible refine look_both ?_ ?_)
  all_goals first | with_reducible exact row_said' | with_reducible exact hb | kernel_rfl
end Mine
end
noncomputable section
open PySem PySem.W PyProof.Rows PySem.Spec PySem.Calls
open PySem.Sem (wp)
set_option Elab.async false
set_option autoImplicit false
set_option linter.unusedVariables false
set_option linter.unusedSimpArgs false
set_option maxRecDepth 100000
namespace Mine
theorem gd_of_top {q : Program} {loose : List Str} {mean : ExcName → Option Value} {mg mb : Str → Option Value} {h : Heap} (T : Top q loose mean mg mb h) (e : recsOf q = recsOf pw)
    (hf : ∀ x ∈ (["sum", "len", "range", "min", "sorted", "set", "list", "bytes", "bytearray", "str", "isinstance", "ValueError", "IndexError"] : List Str), x ∉ startupNames ∧ x ∉ loose ∧ x ∉ (recsOf pw).map (·.name) ∧ x ∉ (litsOf q).map (·.1) ∧ x ∉ (clssOf q loose).map (·.name))
    (hc : valOf q "CHAR_MAX" = some (.int 127)) : Gd mg mb h where
  g := T.g
  b := T.b
  lim := T.nolimit
  fn := fun d hd => by
    rw [← e] at hd
    obtain ⟨a, o, pm, code, doc, h1, h2, h3, h4⟩ := T.fn d hd
    exact ⟨a, code, h1, ⟨o, pm, doc, h2, h3⟩, h4, T.nolimit⟩
  free := fun x hx => by
    obtain ⟨a1, a2, a3, a4, a5⟩ := hf x hx
    rw [← e] at a3
    exact T.free x a1 a2 a3 a4 a5
  bi := T.builtins
  cmax := by
    obtain ⟨v, h1, h2⟩ := T.const _ _ hc
    have := h2 h
    cases this
    exact ⟨_, h1⟩
theorem caller_ok : OkA 4 callerA := ⟨rfl, by decide +kernel, by decide +kernel, rfl⟩
theorem law_call {prog : Program} {w : World} {mg mb : Str → Option Value} {s : Shared} {a l : Addr} {vs : List Value} {ns : List Int} {Q : Value → Shared → Prop} {E : Value → Shared → Prop} (T : Gd mg mb s.heap) (hmg : mg "law" = some (.ref a)) (hL : s.heap.IsList l vs.toArray) (hI : IntsAre vs ns) (hn : ns.length ≤ 63)
    (hQ : ∀ s', Kp s s' → Q (.bool true) s') : wpN (model prog w) callerA (call (.ref a) [.ref l]) Q E s := by
  obtain ⟨b, cd, h1, F⟩ := T.at (i := 9)
  have hname : (theDef 9).name = "law" := by with_unfolding_all rfl
  rw [hname, hmg] at h1
  have hab : a = b := by injection h1 with h1; injection h1
  subst hab
  refine ctN_law (n := 1) caller_ok rfl T F ns hn All s [.ref l] (.refl _) (rdL_cons.mpr ⟨_, [], rfl, rd_list.mpr ⟨l, vs, rfl, trivial, hL, RdL.of_ints hI⟩, rdL_nil.mpr rfl⟩) Q E fun v s' k r => ?_
  rw [rd_bool.mp r]
  exact hQ s' k
theorem law_post (args : List WData) : PySem.Challenge.rw_ph0007_01.row.claim.post args (.bool true) args = true := by kernel_rfl
end Mine
end
noncomputable section
open PySem PySem.W PyProof.Rows PySem.Spec PySem.Calls
set_option Elab.async false
set_option autoImplicit false
set_option linter.unusedVariables false
set_option maxRecDepth 100000
set_option maxHeartbeats 8000000
namespace Mine
/-- The text's statements that say more than a module's name. -/
def keepSt : Stmt → Bool
  | .Assign [.Name x _] _ _ => x != "__name__"
  | _ => true
def vw : Program := { pw with main := { pw.main with body := pw.main.body.filter keepSt } }
theorem law_holds : PySem.Challenge.rw_ph0007_01.Holds := by
  refine holds_law law_said fun said => ?_
  refine holds_openN (q := vw) (loose := []) (Xt := fun s => xlAt vw [] s && recOk (RowW.records PySem.Challenge.rw_ph0007_01.row.toRowW) s) (XP := XL vw []) (Yf := fun _ => ()) (Ya := fun _ => ()) (N := 880) ?hl (fun s e => xl_of s (Bool.and_eq_true_iff.mp e).1) XL.keeps (by rfl) (by rfl) (by rfl) (fun s e => recFacts_of (Bool.and_eq_true_iff.mp e).2) (by rfl) (by first | assumption | decide +kernel) (by decide +kernel) ⟨rfl, rfl, rfl, rfl, rfl, by decide +kernel⟩ ?hw ?hc
  case hl => exact fun w => by kernel_rfl
  case hw => w_witness2
  intro w s₀ s₁ mg mb Gr y fa o pm cd doc dV kV ho hd hcd hD hmg hg args vals as Ld hpre hlay hrd hwl hlo
  have T := Gr.T
  wrow_args hpre hlay hrd hwl hlo
  rename_i ns _ _ _ _ _ _ _ l vs _ hL _ _ _ hI _ hc _
  have hn : ns.length ≤ 63 := by lia
  clear y hd ho hcd hD
  refine law_call (gd_of_top T ?goE ?goF ?goC) hmg hL hI hn fun s' k => ?_
  case goE => kernel_rfl
  case goF => decide +kernel
  case goC => kernel_rfl
  exact ⟨.inl ⟨.bool true, .bool true, [], rfl, fun _ => rfl, .bool true, law_post _, fun _ => ⟨.nil, fun a ha => by cases ha⟩⟩, .of_keep k.keep, k.os, k.bare (.of_eq hg)⟩
end Mine
end
theorem PySem.Challenge.cw_ph0007_01_holds : PySem.Challenge.rw_ph0007_01.Holds :=
  Mine.law_holds
