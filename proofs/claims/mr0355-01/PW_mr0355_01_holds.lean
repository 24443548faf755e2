import PyProof.Rows.All
import Wide.All
import OpenK.AllK
import Wide.FinOn
import Open.Line
import Lean
import PySem.Challenge.RW_mr0355_01
set_option maxRecDepth 1000000
set_option linter.all false
set_option Elab.async false
set_option bootstrap.genMatcherCode false
set_option genInjectivity false
set_option genSizeOf false
set_option maxHeartbeats 0
noncomputable section
namespace Mine
universe u1 u2 u3 u4 u5 u6 u7
theorem el0_8  {p1 p2 p3 p4 p5 p6 p7 p8 : Prop} {Z : Prop} (h : p1 ∧ p2 ∧ p3 ∧ p4 ∧ p5 ∧ p6 ∧ p7 ∧ p8) (z : p1 → p2 → p3 → p4 → p5 → p6 → p7 → p8 → Z) : Z := z h.1 h.2.1 h.2.2.1 h.2.2.2.1 h.2.2.2.2.1 h.2.2.2.2.2.1 h.2.2.2.2.2.2.1 h.2.2.2.2.2.2.2
theorem el0_2  {p1 p2 : Prop} {G : Prop} (h : p1 ∧ p2) (f : p1 → p2 → G) : G := f h.1 h.2
theorem el0_3  {p1 p2 p3 : Prop} {G : Prop} (h : p1 ∧ p2 ∧ p3) (f : p1 → p2 → p3 → G) : G := f h.1 h.2.1 h.2.2
theorem el0_4  {p1 p2 p3 p4 : Prop} {G : Prop} (h : p1 ∧ p2 ∧ p3 ∧ p4) (f : p1 → p2 → p3 → p4 → G) : G := f h.1 h.2.1 h.2.2.1 h.2.2.2
theorem el0_5  {p1 p2 p3 p4 p5 : Prop} {G : Prop} (h : p1 ∧ p2 ∧ p3 ∧ p4 ∧ p5) (f : p1 → p2 → p3 → p4 → p5 → G) : G := f h.1 h.2.1 h.2.2.1 h.2.2.2.1 h.2.2.2.2
theorem el1_1 {A : Sort u1} {p1 : A → Prop} {G : Prop} (h : ∃ a, p1 a) (f : ∀ a, p1 a → G) : G := h.elim fun a h => f a h
theorem el1_2 {A : Sort u1} {p1 p2 : A → Prop} {G : Prop} (h : ∃ a, p1 a ∧ p2 a) (f : ∀ a, p1 a → p2 a → G) : G := h.elim fun a h => f a h.1 h.2
theorem el1_3 {A : Sort u1} {p1 p2 p3 : A → Prop} {G : Prop} (h : ∃ a, p1 a ∧ p2 a ∧ p3 a) (f : ∀ a, p1 a → p2 a → p3 a → G) : G := h.elim fun a h => f a h.1 h.2.1 h.2.2
theorem el1_4 {A : Sort u1} {p1 p2 p3 p4 : A → Prop} {G : Prop} (h : ∃ a, p1 a ∧ p2 a ∧ p3 a ∧ p4 a) (f : ∀ a, p1 a → p2 a → p3 a → p4 a → G) : G := h.elim fun a h => f a h.1 h.2.1 h.2.2.1 h.2.2.2
theorem el1_6 {A : Sort u1} {p1 p2 p3 p4 p5 p6 : A → Prop} {G : Prop} (h : ∃ a, p1 a ∧ p2 a ∧ p3 a ∧ p4 a ∧ p5 a ∧ p6 a) (f : ∀ a, p1 a → p2 a → p3 a → p4 a → p5 a → p6 a → G) : G := h.elim fun a h => f a h.1 h.2.1 h.2.2.1 h.2.2.2.1 h.2.2.2.2.1 h.2.2.2.2.2
theorem el1_7 {A : Sort u1} {p1 p2 p3 p4 p5 p6 p7 : A → Prop} {G : Prop} (h : ∃ a, p1 a ∧ p2 a ∧ p3 a ∧ p4 a ∧ p5 a ∧ p6 a ∧ p7 a) (f : ∀ a, p1 a → p2 a → p3 a → p4 a → p5 a → p6 a → p7 a → G) : G := h.elim fun a h => f a h.1 h.2.1 h.2.2.1 h.2.2.2.1 h.2.2.2.2.1 h.2.2.2.2.2.1 h.2.2.2.2.2.2
theorem el2_1 {A : Sort u1} {B : Sort u2} {p1 : A → B → Prop} {G : Prop} (h : ∃ a, ∃ b, p1 a b) (f : ∀ a b, p1 a b → G) : G := h.elim fun a h => h.elim fun b h => f a b h
theorem el2_2 {A : Sort u1} {B : Sort u2} {p1 p2 : A → B → Prop} {G : Prop} (h : ∃ a, ∃ b, p1 a b ∧ p2 a b) (f : ∀ a b, p1 a b → p2 a b → G) : G := h.elim fun a h => h.elim fun b h => f a b h.1 h.2
theorem el2_3 {A : Sort u1} {B : Sort u2} {p1 p2 p3 : A → B → Prop} {G : Prop} (h : ∃ a, ∃ b, p1 a b ∧ p2 a b ∧ p3 a b) (f : ∀ a b, p1 a b → p2 a b → p3 a b → G) : G := h.elim fun a h => h.elim fun b h => f a b h.1 h.2.1 h.2.2
theorem el2_4 {A : Sort u1} {B : Sort u2} {p1 p2 p3 p4 : A → B → Prop} {G : Prop} (h : ∃ a, ∃ b, p1 a b ∧ p2 a b ∧ p3 a b ∧ p4 a b) (f : ∀ a b, p1 a b → p2 a b → p3 a b → p4 a b → G) : G := h.elim fun a h => h.elim fun b h => f a b h.1 h.2.1 h.2.2.1 h.2.2.2
theorem el2_6 {A : Sort u1} {B : Sort u2} {p1 p2 p3 p4 p5 p6 : A → B → Prop} {G : Prop} (h : ∃ a, ∃ b, p1 a b ∧ p2 a b ∧ p3 a b ∧ p4 a b ∧ p5 a b ∧ p6 a b) (f : ∀ a b, p1 a b → p2 a b → p3 a b → p4 a b → p5 a b → p6 a b → G) : G := h.elim fun a h => h.elim fun b h => f a b h.1 h.2.1 h.2.2.1 h.2.2.2.1 h.2.2.2.2.1 h.2.2.2.2.2
theorem el3_1 {A : Sort u1} {B : Sort u2} {C : Sort u3} {p1 : A → B → C → Prop} {G : Prop} (h : ∃ a, ∃ b, ∃ c, p1 a b c) (f : ∀ a b c, p1 a b c → G) : G := h.elim fun a h => h.elim fun b h => h.elim fun c h => f a b c h
theorem el3_2 {A : Sort u1} {B : Sort u2} {C : Sort u3} {p1 p2 : A → B → C → Prop} {G : Prop} (h : ∃ a, ∃ b, ∃ c, p1 a b c ∧ p2 a b c) (f : ∀ a b c, p1 a b c → p2 a b c → G) : G := h.elim fun a h => h.elim fun b h => h.elim fun c h => f a b c h.1 h.2
theorem el3_3 {A : Sort u1} {B : Sort u2} {C : Sort u3} {p1 p2 p3 : A → B → C → Prop} {G : Prop} (h : ∃ a, ∃ b, ∃ c, p1 a b c ∧ p2 a b c ∧ p3 a b c) (f : ∀ a b c, p1 a b c → p2 a b c → p3 a b c → G) : G := h.elim fun a h => h.elim fun b h => h.elim fun c h => f a b c h.1 h.2.1 h.2.2
theorem el3_4 {A : Sort u1} {B : Sort u2} {C : Sort u3} {p1 p2 p3 p4 : A → B → C → Prop} {G : Prop} (h : ∃ a, ∃ b, ∃ c, p1 a b c ∧ p2 a b c ∧ p3 a b c ∧ p4 a b c) (f : ∀ a b c, p1 a b c → p2 a b c → p3 a b c → p4 a b c → G) : G := h.elim fun a h => h.elim fun b h => h.elim fun c h => f a b c h.1 h.2.1 h.2.2.1 h.2.2.2
theorem el3_5 {A : Sort u1} {B : Sort u2} {C : Sort u3} {p1 p2 p3 p4 p5 : A → B → C → Prop} {G : Prop} (h : ∃ a, ∃ b, ∃ c, p1 a b c ∧ p2 a b c ∧ p3 a b c ∧ p4 a b c ∧ p5 a b c) (f : ∀ a b c, p1 a b c → p2 a b c → p3 a b c → p4 a b c → p5 a b c → G) : G := h.elim fun a h => h.elim fun b h => h.elim fun c h => f a b c h.1 h.2.1 h.2.2.1 h.2.2.2.1 h.2.2.2.2
theorem el3_6 {A : Sort u1} {B : Sort u2} {C : Sort u3} {p1 p2 p3 p4 p5 p6 : A → B → C → Prop} {G : Prop} (h : ∃ a, ∃ b, ∃ c, p1 a b c ∧ p2 a b c ∧ p3 a b c ∧ p4 a b c ∧ p5 a b c ∧ p6 a b c) (f : ∀ a b c, p1 a b c → p2 a b c → p3 a b c → p4 a b c → p5 a b c → p6 a b c → G) : G := h.elim fun a h => h.elim fun b h => h.elim fun c h => f a b c h.1 h.2.1 h.2.2.1 h.2.2.2.1 h.2.2.2.2.1 h.2.2.2.2.2
theorem el4_1 {A : Sort u1} {B : Sort u2} {C : Sort u3} {D : Sort u4} {p1 : A → B → C → D → Prop} {G : Prop} (h : ∃ a, ∃ b, ∃ c, ∃ d, p1 a b c d) (f : ∀ a b c d, p1 a b c d → G) : G := h.elim fun a h => h.elim fun b h => h.elim fun c h => h.elim fun d h => f a b c d h
theorem el4_3 {A : Sort u1} {B : Sort u2} {C : Sort u3} {D : Sort u4} {p1 p2 p3 : A → B → C → D → Prop} {G : Prop} (h : ∃ a, ∃ b, ∃ c, ∃ d, p1 a b c d ∧ p2 a b c d ∧ p3 a b c d) (f : ∀ a b c d, p1 a b c d → p2 a b c d → p3 a b c d → G) : G := h.elim fun a h => h.elim fun b h => h.elim fun c h => h.elim fun d h => f a b c d h.1 h.2.1 h.2.2
theorem el4_4 {A : Sort u1} {B : Sort u2} {C : Sort u3} {D : Sort u4} {p1 p2 p3 p4 : A → B → C → D → Prop} {G : Prop} (h : ∃ a, ∃ b, ∃ c, ∃ d, p1 a b c d ∧ p2 a b c d ∧ p3 a b c d ∧ p4 a b c d) (f : ∀ a b c d, p1 a b c d → p2 a b c d → p3 a b c d → p4 a b c d → G) : G := h.elim fun a h => h.elim fun b h => h.elim fun c h => h.elim fun d h => f a b c d h.1 h.2.1 h.2.2.1 h.2.2.2
theorem el5_1 {A : Sort u1} {B : Sort u2} {C : Sort u3} {D : Sort u4} {E : Sort u5} {p1 : A → B → C → D → E → Prop} {G : Prop} (h : ∃ a, ∃ b, ∃ c, ∃ d, ∃ e, p1 a b c d e) (f : ∀ a b c d e, p1 a b c d e → G) : G := h.elim fun a h => h.elim fun b h => h.elim fun c h => h.elim fun d h => h.elim fun e h => f a b c d e h
theorem el5_3 {A : Sort u1} {B : Sort u2} {C : Sort u3} {D : Sort u4} {E : Sort u5} {p1 p2 p3 : A → B → C → D → E → Prop} {G : Prop} (h : ∃ a, ∃ b, ∃ c, ∃ d, ∃ e, p1 a b c d e ∧ p2 a b c d e ∧ p3 a b c d e) (f : ∀ a b c d e, p1 a b c d e → p2 a b c d e → p3 a b c d e → G) : G := h.elim fun a h => h.elim fun b h => h.elim fun c h => h.elim fun d h => h.elim fun e h => f a b c d e h.1 h.2.1 h.2.2
theorem bt {b : Bool} {X : Prop} (w : match b with | true => X | false => False) : b = true ∧ X := by
 rcases b with _ | _
 ·exact w.elim
 ·exact ⟨rfl, w⟩
theorem bf {b : Bool} {X : Prop} (w : match b with | false => X | true => False) : b = false ∧ X := by
 rcases b with _ | _
 ·exact ⟨rfl, w⟩
 ·exact w.elim
theorem ot {α : Type} {o : Option α} {X : α → Prop} (w : match o with | some v => X v | none => False) : ∃ v, o = some v ∧ X v := by
 rcases o with _ | v
 ·exact w.elim
 ·exact ⟨v, rfl, w⟩
open PySem PySem.W PyProof.Rows PySem.Calls
inductive AV where
 | none
 | bool (b : Bool)
 | sym (b : Bool)
 | int (i : Int)
 | sint (i : Int)
 | str (x : Str)
 | sstr (x : Str)
 | obj (i : Nat)
 | tup (xs : List AV)
 | val (v : Value)
inductive AObj where
 | inst (C : Addr) (m : List (Str × AV))
 | list (xs : List AV)
 | deque (xs : List AV)
noncomputable abbrev tupObj (vs : List Value) (n : Nat) : Obj := { cls := .type "tuple", data := .seq vs.toArray n }
noncomputable abbrev lstObj (vs : List Value) (n : Nat) : Obj := { cls := .type "list", data := .seq vs.toArray n }
noncomputable abbrev deqObj (vs : List Value) (n : Int) : Obj := { cls := .type "collections.deque", data := .fields (#[.none, rawInt n] ++ vs.toArray) }
noncomputable abbrev Rho := List (Addr × Addr)
mutual
inductive VRel (h : Heap) (ρ : Rho) : AV → Value → Prop
 | none : VRel h ρ .none .none
 | bool (b : Bool) : VRel h ρ (.bool b) (.bool b)
 | sym (b : Bool) : VRel h ρ (.sym b) (.bool b)
 | int (i : Int) (t : Tok) : VRel h ρ (.int i) (.int i t)
 | sint (i : Int) (t : Tok) : VRel h ρ (.sint i) (.int i t)
 | str (x : Str) (t : Tok) : VRel h ρ (.str x) (.str x t)
 | sstr (x : Str) (t : Tok) : VRel h ρ (.sstr x) (.str x t)
 | obj (i : Nat) (a d : Addr) (e : ρ[i]? = some (a, d)) : VRel h ρ (.obj i) (.ref a)
 | tup (xs : List AV) (vs : List Value) (a : Addr) (n : Nat) (e : h.get? a = some (tupObj vs n)) (r : VRels h ρ xs vs) : VRel h ρ (.tup xs) (.ref a)
 | val (v : Value) : VRel h ρ (.val v) v
inductive VRels (h : Heap) (ρ : Rho) : List AV → List Value → Prop
 | nil : VRels h ρ [] []
 | cons (x : AV) (v : Value) (xs : List AV) (vs : List Value) (r : VRel h ρ x v) (rs : VRels h ρ xs vs) : VRels h ρ (x :: xs) (v :: vs)
end
noncomputable def TKeep (h h' : Heap) : Prop := ∀ a vs n, h.get? a = some (tupObj vs n) → h'.get? a = some (tupObj vs n)
noncomputable def PKeep (ρ ρ' : Rho) : Prop := ∀ (i : Nat) (p : Addr × Addr), ρ[i]? = some p → ρ'[i]? = some p
theorem VRel.mono {h h' : Heap} {ρ ρ' : Rho} (k : TKeep h h') (p : PKeep ρ ρ') {x : AV} {v : Value} (r : VRel h ρ x v) : VRel h' ρ' x v :=
 VRel.rec (motive_1 := fun x v _ => VRel h' ρ' x v) (motive_2 := fun xs vs _ => VRels h' ρ' xs vs) .none .bool .sym .int .sint .str .sstr (fun i a d e => .obj i a d (p _ _ e)) (fun xs vs a n e _ ih => .tup xs vs a n (k _ _ _ e) ih) .val .nil (fun x v xs vs _ _ ih1 ih2 => .cons x v xs vs ih1 ih2) r
section
variable {h : Heap} {ρ : Rho} {v : Value}
theorem VRel.none_inv (r : VRel h ρ .none v) : v = .none := by cases r; rfl
theorem VRel.bool_inv {b : Bool} (r : VRel h ρ (.bool b) v) : v = .bool b := by cases r; rfl
theorem VRel.sym_inv {b : Bool} (r : VRel h ρ (.sym b) v) : v = .bool b := by cases r; rfl
theorem VRel.int_inv {i : Int} (r : VRel h ρ (.int i) v) : ∃ t, v = .int i t := by cases r; exact ⟨_, rfl⟩
theorem VRel.sint_inv {i : Int} (r : VRel h ρ (.sint i) v) : ∃ t, v = .int i t := by cases r; exact ⟨_, rfl⟩
theorem VRel.str_inv {x : Str} (r : VRel h ρ (.str x) v) : ∃ t, v = .str x t := by cases r; exact ⟨_, rfl⟩
theorem VRel.sstr_inv {x : Str} (r : VRel h ρ (.sstr x) v) : ∃ t, v = .str x t := by cases r; exact ⟨_, rfl⟩
theorem VRel.obj_inv {i : Nat} (r : VRel h ρ (.obj i) v) : ∃ a d, v = .ref a ∧ ρ[i]? = some (a, d) := by cases r; exact ⟨_, _, rfl, ‹_›⟩
theorem VRel.val_inv {u : Value} (r : VRel h ρ (.val u) v) : v = u := by cases r; rfl
theorem VRels.nil_inv {vs : List Value} (r : VRels h ρ [] vs) : vs = [] := by cases r; rfl
theorem VRels.cons_inv {a : AV} {as : List AV} {vs : List Value} (r : VRels h ρ (a :: as) vs) : ∃ v vs', vs = v :: vs' ∧ VRel h ρ a v ∧ VRels h ρ as vs' := by cases r; exact ⟨_, _, rfl, ‹_›, ‹_›⟩
end
theorem VRels.mono {h h' : Heap} {ρ ρ' : Rho} (k : TKeep h h') (p : PKeep ρ ρ') : ∀ {xs : List AV} {vs : List Value}, VRels h ρ xs vs → VRels h' ρ' xs vs := by
 intro xs
 induction xs with
 | nil => intro vs r; obtain rfl := r.nil_inv; exact .nil
 | cons x xs ih =>
  intro vs r
  obtain ⟨v, vs, rfl, r, rs⟩ := r.cons_inv
  exact .cons _ _ _ _ (r.mono k p) (ih rs)
theorem VRels.length {h : Heap} {ρ : Rho} : ∀ {xs : List AV} {vs : List Value}, VRels h ρ xs vs → xs.length = vs.length := by
 intro xs
 induction xs with
 | nil => intro vs r; rw [r.nil_inv]; rfl
 | cons x xs ih =>
  intro vs r
  obtain ⟨v, vs, rfl, _, rs⟩ := r.cons_inv
  exact congrArg Nat.succ (ih rs)
theorem VRels.append {h : Heap} {ρ : Rho} : ∀ {xs ys : List AV} {vs ws : List Value}, VRels h ρ xs vs → VRels h ρ ys ws → VRels h ρ (xs ++ ys) (vs ++ ws) := by
 intro xs
 induction xs with
 | nil => intro ys vs ws r q; rw [r.nil_inv]; exact q
 | cons x xs ih =>
  intro ys vs ws r q
  obtain ⟨v, vs, rfl, r, rs⟩ := r.cons_inv
  exact .cons x v _ _ r (ih rs q)
noncomputable def ORelV (h : Heap) (ρ : Rho) : Option AV → Option Value → Prop
 | none, none => True
 | some x, some v => VRel h ρ x v
 | _, _ => False
theorem ORelV.mono {h h' : Heap} {ρ ρ' : Rho} (k : TKeep h h') (p : PKeep ρ ρ') {x : Option AV} {v : Option Value} (r : ORelV h ρ x v) : ORelV h' ρ' x v := by
 cases x <;> cases v <;> first | exact r | exact VRel.mono k p r
noncomputable def DictAt (h : Heap) (d : Addr) (k : Nat) (m : Str → Option Value) : Prop :=
 ∃ o es ep, h.get? d = some o ∧ o.data = .dict es ep ∧ StrKeys es ∧ (∀ x, nsFind es x = m x) ∧ es.size = k
theorem DictAt.keep {h h' : Heap} {d : Addr} {k : Nat} {m : Str → Option Value} (D : DictAt h d k m) (q : ∀ o, h.get? d = some o → h'.get? d = some o) : DictAt h' d k m :=
 let ⟨o, es, ep, a, r⟩ := D; ⟨o, es, ep, q _ a, r⟩
section
variable {M : Model} {A : Around} {E : Value → Shared → Prop} {s : Shared}
theorem find_isSome {es : Array DictEntry} {x : Str} : (nsFind es x).isSome = (es.findIdx? fun e => e.key.isStr x).isSome := by
 unfold nsFind findBy
 obtain ⟨l⟩ := es
 simp only [List.find?_toArray, List.findIdx?_toArray, Option.isSome_map]
 induction l with
 | nil => rfl
 | cons e l ih =>
  rw [List.find?_cons, List.findIdx?_cons]
  cases he : e.key.isStr x <;> simp [ih]
theorem nsSet_at {d : Addr} {k : Nat} {m : Str → Option Value} {x : Str} {v : Value} {Q : Unit → Shared → Prop} (D : DictAt s.heap d k m)
  (h : ∀ h', DictAt h' d (if (m x).isSome then k else k + 1) (fun y => if y = x then some v else m y) → Heap.SameBut d s.heap h' → Q () { s with heap := h', toks := s.toks + 1 }) :
  wpAny M A (nsSet d x v) Q E s := by
 obtain ⟨o, es, ep, ho, hd, hk, hm, hz⟩ := D
 have hany : es.any (·.refKey) = false := by
  rw [Array.any_eq_false']; intro e he; obtain ⟨n, t, h⟩ := hk e he; simp [DictEntry.refKey, h]
 unfold nsSet
 refine wpAny_bind (wpAny_bind (wpAny_askSetting (wpAny_pure (wpAny_bind (wpAny_mkText (wpAny_bind (wpAny_loadPart ho ?_)))))))
 rw [hd]
 dsimp only
 rw [aRefKeyMayBeTheName_at, hany, Bool.and_false]
 refine wpAny_updatePart ho ?_
 refine h _ ?_ (Heap.SameBut.update ..)
 obtain ⟨c, dd, dt, sl⟩ := o
 dsimp only at hd
 subst hd
 have hfs := find_isSome (es := es) (x := x)
 rw [hm] at hfs
 cases hi : es.findIdx? (·.key.isStr x) with
 | some i =>
  rw [hi] at hfs
  rw [hfs]
  refine ⟨_, _, ep, Heap.get?_update_self _ ho (by simp only [Obj.putName_eq, Obj.putNameByArray, hi]; rfl), by simp only [Obj.putName_eq, Obj.putNameByArray, hi]; rfl, hk.modify _ _, fun y => ?_, by simpa using hz⟩
  dsimp only
  rw [← hm]; exact findBy_modify (fun n v => v.isStr n) Value.isStr_inj es x y v i hi
 | none =>
  rw [hi] at hfs
  rw [hfs]
  refine ⟨_, _, ep + 1, Heap.get?_update_self _ ho (by simp only [Obj.putName_eq, Obj.putNameByArray, hi]; rfl), by simp only [Obj.putName_eq, Obj.putNameByArray, hi]; rfl, hk.push _ _ _ _, fun y => ?_, by simpa using hz⟩
  dsimp only
  rw [← hm]
  exact findBy_push (fun n v => v.isStr n) es x y _ _ v (fun z => by
   show (x == z) = decide (z = x)
   by_cases h : z = x
   ·subst h; simp
   ·have : ¬ x = z := fun e => h e.symm
    simp [h, this]) hi
end
structure AS where
 loc : List (Str × AV)
 objs : List AObj
 dec : List Bool
 gh : List (Addr × (Obj → Prop)) := []
structure Cx where
 prog : Program
 w : World
 K : Frag
 base : Heap
 h₀ : Heap
 mt : List Addr
 env : Env
 os : OsState
noncomputable def fp : AObj → Addr × Addr → List Addr
 | .inst _ _, (a, d) => [a, d]
 | .list _, (a, _) => [a]
 | .deque _, (a, _) => [a]
noncomputable def foot : List AObj → Rho → List Addr
 | o :: os, p :: ps => fp o p ++ foot os ps
 | _, _ => []
noncomputable def ORel (h : Heap) (ρ : Rho) : AObj → Addr × Addr → Prop
 | .inst C m, (a, d) => h.get? a = some (instObj C d) ∧ ∃ m', DictAt h d m.length m' ∧ ∀ x, ORelV h ρ (m.lookup x) (m' x)
 | .list xs, (a, _) => ∃ vs n, h.get? a = some (lstObj vs n) ∧ VRels h ρ xs vs
 | .deque xs, (a, _) => ∃ vs n, h.get? a = some (deqObj vs n) ∧ VRels h ρ xs vs
noncomputable def OsRel (h : Heap) (ρ : Rho) : List AObj → Rho → Prop
 | [], [] => True
 | o :: os, p :: ps => ORel h ρ o p ∧ OsRel h ρ os ps
 | _, _ => False
structure Rel (cx : Cx) (ρ : Rho) (st : AS) (s : Shared) : Prop where
 keep : ∀ b o, cx.h₀.get? b = some o → b ∉ cx.mt → s.heap.get? b = some o
 loc : ∃ m, s.heap.Ns cx.env.locals m ∧ ∀ x, ORelV s.heap ρ (st.loc.lookup x) (m x)
 objs : OsRel s.heap ρ st.objs ρ
 nodup : (cx.env.locals :: foot st.objs ρ).Nodup
 own : ∀ a ∈ cx.env.locals :: foot st.objs ρ, a ∈ cx.mt ∨ cx.h₀.get? a = none
 gens : s.gens = #[]
 os : s.os = cx.os
 gho : ∀ p ∈ st.gh, (∃ o, s.heap.get? p.1 = some o ∧ p.2 o ∧ ∀ vs n, o ≠ tupObj vs n) ∧ p.1 ∉ cx.env.locals :: foot st.objs ρ ∧ (p.1 ∈ cx.mt ∨ cx.h₀.get? p.1 = none)
 ghn : (st.gh.map (·.1)).Nodup
theorem PKeep.refl (ρ : Rho) : PKeep ρ ρ := fun _ _ e => e
theorem PKeep.trans {a b c : Rho} (x : PKeep a b) (y : PKeep b c) : PKeep a c := fun i p e => y i p (x i p e)
theorem PKeep.snoc (ρ : Rho) (p : Addr × Addr) : PKeep ρ (ρ ++ [p]) := fun i q e => by
 have := (List.getElem?_eq_some_iff.mp e).1
 rw [List.getElem?_append_left this]; exact e
theorem TKeep.refl (h : Heap) : TKeep h h := fun _ _ _ e => e
theorem TKeep.trans {a b c : Heap} (x : TKeep a b) (y : TKeep b c) : TKeep a c := fun i p n e => y i p n (x i p n e)
theorem TKeep.of {h h' : Heap} (k : ∀ b o, h.get? b = some o → h'.get? b = some o) : TKeep h h' := fun a vs n e => k a _ e
theorem TKeep.but {h h' : Heap} {x : Addr} (k : Heap.ExtBut x h h') (n : ∀ vs n, h.get? x ≠ some (tupObj vs n)) : TKeep h h' := fun a vs m e => k a _ (fun q => n vs m (q ▸ e)) e
theorem ORel.fpHere {h : Heap} {ρ : Rho} {o : AObj} {p : Addr × Addr} (r : ORel h ρ o p) : ∀ a ∈ fp o p, ∃ ob, h.get? a = some ob ∧ ∀ vs n, ob ≠ tupObj vs n := by
 obtain ⟨a, d⟩ := p
 cases o with
 | inst C m =>
  obtain ⟨h1, m', ⟨o', es, ep, h2, h3, _⟩, _⟩ := r
  intro x hx
  simp only [fp, List.mem_cons, List.not_mem_nil, or_false] at hx
  rcases hx with rfl | rfl
  ·exact ⟨_, h1, fun vs n e => by cases e⟩
  ·exact ⟨_, h2, fun vs n e => by subst e; cases h3⟩
 | list xs =>
  obtain ⟨vs, n, h1, _⟩ := r
  intro x hx
  simp only [fp, List.mem_cons, List.not_mem_nil, or_false] at hx
  subst hx
  exact ⟨_, h1, fun vs n e => by simp [tupObj] at e⟩
 | deque xs =>
  obtain ⟨vs, n, h1, _⟩ := r
  intro x hx
  simp only [fp, List.mem_cons, List.not_mem_nil, or_false] at hx
  subst hx
  exact ⟨_, h1, fun vs n e => by simp [tupObj] at e⟩
theorem ORel.keeps {h h' : Heap} {ρ ρ' : Rho} {o : AObj} {p : Addr × Addr} (r : ORel h ρ o p) (t : TKeep h h') (q : PKeep ρ ρ') (k : ∀ a ∈ fp o p, ∀ ob, h.get? a = some ob → h'.get? a = some ob) : ORel h' ρ' o p := by
 obtain ⟨a, d⟩ := p
 cases o with
 | inst C m =>
  obtain ⟨h1, m', h2, h3⟩ := r
  exact ⟨k a (by simp [fp]) _ h1, m', h2.keep (k d (by simp [fp])), fun x => (h3 x).mono t q⟩
 | list xs =>
  refine el2_2 r fun vs n h1 h2 => ?_
  exact ⟨vs, n, k a (by simp [fp]) _ h1, h2.mono t q⟩
 | deque xs =>
  refine el2_2 r fun vs n h1 h2 => ?_
  exact ⟨vs, n, k a (by simp [fp]) _ h1, h2.mono t q⟩
theorem OsRel.keeps {h h' : Heap} {ρ ρ' : Rho} (t : TKeep h h') (q : PKeep ρ ρ') : ∀ {os : List AObj} {ps : Rho}, OsRel h ρ os ps → (∀ a ∈ foot os ps, ∀ ob, h.get? a = some ob → h'.get? a = some ob) → OsRel h' ρ' os ps
 | [], [], _, _ => trivial
 | o :: os, p :: ps, r, k => ⟨r.1.keeps t q fun a ha => k a (List.mem_append_left _ ha), OsRel.keeps t q r.2 fun a ha => k a (List.mem_append_right _ ha)⟩
 | [], _ :: _, r, _ => r.elim
 | _ :: _, [], r, _ => r.elim
theorem OsRel.here {h : Heap} {ρ : Rho} : ∀ {os : List AObj} {ps : Rho}, OsRel h ρ os ps → ∀ a ∈ foot os ps, ∃ ob, h.get? a = some ob ∧ ∀ vs n, ob ≠ tupObj vs n
 | [], [], _, _, ha => by cases ha
 | o :: os, p :: ps, r, a, ha => (List.mem_append.mp ha).elim (r.1.fpHere a) (OsRel.here r.2 a)
 | [], _ :: _, r, _, _ => r.elim
 | _ :: _, [], r, _, _ => r.elim
theorem OsRel.get {h : Heap} {ρ : Rho} : ∀ {os : List AObj} {ps : Rho} {i : Nat} {o : AObj}, OsRel h ρ os ps → os[i]? = some o → ∃ p, ps[i]? = some p ∧ ORel h ρ o p ∧ ∀ a ∈ fp o p, a ∈ foot os ps
 | [], _, i, _, _, e => by cases i <;> cases e
 | o :: os, p :: ps, 0, _, r, e => by cases e; exact ⟨p, rfl, r.1, fun a ha => List.mem_append_left _ ha⟩
 | o :: os, p :: ps, i + 1, _, r, e => by
  refine el1_3 (OsRel.get r.2 (show os[i]? = some _ from e)) fun q a b c => ?_
  exact ⟨q, a, b, fun x hx => List.mem_append_right _ (c x hx)⟩
 | _ :: _, [], _, _, r, _ => r.elim
theorem OsRel.len {h : Heap} {ρ : Rho} : ∀ {os : List AObj} {ps : Rho}, OsRel h ρ os ps → os.length = ps.length
 | [], [], _ => rfl
 | o :: os, p :: ps, r => by simp [OsRel.len r.2]
 | [], _ :: _, r => r.elim
 | _ :: _, [], r => r.elim
theorem OsRel.set {h h' : Heap} {ρ : Rho} {x : Addr} (t : TKeep h h') (k : Heap.ExtBut x h h') : ∀ {os : List AObj} {ps : Rho} {i : Nat} {o o' : AObj} {p : Addr × Addr}, OsRel h ρ os ps → (foot os ps).Nodup → os[i]? = some o → ps[i]? = some p → x ∈ fp o p →
  ORel h' ρ o' p → OsRel h' ρ (os.set i o') ps
 | [], _, i, _, _, _, _, _, e, _, _, _ => by cases i <;> cases e
 | o :: os, p :: ps, 0, _, o', _, r, nd, e, e', hx, r' => by
  cases e; cases e'
  refine ⟨r', OsRel.keeps t (PKeep.refl _) r.2 fun a ha ob => k a ob fun q => ?_⟩
  subst q
  exact (List.nodup_append.mp nd).2.2 a hx a ha rfl
 | o :: os, p :: ps, i + 1, o₁, o', p₁, r, nd, e, e', hx, r' => by
  have nd' := List.nodup_append.mp nd
  refine el1_3 (OsRel.get r.2 (show os[i]? = some o₁ from e)) fun q e₁ _ c => ?_
  have : q = p₁ := Option.some.inj (e₁.symm.trans (show ps[i]? = some p₁ from e'))
  subst this
  refine ⟨r.1.keeps t (PKeep.refl _) fun a ha ob => k a ob fun z => ?_, OsRel.set t k r.2 nd'.2.1 e e' hx r'⟩
  subst z
  exact nd'.2.2 a ha a (c a hx) rfl
 | _ :: _, [], _, _, _, _, r, _, _, _, _, _ => r.elim
theorem foot_set {o' : AObj} : ∀ {os : List AObj} {ps : Rho} {i : Nat} {o : AObj} {p : Addr × Addr}, os[i]? = some o → ps[i]? = some p → fp o' p = fp o p → foot (os.set i o') ps = foot os ps
 | [], _, i, _, _, e, _, _ => by cases i <;> cases e
 | o :: os, p :: ps, 0, _, _, e, e', q => by cases e; cases e'; show fp o' p ++ _ = fp o p ++ _; rw [q]
 | o :: os, p :: ps, i + 1, _, _, e, e', q => by show fp o p ++ foot (os.set i o') ps = _; rw [foot_set (show os[i]? = some _ from e) (show ps[i]? = some _ from e') q]; rfl
 | _ :: _, [], i, _, _, _, e', _ => by rcases i with ⟨⟩ <;> rcases e' with ⟨⟩
theorem foot_snoc {o : AObj} {p : Addr × Addr} : ∀ {os : List AObj} {ps : Rho}, os.length = ps.length → foot (os ++ [o]) (ps ++ [p]) = foot os ps ++ fp o p
 | [], [], _ => by simp [foot]
 | a :: os, b :: ps, e => by
  show fp a b ++ foot (os ++ [o]) (ps ++ [p]) = _
  rw [foot_snoc (by simpa using e)]
  show _ = (fp a b ++ foot os ps) ++ fp o p
  rw [List.append_assoc]
 | [], _ :: _, e => by cases e
 | _ :: _, [], e => by cases e
theorem OsRel.snoc {h : Heap} {ρ : Rho} {o : AObj} {p : Addr × Addr} (r' : ORel h ρ o p) : ∀ {os : List AObj} {ps : Rho}, OsRel h ρ os ps → OsRel h ρ (os ++ [o]) (ps ++ [p])
 | [], [], _ => ⟨r', trivial⟩
 | _ :: _, _ :: _, r => ⟨r.1, OsRel.snoc r' r.2⟩
 | [], _ :: _, r => r.elim
 | _ :: _, [], r => r.elim
noncomputable def put (m : List (Str × AV)) (x : Str) (v : AV) : List (Str × AV) := match m with
 | [] => [(x, v)]
 | (y, u) :: r => if x = y then (x, v) :: r else (y, u) :: put r x v
theorem lookup_put (m : List (Str × AV)) (x : Str) (v : AV) (y : Str) : (put m x v).lookup y = if y = x then some v else m.lookup y := by
 induction m with
 | nil =>
  by_cases e : y = x
  ·simp [put, List.lookup, e]
  ·have : (y == x) = false := by simp [e]
   simp [put, List.lookup, this, e]
 | cons p r ih =>
  obtain ⟨z, u⟩ := p
  unfold put
  by_cases e : x = z
  ·subst e
   rw [if_pos rfl]
   by_cases q : y = x
   ·subst q; simp [List.lookup]
   ·have : (y == x) = false := by simp [q]
    simp [List.lookup, this, q]
  ·rw [if_neg e]
   by_cases q : y = z
   ·subst q
    have : ¬ y = x := fun w => e w.symm
    simp [List.lookup, this]
   ·have : (y == z) = false := by simp [q]
    simp only [List.lookup, this, ih]
theorem length_put (m : List (Str × AV)) (x : Str) (v : AV) : (put m x v).length = if (m.lookup x).isSome then m.length else m.length + 1 := by
 induction m with
 | nil => simp [put, List.lookup]
 | cons p r ih =>
  obtain ⟨z, u⟩ := p
  unfold put
  by_cases e : x = z
  ·subst e; simp [List.lookup]
  ·have : (x == z) = false := by simp [e]
   rw [if_neg e]
   simp only [List.length_cons, List.lookup, this, ih]
   split <;> rfl
theorem ORelV.isSome {h : Heap} {ρ : Rho} {x : Option AV} {v : Option Value} (r : ORelV h ρ x v) : x.isSome = v.isSome := by
 rcases x with ⟨⟩ <;> rcases v with ⟨⟩ <;> first | rfl | exact r.elim
section
variable {cx : Cx} {ρ : Rho} {st : AS} {s s' : Shared}
theorem Rel.own_ne (R : Rel cx ρ st s) {x b : Addr} {o : Obj} (hx : x ∈ cx.env.locals :: foot st.objs ρ) (e : cx.h₀.get? b = some o) (hb : b ∉ cx.mt) : b ≠ x := by
 rintro rfl
 rcases R.own b hx with q | q
 ·exact hb q
 ·rw [q] at e; cases e
theorem Rel.locHere (R : Rel cx ρ st s) : ∃ ob, s.heap.get? cx.env.locals = some ob ∧ ∀ vs n, ob ≠ tupObj vs n := by
 refine el1_2 R.loc fun m z0_1 _ => ?_; refine el3_3 z0_1 fun o es ep ho hd _ => ?_
 exact ⟨o, ho, fun vs n e => by subst e; cases hd⟩
theorem Rel.ext (R : Rel cx ρ st s) (k : ∀ b o, s.heap.get? b = some o → s'.heap.get? b = some o) (g : s'.gens = s.gens) (os : s'.os = s.os) : Rel cx ρ st s' := by
 refine ⟨fun b o e hb => k _ _ (R.keep b o e hb), ?_, OsRel.keeps (.of k) (PKeep.refl _) R.objs fun a _ ob => k a ob, R.nodup, R.own, g.trans R.gens, os.trans R.os, fun p hp => ⟨let ⟨o, a, b⟩ := (R.gho p hp).1; ⟨o, k _ _ a, b⟩, (R.gho p hp).2⟩, R.ghn⟩
 refine el1_2 R.loc fun m hn hm => ?_
 exact ⟨m, hn.keeps k, fun x => (hm x).mono (.of k) (PKeep.refl _)⟩
theorem Rel.store (R : Rel cx ρ st s) {x : Str} {av : AV} {v : Value} (hv : VRel s.heap ρ av v) {m : Str → Option Value} (hm : ∀ y, ORelV s.heap ρ (st.loc.lookup y) (m y))
  (hn : s'.heap.Ns cx.env.locals (fun y => if y = x then some v else m y)) (hs : Heap.ExtBut cx.env.locals s.heap s'.heap) (g : s'.gens = s.gens) (os : s'.os = s.os) :
  Rel cx ρ { st with loc := put st.loc x av } s' := by
 refine el1_2 R.locHere fun ob hob hnt => ?_
 have T : TKeep s.heap s'.heap := .but hs fun vs n e => hnt vs n (Option.some.inj (hob.symm.trans e))
 refine ⟨fun b o e hb => hs b o (R.own_ne (.head _) e hb) (R.keep b o e hb), ⟨_, hn, fun y => ?_⟩, OsRel.keeps T (PKeep.refl _) R.objs fun a ha ob => hs a ob ?_, R.nodup, R.own, g.trans R.gens, os.trans R.os, fun p hp => ⟨let ⟨o, a, b⟩ := (R.gho p hp).1; ⟨o, hs _ _ (fun z => (R.gho p hp).2.1 (z ▸ .head _)) a, b⟩, (R.gho p hp).2⟩, R.ghn⟩
 ·show ORelV _ _ ((put st.loc x av).lookup y) _
  rw [lookup_put]
  by_cases e : y = x
  ·simp only [e, if_true]; exact VRel.mono T (PKeep.refl _) hv
  ·simp only [e, if_false]; exact (hm y).mono T (PKeep.refl _)
 ·rintro rfl
  exact (List.nodup_cons.mp R.nodup).1 ha
theorem Rel.set (R : Rel cx ρ st s) {i : Nat} {o o' : AObj} {p : Addr × Addr} {x : Addr} (ho : st.objs[i]? = some o) (hp : ρ[i]? = some p) (hx : x ∈ fp o p) (hf : fp o' p = fp o p) (hs : Heap.ExtBut x s.heap s'.heap)
  (r : TKeep s.heap s'.heap → ORel s'.heap ρ o' p) (g : s'.gens = s.gens) (os : s'.os = s.os) : Rel cx ρ { st with objs := st.objs.set i o' } s' := by
 refine el1_3 (R.objs.get ho) fun q e1 e2 e3 => ?_
 have : q = p := Option.some.inj (e1.symm.trans hp)
 subst this
 refine el1_2 (e2.fpHere x hx) fun ob hob hnt => ?_
 have T : TKeep s.heap s'.heap := .but hs fun vs n e => hnt vs n (Option.some.inj (hob.symm.trans e))
 have xf := e3 x hx
 have ft := foot_set (o' := o') ho hp hf
 have nl : cx.env.locals ≠ x := fun z => (List.nodup_cons.mp R.nodup).1 (z ▸ xf)
 refine ⟨fun b o e hb => hs b o (R.own_ne (.tail _ xf) e hb) (R.keep b o e hb), ?_, OsRel.set T hs R.objs (List.nodup_cons.mp R.nodup).2 ho hp hx (r T), ?_, ?_, g.trans R.gens, os.trans R.os, fun q hq => ⟨let ⟨o, a, b⟩ := (R.gho q hq).1; ⟨o, hs _ _ (fun z => (R.gho q hq).2.1 (z ▸ .tail _ xf)) a, b⟩, by show q.1 ∉ cx.env.locals :: foot (st.objs.set i o') ρ; rw [ft]; exact (R.gho q hq).2.1, (R.gho q hq).2.2⟩, R.ghn⟩
 ·refine el1_2 R.loc fun m hn hm => ?_
  exact ⟨m, hn.extBut hs nl, fun y => (hm y).mono T (PKeep.refl _)⟩
 ·show (cx.env.locals :: foot (st.objs.set i o') ρ).Nodup
  rw [ft]; exact R.nodup
 ·show ∀ a ∈ cx.env.locals :: foot (st.objs.set i o') ρ, _
  rw [ft]; exact R.own
theorem Rel.new (R : Rel cx ρ st s) {o : AObj} {p : Addr × Addr} (k : ∀ b o, s.heap.get? b = some o → s'.heap.get? b = some o) (hr : ORel s'.heap (ρ ++ [p]) o p)
  (hnew : ∀ a ∈ fp o p, s.heap.get? a = none) (hnd : (fp o p).Nodup) (hkeep : ∀ a ∈ fp o p, cx.h₀.get? a = none ∨ a ∈ cx.mt) (g : s'.gens = s.gens) (os : s'.os = s.os) : Rel cx (ρ ++ [p]) { st with objs := st.objs ++ [o] } s' := by
 have R' := R.ext k g os
 have len := R.objs.len
 have ft : foot (st.objs ++ [o]) (ρ ++ [p]) = foot st.objs ρ ++ fp o p := foot_snoc len
 refine ⟨R'.keep, ?_, OsRel.snoc hr (OsRel.keeps (TKeep.refl _) (PKeep.snoc _ _) R'.objs fun _ _ _ e => e), ?_, ?_, R'.gens, R'.os, fun q hq => ⟨(R'.gho q hq).1, ?_, (R'.gho q hq).2.2⟩, R'.ghn⟩
 ·refine el1_2 R'.loc fun m hn hm => ?_
  exact ⟨m, hn, fun y => (hm y).mono (TKeep.refl _) (PKeep.snoc _ _)⟩
 ·show (cx.env.locals :: foot (st.objs ++ [o]) (ρ ++ [p])).Nodup
  rw [ft, ← List.cons_append]
  refine List.nodup_append.mpr ⟨R.nodup, hnd, fun a ha b hb e => ?_⟩
  subst e
  have hno := hnew a hb
  rcases List.mem_cons.mp ha with rfl | ha
  ·refine el1_2 R.locHere fun ob hob _ => ?_
   rw [hno] at hob; cases hob
  ·refine el1_2 (R.objs.here a ha) fun ob hob _ => ?_
   rw [hno] at hob; cases hob
 ·show ∀ a ∈ cx.env.locals :: foot (st.objs ++ [o]) (ρ ++ [p]), _
  rw [ft]
  intro a ha
  rw [← List.cons_append] at ha
  rcases List.mem_append.mp ha with ha | ha
  ·exact R.own a ha
  ·exact (hkeep a ha).symm
 ·show q.1 ∉ cx.env.locals :: foot (st.objs ++ [o]) (ρ ++ [p])
  rw [ft, ← List.cons_append]
  intro hm
  rcases List.mem_append.mp hm with hm | hm
  ·exact (R.gho q hq).2.1 hm
  ·have := hnew _ hm
   refine el1_2 ((R.gho q hq).1) fun ob hob _ => ?_
   rw [hob] at this; cases this
end
end Mine
end
local macro_rules | `(tactic| w_dflts $h:ident) => `(tactic| first | (have e := Mine.VRel.sint_inv $h; obtain ⟨_, e⟩ := e; subst e; clear $h) | (have e := Mine.VRel.sstr_inv $h; obtain ⟨_, e⟩ := e; subst e; clear $h) | (have e := Mine.VRel.str_inv $h; obtain ⟨_, e⟩ := e; subst e; clear $h) | (have e := Mine.VRel.int_inv $h; obtain ⟨_, e⟩ := e; subst e; clear $h) | (have e := Mine.VRels.nil_inv $h; subst e; clear $h) | (have e := Mine.VRel.obj_inv $h; obtain ⟨_, _, e, _⟩ := e; subst e; clear $h) | (have e := Mine.VRel.val_inv $h; subst e; clear $h) | (have e := Mine.VRel.none_inv $h; subst e; clear $h) | (have e := Mine.VRel.bool_inv $h; subst e; clear $h) | (have e := Mine.VRel.sym_inv $h; subst e; clear $h))
noncomputable section
namespace Mine
open PySem PySem.W PyProof.Rows PySem.Calls
theorem slot_dq_len : Slot "collections.deque" "__len__" "collections.deque.__len__" :=
 Slot.of (owner := "collections.deque") (n := "__len__") (by rw [typeLookup_type, builtinLookup_eq_fast]; kernel_rfl) (by decide +kernel) (by decide +kernel) (by decide +kernel) (.inl (by decide +kernel)) (by rw [isSubtype_type]; kernel_rfl)
theorem slot_dq_append : Slot "collections.deque" "append" "collections.deque.append" :=
 Slot.of (owner := "collections.deque") (n := "append") (by rw [typeLookup_type, builtinLookup_eq_fast]; kernel_rfl) (by decide +kernel) (by decide +kernel) (by decide +kernel) (.inr (by decide +kernel)) (by rw [isSubtype_type]; kernel_rfl)
theorem slot_dq_pop : Slot "collections.deque" "pop" "collections.deque.pop" :=
 Slot.of (owner := "collections.deque") (n := "pop") (by rw [typeLookup_type, builtinLookup_eq_fast]; kernel_rfl) (by decide +kernel) (by decide +kernel) (by decide +kernel) (.inr (by decide +kernel)) (by rw [isSubtype_type]; kernel_rfl)
theorem noBool_dq : typeLookup (.type "collections.deque") "__bool__" = pure none := by rw [typeLookup_type, builtinLookup_eq_fast]; kernel_rfl
theorem entry_dq_len : entryFor table "collections.deque.__len__" = some Builtin.«collections.deque.__len__» := entryFor_of_tree (by kernel_rfl)
theorem entry_dq_append : entryFor table "collections.deque.append" = some Builtin.«collections.deque.append» := entryFor_of_tree (by kernel_rfl)
theorem entry_dq_pop : entryFor table "collections.deque.pop" = some Builtin.«collections.deque.pop» := entryFor_of_tree (by kernel_rfl)
theorem args_dq_len (a : Value) : argsOk "collections.deque.__len__" ⟨[a], []⟩ := by unfold argsOk; kernel_rfl
theorem args_dq_append (a b : Value) : argsOk "collections.deque.append" ⟨[a, b], []⟩ := by unfold argsOk; kernel_rfl
theorem args_dq_pop (a : Value) : argsOk "collections.deque.pop" ⟨[a], []⟩ := by unfold argsOk; kernel_rfl
theorem pa_dq : PlainAttrs "collections.deque" := ⟨⟨"collections.deque.__getattribute__", by rw [typeLookup_type, builtinLookup_eq_fast]; kernel_rfl, by decide +kernel⟩, by rw [typeLookup_type, builtinLookup_eq_fast]; kernel_rfl⟩
theorem ty_dq_append : typeOf (.builtin "collections.deque.append") = pure (.type "method_descriptor") := by show builtinType _ = _; rw [builtinType_eq_fast]; kernel_rfl
theorem ty_dq_pop : typeOf (.builtin "collections.deque.pop") = pure (.type "method_descriptor") := by show builtinType _ = _; rw [builtinType_eq_fast]; kernel_rfl
section
variable {prog : Program} {w : World} {A : Around} {E : Value → Shared → Prop} {s : Shared}
theorem dq_type {a : Addr} {vs : List Value} {n : Int} (h : s.heap.get? a = some (deqObj vs n)) : s.TypeIs (.ref a) "collections.deque" := ⟨_, h, rfl⟩
theorem dq_len {a : Addr} {vs : List Value} {n : Int} {Q : Value → Shared → Prop} (h : s.heap.get? a = some (deqObj vs n)) (hfit : (vs.length : Int) < 2 ^ 63)
  (q : Q (.int vs.length (s.toks + 1)) { s with toks := s.toks + 1 + 1 }) : wpAny (model prog w) A (Builtin.«len» ⟨[.ref a], []⟩) (fun fin s' => ∃ r, fin = .done (.ret r) ∧ Q r s') E s := by
 unfold Builtin.«len»
 refine wpAny_bind (m := oneArg "len" _) (wpAny_pure ?_)
 refine wpAny_bind (m := callSpecial? (.ref a) (Str.ofString "__len__")) (wpAny_callSpecial?_slot (name := Str.ofString "__len__") (dq_type h) slot_dq_len
  (wpAny_call_entry slot_dq_len (dq_type h) entry_dq_len ?_ (args_dq_len _)))
 show wpAny _ _ (Builtin.Deque.size (.ref a) >>= fun x => retInt x) _ _ s
 unfold Builtin.Deque.size
 refine wpAny_bind (wpAny_bind (wpAny_fieldsOf h rfl (wpAny_pure ?_)))
 have hz : (#[Value.none, rawInt n] ++ vs.toArray).size - 2 = vs.length := by simp
 rw [hz]
 refine wpAny_bind (wpAny_mkInt (wpAny_pure ⟨_, rfl, ?_⟩))
 refine wpAny_bind (wpAny_holding (wpAny_pure ?_))
 refine wpAny_bind (wpAny_letGo ?_)
 show wpAny _ _ (if ((vs.length : Nat) : Int) < 0 then _ else _) _ _ _
 rw [if_neg (by lia)]
 show wpAny _ _ (if ((vs.length : Nat) : Int) ≥ 2 ^ 63 then _ else _) _ _ _
 rw [if_neg (by lia)]
 exact wpAny_bind (wpAny_mkInt (wpAny_pure ⟨_, rfl, q⟩))
theorem dq_truth {a : Addr} {vs : List Value} {n : Int} {Q : Bool → Shared → Prop} (h : s.heap.get? a = some (deqObj vs n)) (hfit : (vs.length : Int) < 2 ^ 63)
  (q : Q (!vs.isEmpty) { s with toks := s.toks + 1 + 1 }) : wpAny (model prog w) A (truthy (.ref a)) Q E s := by
 have hne : ((vs.length : Int) != 0) = !vs.isEmpty := by
  rcases vs with _ | ⟨x, l⟩
  ·rfl
  ·simp only [List.isEmpty_cons, Bool.not_false, bne_iff_ne, ne_eq, List.length_cons]; lia
 have key : wpAny (model prog w) A (runValue (.builtin "len" ⟨[.ref a], []⟩)) (fun r s' => r = .int vs.length (s.toks + 1) ∧ Q (!vs.isEmpty) s') E s := by
  refine wpAny_runValue (codeAny_builtin entry_len ?_)
  rw [Around.under_plainId plain_len _]
  exact wpAny_mono (dq_len (Q := fun r s' => r = .int vs.length (s.toks + 1) ∧ Q (!vs.isEmpty) s') h hfit ⟨rfl, q⟩)
   (fun fin s' h' => by obtain ⟨r, rfl, hq⟩ := h'; exact hq) fun _ _ e => e
 unfold truthy
 refine wpAny_bind (wpAny_callSpecial?_none (name := Str.ofString "__bool__") (dq_type h) noBool_dq ?_)
 refine wpAny_bind (wpAny_specialOf (name := Str.ofString "__len__") (dq_type h) slot_dq_len.lookup ?_)
 refine wpAny_bind (wpAny_mono key (fun r s' hr => ?_) fun _ _ e => e)
 obtain ⟨rfl, hq⟩ := hr
 refine wpAny_pure ?_
 rw [hne]; exact hq
end
end Mine
end
noncomputable section
namespace Mine
open PySem PySem.W PyProof.Rows PySem.Calls
section
variable {prog : Program} {w : World} {A : Around} {E : Value → Shared → Prop} {s : Shared}
theorem dq_change {a : Addr} {vs ws : List Value} {n : Int} {f : Array Value → Array Value} {Q : Unit → Shared → Prop} (h : s.heap.get? a = some (deqObj vs n)) (hf : f vs.toArray = ws.toArray) (hz : ws.length < 1000)
  (q : ∀ h', Heap.SameBut a s.heap h' → h'.get? a = some (deqObj ws (n + 1)) → Q () { s with heap := h' }) : wpAny (model prog w) A (Builtin.Deque.change (.ref a) f) Q E s := by
 unfold Builtin.Deque.change Builtin.Deque.state
 refine wpAny_bind (wpAny_bind (wpAny_field h rfl (i := 1) (x := rawInt n) (by simp) (wpAny_pure ?_)))
 have hx : (#[Value.none, rawInt n] ++ vs.toArray).extract 2 (#[Value.none, rawInt n] ++ vs.toArray).size = vs.toArray := by
  apply Array.ext'
  simp
 unfold updateFields
 have e : Obj.mapFields (fun ys => #[ys.getD 0 .none, rawInt (if (true : Bool) then n + 1 else n)] ++ f (ys.extract 2 ys.size)) (deqObj vs n) = deqObj ws (n + 1) := by
  simp only [Obj.mapFields, hx, hf]
  simp
 refine wpAny_bind (wpAny_load h ?_)
 refine wpAny_bind (wpAny_update h ?_)
 have g : (s.heap.update a (Obj.mapFields (fun ys => #[ys.getD 0 .none, rawInt (if (true : Bool) then n + 1 else n)] ++ f (ys.extract 2 ys.size)))).get? a = some (deqObj ws (n + 1)) := by
  rw [← e]; exact Heap.get?_update_self _ h (by rw [e]; rfl)
 refine wpAny_lookBehind g ?_ (q _ (Heap.SameBut.update ..) g)
 refine pastItsLine_fields ?_
 rw [sizeLine_eq]
 simp only [Array.size_append, List.size_toArray]
 show 2 + ws.length ≤ _
 lia
theorem dq_append {a : Addr} {vs : List Value} {n : Int} {v : Value} {Q : Value → Shared → Prop} (h : s.heap.get? a = some (deqObj vs n)) (hz : vs.length + 1 < 1000)
  (q : ∀ h', Heap.SameBut a s.heap h' → h'.get? a = some (deqObj (vs ++ [v]) (n + 1)) → Q .none { s with heap := h' }) : wpAny (model prog w) A (call (.builtin "collections.deque.append") [.ref a, v]) Q E s := by
 refine wpAny_call_entry slot_dq_append (dq_type h) entry_dq_append ?_ (args_dq_append _ _)
 unfold Builtin.«collections.deque.append»
 refine wpAny_bind (m := selfAndOne "deque.append" ⟨[.ref a, v], []⟩) (wpAny_pure ?_)
 dsimp only
 unfold Builtin.Deque.pushRight
 refine wpAny_bind (wpAny_bind (dq_change (ws := vs ++ [v]) h (by simp) (by simpa using hz) fun h' sb g => ?_))
 unfold Builtin.Deque.maxlen
 refine wpAny_bind (wpAny_bind (wpAny_field (s := { s with heap := h' }) g rfl (i := 0) (x := Value.none) (by simp) (wpAny_pure ?_)))
 exact wpAny_pure (wpAny_pure ⟨_, rfl, q h' sb g⟩)
theorem dq_pop {a : Addr} {vs : List Value} {n : Int} {v : Value} {Q : Value → Shared → Prop} (h : s.heap.get? a = some (deqObj (vs ++ [v]) n)) (hz : vs.length < 1000)
  (q : ∀ h', Heap.SameBut a s.heap h' → h'.get? a = some (deqObj vs (n + 1)) → Q v { s with heap := h' }) : wpAny (model prog w) A (call (.builtin "collections.deque.pop") [.ref a]) Q E s := by
 refine wpAny_call_entry slot_dq_pop (dq_type h) entry_dq_pop ?_ (args_dq_pop _)
 unfold Builtin.«collections.deque.pop»
 refine wpAny_bind (m := selfOnly "deque.pop" ⟨[.ref a], []⟩) (wpAny_pure ?_)
 unfold Builtin.Deque.items
 refine wpAny_bind (wpAny_bind (wpAny_fieldsOf h rfl (wpAny_pure ?_)))
 have hx : ((#[Value.none, rawInt n] ++ (vs ++ [v]).toArray).extract 2 (#[Value.none, rawInt n] ++ (vs ++ [v]).toArray).size).back? = some v := by
  have : (#[Value.none, rawInt n] ++ (vs ++ [v]).toArray).extract 2 (#[Value.none, rawInt n] ++ (vs ++ [v]).toArray).size = (vs ++ [v]).toArray := by
   apply Array.ext'
   simp
   exact List.take_of_length_le (by simp)
  rw [this]
  simp
 rw [hx]
 refine wpAny_bind (dq_change (ws := vs) h (by simp) hz fun h' sb g => ?_)
 exact wpAny_pure ⟨_, rfl, q h' sb g⟩
end
end Mine
end
noncomputable section
namespace Mine
open PySem PySem.W PyProof.Rows PySem.Calls
inductive AF where
 | next | brk | cont
 | ret (v : AV)
 | exc (msg : Str)
noncomputable abbrev PostV := AV → AS → Prop
noncomputable abbrev PostF := AF → AS → Prop
structure Tab where
 kind : Str → Option NameKind
 G : Str → Option Value
 pl : Addr → Str → Bool
 me : Addr → Str → Option Addr
 pr : Addr → Str → Option Addr
 bm : Nat → Str → Option String
 sm : Value → List AV → AS → PostV → Prop
 sp : Addr → Nat → AS → PostV → Prop
noncomputable def isI : AV → Option (Int × Bool)
 | .int i => some (i, false)
 | .sint i => some (i, true)
 | _ => none
noncomputable def isS : AV → Option (Str × Bool)
 | .str i => some (i, false)
 | .sstr i => some (i, true)
 | _ => none
noncomputable def mkB : Bool → Bool → AV
 | true, b => .sym b
 | false, b => .bool b
noncomputable def mkI : Bool → Int → AV
 | true, b => .sint b
 | false, b => .int b
noncomputable def mkS : Bool → Str → AV
 | true, b => .sstr b
 | false, b => .str b
noncomputable def bor : Bool → Bool → Bool
 | true, _ => true
 | false, b => b
noncomputable def bch {α : Sort _} : Bool → α → α → α
 | true, a, _ => a
 | false, _, b => b
noncomputable def inStr (y x : Str) : Bool := !(Builtin.Str.occurrences x y 0 x.length 1).isEmpty
noncomputable def intBin (op : Operator) (x : Int) (p : Bool) (y : Int) (q : Bool) (st : AS) (Q : PostV) : Prop := match op with
 | .Add => Q (mkI (bor p q) (x + y)) st
 | .Sub => Q (mkI (bor p q) (x - y)) st
 | .Mult => IntMulOk x y ∧ Q (mkI (bor p q) (x * y)) st
 | .Mod => (match decide (y = 0) with
  | false => Q (mkI (bor p q) (x.fmod y)) st
  | true => False)
 | .FloorDiv => (match decide (y = 0), decide (y.natAbs < 1073741824) with
  | false, true => Q (mkI (bor p q) (x.fdiv y)) st
  | _, _ => False)
 | .BitAnd => Q (mkI (bor p q) (Builtin.bitAnd x y)) st
 | .Pow => (match decide (0 ≤ y ∧ y ≤ 1000000 ∧ x.natAbs < 2 ^ 64) with
  | true => Q (mkI (bor p q) (x ^ y.toNat)) st
  | false => False)
 | _ => False
noncomputable def strBin (op : Operator) (x : Str) (p : Bool) (y : Str) (q : Bool) (st : AS) (Q : PostV) : Prop := match op with
 | .Add => x.length + y.length ≤ sizeLine ∧ Q (mkS (bor p q) (x ++ y)) st
 | _ => False
noncomputable def repS (x : Str) (n : Int) : Str := bch (n == 1) x Str.empty
noncomputable def strMul (op : Operator) (x : Str) (p : Bool) (n : Int) (q : Bool) (st : AS) (Q : PostV) : Prop := match op with
 | .Mult => (n = 0 ∨ n = 1) ∧ Q (mkS (bor p q) (repS x n)) st
 | _ => False
noncomputable def binW (op : Operator) (a b : AV) (st : AS) (Q : PostV) : Prop := match isI a, isI b with
 | some (x, p), some (y, q) => intBin op x p y q st Q
 | _, _ => match isS a, isS b with
  | some (x, p), some (y, q) => strBin op x p y q st Q
  | _, _ => match isS a, isI b with
   | some (x, p), some (n, q) => strMul op x p n q st Q
   | _, _ => False
noncomputable def lstAddW (i j : Nat) (st : AS) (Q : PostV) : Prop := match st.objs[i]?, st.objs[j]? with
 | some (.list xs), some (.list ys) => xs.length + ys.length ≤ 100000 ∧ Q (.obj st.objs.length) { st with objs := st.objs ++ [.list (xs ++ ys)] }
 | _, _ => False
noncomputable def binL (op : Operator) (a b : AV) (st : AS) (Q : PostV) : Prop := match op, a, b with
 | .Add, .obj i, .obj j => lstAddW i j st Q
 | _, _, _ => binW op a b st Q
noncomputable def inpW (op : Operator) (a b : AV) (st : AS) (Q : PostV) : Prop := match op with
 | .Add => binW .Add a b st Q
 | _ => False
noncomputable def intCmp (op : CmpOp) (x y : Int) : Option Bool := match op with
 | .Eq => some (x == y)
 | .NotEq => some (x != y)
 | .Lt => some (decide (x < y))
 | .LtE => some (decide (x ≤ y))
 | .Gt => some (decide (y < x))
 | .GtE => some (decide (y ≤ x))
 | _ => none
noncomputable def strCmp (op : CmpOp) (x y : Str) : Option Bool := match op with
 | .Eq => some (x == y)
 | .NotEq => some (x != y)
 | .In => some (inStr x y)
 | .NotIn => some (!(inStr x y))
 | _ => none
noncomputable def isNoneA : AV → Option Bool
 | .none => some true
 | .val v => some (v == .none)
 | _ => some false
noncomputable def oneType : AV → AV → Option Bool
 | .val (.type a), .val (.type b) => some (a == b)
 | _, _ => none
noncomputable def strsOf : List AV → Option (List Str)
 | [] => some []
 | .str y :: r => (match strsOf r with
  | some l => some (y :: l)
  | none => none)
 | _ :: _ => none
noncomputable def strIn (x : Str) (ys : List AV) : Option Bool := match strsOf ys with
 | some l => some (l.any (·== x))
 | none => none
noncomputable def eqNone (a b : AV) : Option Bool := match a with
 | .none => (match b with
  | .none => some true
  | .str _ => some false
  | .sstr _ => some false
  | _ => none)
 | .str _ => (match b with
  | .none => some false
  | _ => none)
 | .sstr _ => (match b with
  | .none => some false
  | _ => none)
 | _ => none
noncomputable def inTup (a b : AV) : Option Bool := match a with
 | .str x => (match b with
  | .tup ys => strIn x ys
  | _ => none)
 | _ => none
noncomputable def isAny (a b : AV) : Option Bool := match b with
 | .none => isNoneA a
 | .bool _ => (match a with
  | .str _ => some false
  | .sstr _ => some false
  | _ => none)
 | .val v => oneType a (.val v)
 | _ => none
noncomputable def isNotAny (a b : AV) : Option Bool := match b with
 | .none => (isNoneA a).map fun b => !b
 | .val v => (oneType a (.val v)).map fun b => !b
 | _ => none
noncomputable def otherCmp (op : CmpOp) (a b : AV) : Option Bool := match op with
 | .Eq => eqNone a b
 | .In => inTup a b
 | .Is => isAny a b
 | .IsNot => isNotAny a b
 | _ => none
noncomputable def cmpW (op : CmpOp) (a b : AV) (st : AS) (Q : PostV) : Prop := match isI a, isI b with
 | some (x, p), some (y, q) => (match intCmp op x y with | some r => Q (mkB (bor p q) r) st | none => False)
 | _, _ => match isS a, isS b with
  | some (x, p), some (y, q) => (match strCmp op x y with | some r => Q (mkB (bor p q) r) st | none => False)
  | _, _ => match otherCmp op a b with
   | some r => Q (.bool r) st
   | none => False
noncomputable def askW (b : Bool) (st : AS) (Q : Bool → AS → Prop) : Prop := match st.dec with
 | d :: ds => b = d ∧ Q d { st with dec := ds }
 | [] => False
noncomputable def leafW (a : AV) (st : AS) (Q : Bool → AS → Prop) : Prop := match a with
 | .none => Q false st
 | .bool b => bch b (Q true st) (Q false st)
 | .sym b => askW b st Q
 | .int i => bch (i != 0) (Q true st) (Q false st)
 | .sint i => askW (i != 0) st Q
 | .str x => (match decide (x.length < 1000) with
  | true => bch ((x.length : Int) != 0) (Q true st) (Q false st)
  | false => False)
 | .sstr x => x.length ≤ sizeLine ∧ askW ((x.length : Int) != 0) st Q
 | .obj i => (match st.objs[i]? with
  | some (.deque xs) => (match decide (xs.length < 1000) with
   | true => bch xs.isEmpty (Q false st) (Q true st)
   | false => False)
  | _ => False)
 | _ => False
noncomputable def okBase : Expr → Bool
 | .Call .. => false
 | _ => true
noncomputable def noComp : Expr → Bool
 | .ListComp .. => false
 | .SetComp .. => false
 | .DictComp .. => false
 | _ => true
noncomputable def noStar : List Expr → Bool
 | [] => true
 | .Starred .. :: _ => false
 | _ :: r => noStar r
noncomputable def plainTest : Expr → Bool
 | .Name .. => true
 | .Attribute .. => true
 | .Call .. => true
 | .Constant .. => true
 | _ => false
noncomputable def noVal : AV → Bool
 | .val _ => false
 | _ => true
noncomputable def attrW (T : Tab) (name : Str) (a : AV) (st : AS) (Q : PostV) : Prop := match a with
 | .obj i => (match st.objs[i]? with
  | some (.inst C m) => (match T.pr C name with
   | some f => T.sp f i st fun v st => (match noVal v with
    | true => Q v st
    | false => False)
   | none => (match T.pl C name, m.lookup name with
    | true, some v => (match noVal v with
     | true => Q v st
     | false => False)
    | _, _ => False))
  | _ => False)
 | _ => False
noncomputable def setW (T : Tab) (name : Str) (a v : AV) (st : AS) (Q : AS → Prop) : Prop := match a with
 | .obj i => (match st.objs[i]? with
  | some (.inst C m) => (match T.pl C name, decide (m.length < 1000) with
   | true, true => Q { st with objs := st.objs.set i (.inst C (put m name v)) }
   | _, _ => False)
  | _ => False)
 | _ => False
noncomputable def methW (T : Tab) (name : Str) (a : AV) (st : AS) : Option Value := match a with
 | .str _ => (T.bm 0 name).map .builtin
 | .sstr _ => (T.bm 0 name).map .builtin
 | .obj i => (match st.objs[i]? with
  | some (.inst C m) => (match m.lookup name with
   | some _ => none
   | none => (T.me C name).map .ref)
  | some (.list _) => (T.bm 1 name).map .builtin
  | some (.deque _) => (T.bm 2 name).map .builtin
  | none => none)
 | _ => none
noncomputable def optI : AV → Option (Option Int × Bool)
 | .none => some (none, false)
 | .int i => some (some i, false)
 | .sint i => some (some i, true)
 | _ => none
noncomputable def sliceW (a l u : AV) (st : AS) (Q : PostV) : Prop := match isS a with
 | some (x, p) => (match optI l with
  | some (i, q) => (match optI u with
   | some (j, r) => (match i with
    | some i => x.length ≤ sizeLine ∧ Q (mkS (bor p (bor q r)) (Txt.slice x (some i) j)) st
    | none => (match j with
     | some j => x.length ≤ sizeLine ∧ Q (mkS (bor p (bor q r)) (Txt.slice x none (some j))) st
     | none => False))
   | none => False)
  | none => False)
 | none => False
noncomputable def chrAt (x : Str) (i : Int) : Str := ⟨#[((seqIndex? i x.length).bind (x.cps[·]?)).getD 0]⟩
noncomputable def InStr (x : Str) (i : Int) : Prop := -(2 ^ 63) ≤ i ∧ i < 2 ^ 63 ∧ ((seqIndex? i x.length).bind (x.cps[·]?)).isSome = true
noncomputable def pickW (i : Int) : List AV → Nat → AS → PostV → Prop
 | [], _, _, _ => False
 | x :: r, k, st, Q => (match decide (k < 1000) with
  | true => askW (i == (k : Int)) st fun d st => bch d (Q x st) (pickW i r (k + 1) st Q)
  | false => False)
noncomputable def atW (i : Int) (xs : List AV) (st : AS) (Q : PostV) : Prop := match i == -1, decide (0 ≤ i ∧ i < 100000) with
 | true, _ => xs.length ≤ 100000 ∧ ∃ ys y, xs = ys ++ [y] ∧ Q y st
 | false, true => ∃ y, xs[i.toNat]? = some y ∧ Q y st
 | _, _ => False
noncomputable def itemW (a b : AV) (st : AS) (Q : PostV) : Prop := match isS a, isI b with
 | some (x, p), some (i, q) => InStr x i ∧ Q (mkS (bor p q) (chrAt x i)) st
 | _, _ => match a, isI b with
  | .obj j, some (i, sy) => (match st.objs[j]? with
   | some (.list xs) => bch sy (pickW i xs 0 st Q) (atW i xs st Q)
   | _ => False)
  | _, _ => False
noncomputable def setAtW (a b v : AV) (st : AS) (Q : AS → Prop) : Prop := match a, b with
 | .obj j, .int i => (match st.objs[j]?, decide (0 ≤ i ∧ i < 100000) with
  | some (.list xs), true => i.toNat < xs.length ∧ Q { st with objs := st.objs.set j (.list (xs.set i.toNat v)) }
  | _, _ => False)
 | _, _ => False
noncomputable def isSlice : Expr → Bool
 | .Slice .. => true
 | _ => false
mutual
noncomputable def evW (T : Tab) : Nat → Expr → AS → PostV → Prop
 | 0, _, _, _ => False
 | n + 1, e, st, Q => match e with
  | .Constant c _ _ => (match c with
   | .none => Q .none st
   | .bool b => Q (.bool b) st
   | .int i => Q (.int i) st
   | .str x => Q (.str x) st
   | _ => False)
  | .Name x _ => (match x == ("__debug__" : Str), T.kind x with
   | false, some .local => (match st.loc.lookup x with
    | some v => Q v st
    | none => False)
   | false, some .globalImplicit => (match T.G x with
    | some v => Q (.val v) st
    | none => False)
   | _, _ => False)
  | .Attribute o name _ => (match okBase o with
   | true => evW T n o st fun a st => attrW T name a st Q
   | false => False)
  | .BinOp l op r _ => evW T n l st fun a st => evW T n r st fun b st => binL op a b st Q
  | .Compare l [op] [r] _ => (match behindInMarks op r with
   | false => evW T n l st fun a st => evW T n r st fun b st => cmpW op a b st Q
   | true => False)
  | .UnaryOp op x _ => (match op with
   | .USub => evW T n x st fun a st => (match isI a with
    | some (i, p) => Q (mkI p (-i)) st
    | none => False)
   | _ => False)
  | .IfExp t b o _ => trW T n t st fun c st => bch c (evW T n b st Q) (evW T n o st Q)
  | .Tuple es _ _ => (match noStar es with
   | true => evsW T n es st fun vs st => (match decide (vs.length < 1000) with | true => Q (.tup vs) st | false => False)
   | false => False)
  | .List es _ => (match noStar es with
   | true => evsW T n es st fun vs st => (match decide (vs.length < 1000) with | true => Q (.obj st.objs.length) { st with objs := st.objs ++ [.list vs] } | false => False)
   | false => False)
  | .Call f args [] pos => (match noStar args with
   | true => (match f with
    | .Attribute o name apos => (match okBase o, apos.endLine == pos.line, decide (args.length < 29) with
     | true, true, true => evW T n o st fun a st => (match methW T name a st with
      | some m => evsW T n args st fun vs st => T.sm m (a :: vs) st Q
      | none => False)
     | _, _, _ => False)
    | .Name x p => (match x == ("__debug__" : Str), T.kind x, T.G x with
      | false, some .globalImplicit, some v => evsW T n args st fun vs st => T.sm v vs st Q
      | _, _, _ => False)
    | _ => False)
   | false => False)
  | .Subscript v (.Slice lo hi none _) _ => evW T n v st fun a st => (match lo with
    | none => (fun l (st : AS) => match hi with
     | none => False
     | some h => evW T n h st fun u st => sliceW a l u st Q) .none st
    | some g => evW T n g st fun l st => match hi with
     | none => sliceW a l .none st Q
     | some h => evW T n h st fun u st => sliceW a l u st Q)
  | .Subscript v i _ => (match isSlice i with
   | false => evW T n v st fun a st => evW T n i st fun b st => itemW a b st Q
   | true => False)
  | _ => False
noncomputable def evsW (T : Tab) : Nat → List Expr → AS → (List AV → AS → Prop) → Prop
 | 0, _, _, _ => False
 | n + 1, es, st, Q => match es with
  | [] => Q [] st
  | e :: es => evW T n e st fun v st => evsW T n es st fun vs st => Q (v :: vs) st
noncomputable def trW (T : Tab) : Nat → Expr → AS → (Bool → AS → Prop) → Prop
 | 0, _, _, _ => False
 | n + 1, e, st, Q => match e with
  | .UnaryOp .Not x _ => trW T n x st fun b st => bch b (Q false st) (Q true st)
  | .BoolOp op vs _ => trsW T n op vs st Q
  | .Compare l [op] [r] _ => (match behindInMarks op r with
   | false => evW T n l st fun a st => evW T n r st fun b st => cmpW op a b st fun c st => leafW c st Q
   | true => False)
  | e => (match plainTest e with
   | true => evW T n e st fun a st => leafW a st Q
   | false => False)
noncomputable def trsW (T : Tab) : Nat → BoolOp → List Expr → AS → (Bool → AS → Prop) → Prop
 | 0, _, _, _, _ => False
 | n + 1, op, es, st, Q => match es with
  | [] => (match op with
   | .And => Q true st
   | .Or => Q false st)
  | e :: es => trW T n e st fun b st => (match op with
   | .And => bch b (trsW T n op es st Q) (Q false st)
   | .Or => bch b (Q true st) (trsW T n op es st Q))
end
noncomputable def plainA : AV → Bool
 | .obj _ => false
 | .tup _ => false
 | .val _ => false
 | _ => true
mutual
noncomputable def exW (T : Tab) : Nat → Stmt → AS → PostF → Prop
 | 0, _, _, _ => False
 | n + 1, x, st, Q => match x with
  | .Assign ts v _ => (match ts with
   | [t] => (match t with
    | .Name x _ => (match noComp v, T.kind x with
     | true, some .local => evW T n v st fun a st => Q .next { st with loc := put st.loc x a }
     | _, _ => False)
    | .Attribute o name _ => (match noComp v with
     | true => evW T n v st fun a st => evW T n o st fun b st => setW T name b a st fun st => Q .next st
     | false => False)
    | .Subscript o i _ => (match noComp v, isSlice i with
     | true, false => evW T n v st fun a st => evW T n o st fun b st => evW T n i st fun c st => setAtW b c a st fun st => Q .next st
     | _, _ => False)
    | _ => False)
   | _ => False)
  | .AugAssign t op v _ => (match t with
   | .Name x _ => (match T.kind x, st.loc.lookup x with
    | some .local, some old => evW T n v st fun a st => inpW op old a st fun r st => Q .next { st with loc := put st.loc x r }
    | _, _ => False)
   | .Attribute o name _ => evW T n o st fun b st => attrW T name b st fun old st => evW T n v st fun a st => inpW op old a st fun r st => setW T name b r st fun st => Q .next st
   | .Subscript o i _ => (match isSlice i with
    | false => evW T n o st fun b st => evW T n i st fun c st => (match b, c with
     | .obj j, .int i => itemW (.obj j) (.int i) st fun old st => evW T n v st fun a st => inpW op old a st fun r st => setAtW (.obj j) (.int i) r st fun st => Q .next st
     | _, _ => False)
    | true => False)
   | _ => False)
  | .Expr e _ => (match noComp e with
   | true => evW T n e st fun a st => (match plainA a with
    | true => Q .next st
    | false => False)
   | false => False)
  | .If t b o _ => trW T n t st fun c st => bch c (exsW T n b st Q) (exsW T n o st Q)
  | .Return none _ => Q (.ret .none) st
  | .Return (some e) _ => evW T n e st fun a st => Q (.ret a) st
  | .Pass _ => Q .next st
  | .Break _ => Q .brk st
  | .Continue _ => Q .cont st
  | .Raise e c _ => (match e, c with
   | some e, none => (match e with
    | .Call f args kws _ => (match f with
     | .Name x _ => (match args, kws with
      | [a], [] => (match a with
       | .Constant cc _ _ => (match cc with
        | .str msg => (match x == ("ValueError" : Str), T.kind x with
         | true, some .globalImplicit => Q (.exc msg) st
         | _, _ => False)
        | _ => False)
       | _ => False)
      | _, _ => False)
     | _ => False)
    | _ => False)
   | _, _ => False)
  | _ => False
noncomputable def exsW (T : Tab) : Nat → List Stmt → AS → PostF → Prop
 | 0, _, _, _ => False
 | n + 1, xs, st, Q => match xs with
  | [] => Q .next st
  | x :: xs => exW T n x st fun f st => (match f with
   | .next => exsW T n xs st Q
   | f => Q f st)
end
end Mine
end
noncomputable section
namespace Mine
open PySem PySem.W PyProof.Rows PySem.Calls
theorem nS {α : Type} {r : α} {P : Prop} (w : (none : Option α) = some r) : P := nomatch w
section
variable {h : Heap} {ρ : Rho}
theorem isI_rel {a : AV} {x : Int} {p : Bool} {v : Value} (e : isI a = some (x, p)) (r : VRel h ρ a v) : ∃ t, v = .int x t := by
 cases r <;> first | exact nS e | (obtain ⟨rfl, rfl⟩ := Prod.mk.inj (Option.some.inj e); exact ⟨_, rfl⟩)
theorem isS_rel {a : AV} {x : Str} {p : Bool} {v : Value} (e : isS a = some (x, p)) (r : VRel h ρ a v) : ∃ t, v = .str x t := by
 cases r <;> first | exact nS e | (obtain ⟨rfl, rfl⟩ := Prod.mk.inj (Option.some.inj e); exact ⟨_, rfl⟩)
theorem mkI_rel (p : Bool) (x : Int) (t : Tok) : VRel h ρ (mkI p x) (.int x t) := by cases p; exact .int _ _; exact .sint _ _
theorem mkS_rel (p : Bool) (x : Str) (t : Tok) : VRel h ρ (mkS p x) (.str x t) := by cases p; exact .str _ _; exact .sstr _ _
theorem mkB_rel (p : Bool) (x : Bool) : VRel h ρ (mkB p x) (.bool x) := by cases p; exact .bool _; exact .sym _
end
structure CxOk (cx : Cx) : Prop where
 kf : cx.env.scope.kind = .function
 gl : cx.env.globals = mainGlobals
 bi : cx.env.builtins = builtinsNs
 kin : cx.K.In cx.base
 sub : ∀ b o, cx.base.get? b = some o → cx.h₀.get? b = some o
 fresh : ∀ a ∈ cx.mt, cx.base.get? a = none
section
variable {cx : Cx} {ρ : Rho} {st : AS} {s : Shared}
theorem Rel.base (C : CxOk cx) (R : Rel cx ρ st s) : ∀ b o, cx.base.get? b = some o → s.heap.get? b = some o := fun b o e => R.keep b o (C.sub b o e) fun m => by have := C.fresh b m; rw [this] at e; cases e
theorem Rel.kin (C : CxOk cx) (R : Rel cx ρ st s) : cx.K.In s.heap := C.kin.keeps (R.base C)
theorem Rel.toks (R : Rel cx ρ st s) {t : Nat} : Rel cx ρ st { s with toks := t } := ⟨R.keep, R.loc, R.objs, R.nodup, R.own, R.gens, R.os, R.gho, R.ghn⟩
theorem Rel.dec (R : Rel cx ρ st s) {d : List Bool} : Rel cx ρ { st with dec := d } s := ⟨R.keep, R.loc, R.objs, R.nodup, R.own, R.gens, R.os, R.gho, R.ghn⟩
end
noncomputable abbrev KV (cx : Cx) (ρ : Rho) (s : Shared) (Qa : PostV) (Q : Value → Shared → Prop) : Prop :=
 ∀ ρ' s' v av st', PKeep ρ ρ' → TKeep s.heap s'.heap → Rel cx ρ' st' s' → VRel s'.heap ρ' av v → Qa av st' → Q v s'
section
variable {cx : Cx} {A : Around} {E : Value → Shared → Prop} {Q : Value → Shared → Prop} {ρ : Rho} {st : AS} {s : Shared} {Qa : PostV}
theorem KV.here (k : KV cx ρ s Qa Q) {v : Value} {av : AV} {t : Nat} (R : Rel cx ρ st s) (V : VRel s.heap ρ av v) (q : Qa av st) : Q v { s with toks := t } :=
 k ρ _ v av st (PKeep.refl _) (TKeep.refl _) R.toks V q
theorem KV.here' (k : KV cx ρ s Qa Q) {v : Value} {av : AV} (R : Rel cx ρ st s) (V : VRel s.heap ρ av v) (q : Qa av st) : Q v s :=
 k ρ _ v av st (PKeep.refl _) (TKeep.refl _) R V q
theorem KV.after {ρ' : Rho} {s' : Shared} (k : KV cx ρ s Qa Q) (p : PKeep ρ ρ') (t : TKeep s.heap s'.heap) : KV cx ρ' s' Qa Q :=
 fun ρ₂ s₂ v av st' p₂ t₂ R V q => k ρ₂ s₂ v av st' (p.trans p₂) (t.trans t₂) R V q
theorem binW_ok {op : Operator} {a b : AV} {va vb : Value} (w : binW op a b st Qa) (R : Rel cx ρ st s) (ra : VRel s.heap ρ a va) (rb : VRel s.heap ρ b vb) (k : KV cx ρ s Qa Q) :
  wpAny (model cx.prog cx.w) A (binaryOp op va vb) Q E s := by
 unfold binW at w
 split at w
 ·rename_i x p y q ea eb
  obtain ⟨t, rfl⟩ := isI_rel ea ra
  obtain ⟨u, rfl⟩ := isI_rel eb rb
  rcases op with ⟨⟩ <;> first | exact False.elim w | (conv at w => whnf)
  ·exact add_int (k.here R (mkI_rel _ _ _) w)
  ·exact sub_int (k.here R (mkI_rel _ _ _) w)
  ·exact mul_int (k.here R (mkI_rel _ _ _) w.2) w.1
  ·refine el0_2 (bf w) fun z w => ?_
   ·skip
    exact mod_int' (of_decide_eq_false z) (k.here R (mkI_rel _ _ _) w)
  ·refine el0_2 (bt w) fun z w => ?_
   ·skip
    have z := of_decide_eq_true z
    exact pow_int_small z.1 z.2.1 z.2.2 (k.here R (mkI_rel _ _ _) w)
  ·exact and_int (k.here R (mkI_rel _ _ _) w)
  ·split at w
   ·rename_i z1 z2
    exact floordiv_int (of_decide_eq_false z1) (k.here R (mkI_rel _ _ _) w) (.inl (PyProof.noPylong_small (of_decide_eq_true z2)))
   ·exact w.elim
 ·split at w
  ·rename_i x p y q ea eb
   obtain ⟨t, rfl⟩ := isS_rel ea ra
   obtain ⟨u, rfl⟩ := isS_rel eb rb
   rcases op with ⟨⟩ <;> first | exact False.elim w | (conv at w => whnf)
   exact add_str (fun t' tk => k.here R (mkS_rel _ _ _) w.2) w.1
  ·split at w
   ·rename_i x p n q ea eb
    obtain ⟨t, rfl⟩ := isS_rel ea ra
    obtain ⟨u, rfl⟩ := isI_rel eb rb
    rcases op with ⟨⟩ <;> first | exact False.elim w | (conv at w => whnf)
    obtain ⟨hn, w⟩ := w
    rcases hn with rfl | rfl
    ·exact P.mul_str_none (by decide) (by decide) (k.here R (mkS_rel _ _ _) w)
    ·exact P.mul_str (by decide) (fun _ h => by simp at h) (fun _ h => by simp at h) (by rw [if_neg (by decide), if_pos (by simp)]; exact k.here' R (mkS_rel _ _ _) w)
   ·exact w.elim
theorem binL_ok {op : Operator} {a b : AV} {va vb : Value} (w : binL op a b st Qa) (R : Rel cx ρ st s) (ra : VRel s.heap ρ a va) (rb : VRel s.heap ρ b vb) (k : KV cx ρ s Qa Q) :
  wpAny (model cx.prog cx.w) A (binaryOp op va vb) Q E s := by
 unfold binL at w
 split at w
 ·rename_i i j
  unfold lstAddW at w
  split at w
  ·rename_i xs ys ei ej
   cases ra with
   | obj _ l d hl =>
   cases rb with
   | obj _ l2 d2 hl2 =>
   refine el1_3 (R.objs.get ei) fun p e1 e2 e3 => ?_
   have : p = (l, d) := Option.some.inj (e1.symm.trans hl)
   subst this
   refine el1_3 (R.objs.get ej) fun q f1 f2 f3 => ?_
   have : q = (l2, d2) := Option.some.inj (f1.symm.trans hl2)
   subst this
   refine el2_2 e2 fun vs n h1 h2 => ?_
   refine el2_2 f2 fun us m g1 g2 => ?_
   have len1 := h2.length
   have len2 := g2.length
   refine P.add_list (items := vs.toArray) (items2 := us.toArray) h1 g1 ?_ (by rw [sizeLine_eq, List.size_toArray, List.size_toArray]; lia)
   have keep : ∀ b o, s.heap.get? b = some o → (s.heap.push { cls := .type "list", data := .seq (vs.toArray ++ us.toArray) }).get? b = some o := fun b o e => Heap.get?_push_of_some _ e
   have hno : s.heap.get? s.heap.objs.size = none := by
    cases q : s.heap.get? s.heap.objs.size with
    | none => rfl
    | some o => exact absurd (Heap.lt_size q) (Nat.lt_irrefl _)
   have len := R.objs.len
   refine k (ρ ++ [(s.heap.objs.size, 0)]) _ _ (.obj st.objs.length) _ (PKeep.snoc _ _) (.of keep) (R.new (s' := { s with heap := s.heap.push { cls := .type "list", data := .seq (vs.toArray ++ us.toArray) } }) (p := (s.heap.objs.size, 0)) (o := .list (xs ++ ys)) keep ⟨vs ++ us, 0, ?_, ?_⟩ (fun a ha => ?_) (by simp [fp]) (fun a ha => ?_) rfl rfl) (.obj st.objs.length s.heap.objs.size 0 (by rw [len]; simp)) w.2
   ·show Heap.get? _ _ = _
    rw [Heap.get?_push_size _ rfl]; simp [lstObj]
   ·exact VRels.append (h2.mono (.of keep) (PKeep.snoc _ _)) (g2.mono (.of keep) (PKeep.snoc _ _))
   ·simp only [fp, List.mem_singleton] at ha; subst ha; exact hno
   ·simp only [fp, List.mem_singleton] at ha; subst ha
    by_cases z : s.heap.objs.size ∈ cx.mt
    ·exact .inr z
    ·refine .inl ?_
     cases y : cx.h₀.get? s.heap.objs.size with
     | none => rfl
     | some o => have := R.keep _ _ y z; rw [hno] at this; cases this
  ·exact w.elim
 ·exact binW_ok w R ra rb k
theorem inpW_ok {op : Operator} {a b : AV} {va vb : Value} (w : inpW op a b st Qa) (R : Rel cx ρ st s) (ra : VRel s.heap ρ a va) (rb : VRel s.heap ρ b vb) (k : KV cx ρ s Qa Q) :
  wpAny (model cx.prog cx.w) A (inplaceOp op va vb) Q E s := by
 rcases op with ⟨⟩ <;> simp only [inpW] at w
 unfold binW at w
 split at w
 ·rename_i x p y q ea eb
  obtain ⟨t, rfl⟩ := isI_rel ea ra
  obtain ⟨u, rfl⟩ := isI_rel eb rb
  exact iadd_int (k.here R (mkI_rel _ _ _) w)
 ·split at w
  ·rename_i x p y q ea eb
   obtain ⟨t, rfl⟩ := isS_rel ea ra
   obtain ⟨u, rfl⟩ := isS_rel eb rb
   conv at w => whnf
   exact iadd_str (fun t' tk => k.here R (mkS_rel _ _ _) w.2) w.1
  ·split at w
   ·exact w.elim
   ·exact w.elim
theorem isNone_rel {h : Heap} {a : AV} {b : Bool} {v : Value} (e : isNoneA a = some b) (r : VRel h ρ a v) : (v == .none) = b := by
 cases r <;> (have e := Option.some.inj e; subst e; rfl)
theorem strsOf_rel {h : Heap} : ∀ {ys : List AV} {vs : List Value} {zs : List Str}, strsOf ys = some zs → VRels h ρ ys vs → StrsAre vs zs := by
 intro ys
 induction ys with
 | nil => intro vs zs e V; obtain rfl := V.nil_inv; obtain rfl := Option.some.inj e; exact .nil
 | cons y ys ih =>
  intro vs zs e V
  refine el2_3 V.cons_inv fun v vs q0_2 r rs => ?_; subst q0_2
  rcases y with ⟨⟩
  all_goals try exact nS e
  refine el1_1 (VRel.str_inv r) fun _ q0_1 => ?_; subst q0_1
  conv at e => lhs; whnf
  split at e
  ·rename_i l q
   obtain rfl := Option.some.inj e
   exact .cons _ _ (ih q rs)
  ·exact nS e
theorem ty_beq (x y : String) : (Value.type x == Value.type y) = (x == y) := Bool.eq_iff_iff.mpr (by rw [beq_iff_eq, beq_iff_eq]; exact ⟨fun e => Value.type.inj e, fun e => e ▸ rfl⟩)
theorem oneType_of {a : AV} {v : Value} {r : Bool} (w : oneType a (.val v) = some r) : ∃ x y, a = .val (.type x) ∧ v = .type y ∧ r = (x == y) := by
 rcases a with ⟨⟩
 all_goals try exact nS w
 rename_i u
 rcases u with ⟨⟩
 all_goals try exact nS w
 rcases v with ⟨⟩
 all_goals try exact nS w
 exact ⟨_, _, rfl, rfl, (Option.some.inj w).symm⟩
theorem strIn_of {x : Str} {ys : List AV} {r : Bool} (w : strIn x ys = some r) : ∃ zs, strsOf ys = some zs ∧ r = zs.any (·== x) := by
 unfold strIn at w
 split at w
 ·exact ⟨_, ‹_›, (Option.some.inj w).symm⟩
 ·exact nS w
theorem otherCmp_ok {op : CmpOp} {a b : AV} {va vb : Value} {r : Bool} (w : otherCmp op a b = some r) (ra : VRel s.heap ρ a va) (rb : VRel s.heap ρ b vb) (k : Q (.bool r) s) :
  wpAny (model cx.prog cx.w) A (compareOp op va vb) Q E s := by
 rcases op with ⟨⟩
 all_goals try exact nS w
 ·rcases a with ⟨⟩
  all_goals try exact nS w
  ·rcases b with ⟨⟩
   all_goals try exact nS w
   ·w_dflts ra; w_dflts rb; cases w; exact EqNone.eq_none_none k
   ·w_dflts ra; w_dflts rb; cases w; exact EqNone.eq_none_str k
   ·w_dflts ra; w_dflts rb; cases w; exact EqNone.eq_none_str k
  ·rcases b with ⟨⟩
   all_goals try exact nS w
   w_dflts ra; w_dflts rb; cases w; exact EqNone.eq_str_none k
  ·rcases b with ⟨⟩
   all_goals try exact nS w
   w_dflts ra; w_dflts rb; cases w; exact EqNone.eq_str_none k
 ·rcases b with ⟨⟩
  all_goals try exact nS w
  ·w_dflts rb
   exact is_none_gen (by rw [isNone_rel w ra]; exact k)
  ·rcases a with ⟨⟩
   all_goals try exact nS w
   ·w_dflts ra; w_dflts rb; cases w; exact wpAny_pure k
   ·w_dflts ra; w_dflts rb; cases w; exact wpAny_pure k
  ·refine el2_3 (oneType_of w) fun x y q0_2 q0_3 q0_4 => ?_; subst q0_2; subst q0_3; subst q0_4
   w_dflts ra; w_dflts rb
   refine wpAny_pure (a := Value.bool (Value.type _ == Value.type _)) ?_
   rw [ty_beq]; exact k
 ·rcases b with ⟨⟩
  all_goals try exact nS w
  ·w_dflts rb
   refine el1_2 (Option.map_eq_some_iff.mp w) fun b hb q0_2 => ?_; subst q0_2
   exact isnot_none_gen (by rw [isNone_rel hb ra]; exact k)
  ·refine el1_2 (Option.map_eq_some_iff.mp w) fun b hb q0_2 => ?_; subst q0_2
   refine el2_3 (oneType_of hb) fun x y q0_2 q0_3 q0_4 => ?_; subst q0_2; subst q0_3; subst q0_4
   w_dflts ra; w_dflts rb
   refine wpAny_pure (a := Value.bool (!(Value.type _ == Value.type _))) ?_
   rw [ty_beq]; exact k
 ·rcases a with ⟨⟩
  all_goals try exact nS w
  rcases b with ⟨⟩
  all_goals try exact nS w
  w_dflts ra
  cases rb with
  | tup xs vs l n e rs =>
   refine el1_2 (strIn_of w) fun zs q q0_2 => ?_; subst q0_2
   exact in_tuple_strs (items := vs.toArray) ⟨_, e, rfl, n, rfl⟩ (by simpa using strsOf_rel q rs) k
theorem cmpW_ok {op : CmpOp} {a b : AV} {va vb : Value} (w : cmpW op a b st Qa) (R : Rel cx ρ st s) (ra : VRel s.heap ρ a va) (rb : VRel s.heap ρ b vb) (k : KV cx ρ s Qa Q) :
  wpAny (model cx.prog cx.w) A (compareOp op va vb) Q E s := by
 unfold cmpW at w
 split at w
 ·rename_i x p y q ea eb
  obtain ⟨t, rfl⟩ := isI_rel ea ra
  obtain ⟨u, rfl⟩ := isI_rel eb rb
  rcases op with ⟨⟩ <;> first | exact False.elim w | (conv at w => whnf)
  ·exact eq_int (k.here' R (mkB_rel _ _) w)
  ·exact ne_int (k.here' R (mkB_rel _ _) w)
  ·exact lt_int (k.here' R (mkB_rel _ _) w)
  ·exact le_int (k.here' R (mkB_rel _ _) w)
  ·exact gt_int (k.here' R (mkB_rel _ _) w)
  ·exact ge_int (k.here' R (mkB_rel _ _) w)
 ·split at w
  ·rename_i x p y q ea eb
   obtain ⟨t, rfl⟩ := isS_rel ea ra
   obtain ⟨u, rfl⟩ := isS_rel eb rb
   rcases op with ⟨⟩ <;> first | exact False.elim w | (conv at w => whnf)
   ·exact eq_str (k.here' R (mkB_rel _ _) w)
   ·exact ne_str (k.here' R (mkB_rel _ _) w)
   ·exact in_str (k.here' R (mkB_rel _ _) w)
   ·exact notIn_str (k.here' R (mkB_rel _ _) w)
  ·split at w
   ·rename_i r hr
    exact otherCmp_ok hr ra rb (k.here' R (.bool _) w)
   ·exact w.elim
noncomputable abbrev KB (cx : Cx) (ρ : Rho) (s : Shared) (Qa : Bool → AS → Prop) (Q : Bool → Shared → Prop) : Prop :=
 ∀ ρ' s' b st', PKeep ρ ρ' → TKeep s.heap s'.heap → Rel cx ρ' st' s' → Qa b st' → Q b s'
theorem askW_ok {Qb : Bool → AS → Prop} {Q : Bool → Shared → Prop} {b : Bool} {t : Nat} (w : askW b st Qb) (R : Rel cx ρ st s) (k : KB cx ρ s Qb Q) : Q b { s with toks := t } := by
 unfold askW at w
 split at w
 ·obtain ⟨rfl, w⟩ := w
  exact k ρ _ _ _ (PKeep.refl _) (TKeep.refl _) R.dec.toks w
 ·exact w.elim
theorem bch_ok {Qb : Bool → AS → Prop} {Q : Bool → Shared → Prop} {b : Bool} {t : Nat} (w : bch b (Qb true st) (Qb false st)) (R : Rel cx ρ st s) (k : KB cx ρ s Qb Q) : Q b { s with toks := t } := by
 rcases b with ⟨⟩ <;> exact k ρ _ _ _ (PKeep.refl _) (TKeep.refl _) R.toks w
end
end Mine
end
noncomputable section
namespace Mine
open PySem PySem.W PyProof.Rows PySem.Calls
structure PlainAttr (K : Frag) (C : Addr) (x : Str) : Prop where
 get : plainGet K C x = true
 has : hasDictIn K C = true
 no : findIn K (.ref C) x = some none
 over : plainOver K C = true
 taker : takerIn K C x = some none
 set : findIn K (.ref C) "__setattr__" = some (some (.builtin "object.__setattr__"))
structure MethAt (K : Frag) (C : Addr) (x : Str) (f : Addr) : Prop where
 get : plainGet K C x = true
 at_ : findIn K (.ref C) x = some (some (.ref f))
 fn : typeIn K (.ref f) = some (.type "function")
 keep : keepIn K (.ref f) = true
structure PropAt (K : Frag) (C : Addr) (x : Str) (f : Addr) : Prop where
 get : plainGet K C x = true
 has : hasDictIn K C = true
 at_ : ∃ p rest, findIn K (.ref C) x = some (some (.ref p)) ∧ specialIn K (.ref p) "__get__" = some (some (.builtin "property.__get__")) ∧ takesIn K (.ref p) = some true ∧ recIn K p "property" = some (.ref f :: rest)
noncomputable def tyOf : Nat → String
 | 0 => "str"
 | 1 => "list"
 | _ => "collections.deque"
structure BmAt (k : Nat) (x : Str) (id : String) : Prop where
 pa : PlainAttrs (tyOf k)
 slot : Slot (tyOf k) x id
 ty : typeOf (.builtin id) = pure (.type "method_descriptor")
noncomputable def CallOk (cx : Cx) (A : Around) (f : Value) (avs : List AV) (st : AS) (Qa : PostV) : Prop :=
 ∀ (ρ : Rho) (s : Shared) (vs : List Value) (R : Result → Shared → Prop), Rel cx ρ st s → VRels s.heap ρ avs vs → KV cx ρ s Qa (fun v s' => R (.ok (.ret v)) s') → codeAny (model cx.prog cx.w) A (.call f ⟨vs, []⟩) R s
noncomputable def SmOk (cx : Cx) (A : Around) (f : Value) (avs : List AV) (st : AS) (Qa : PostV) : Prop :=
 ∀ (ρ : Rho) (s : Shared) (vs : List Value) (Q E : Value → Shared → Prop), Rel cx ρ st s → VRels s.heap ρ avs vs → KV cx ρ s Qa Q → wpAny (model cx.prog cx.w) A (call f vs) Q E s
theorem CallOk.sm {cx : Cx} {A : Around} {f : Value} {avs : List AV} {st : AS} {Qa : PostV} (h : CallOk cx A f avs st Qa) : SmOk cx A f avs st Qa :=
 fun ρ s vs Q E R V k => wpAny_call (h ρ s vs _ R V fun ρ' s' v av st' p t R' V' q => k ρ' s' v av st' p t R' V' q)
structure TabOk (T : Tab) (cx : Cx) (A : Around) : Prop where
 kind : ∀ x, T.kind x = cx.env.kindOf x
 G : ∀ x v, T.G x = some v → (nsIn cx.K mainGlobals x = some (some v) ∨ (nsIn cx.K mainGlobals x = some none ∧ nsIn cx.K builtinsNs x = some (some v))) ∧ (∀ a, v = .ref a → keepIn cx.K v = true)
 pl : ∀ C x, T.pl C x = true → PlainAttr cx.K C x
 me : ∀ C x f, T.me C x = some f → MethAt cx.K C x f
 pr : ∀ C x f, T.pr C x = some f → PropAt cx.K C x f
 bm : ∀ k x id, T.bm k x = some id → BmAt k x id
 sm : ∀ f avs st Qa, T.sm f avs st Qa → SmOk cx A f avs st Qa
 sp : ∀ f i st Qa, T.sp f i st Qa → CallOk cx A.in1 (.ref f) [.obj i] st Qa
section
variable {cx : Cx} {A : Around} {E : Value → Shared → Prop} {Q : Value → Shared → Prop} {ρ : Rho} {st : AS} {s : Shared} {Qa : PostV} {T : Tab}
theorem lookIn_at {h : Heap} {d : Addr} {k : Nat} {m : Str → Option Value} (D : DictAt h d k m) : ∃ o es ep, h.get? d = some o ∧ o.data = .dict es ep ∧ es.size = k ∧ StrKeys es ∧ ∀ x, lookIn x o = some (m x) := by
 refine el3_5 D fun o es ep h1 h2 h3 h4 h5 => ?_
 refine ⟨o, es, ep, h1, h2, h5, h3, fun x => ?_⟩
 unfold lookIn
 rw [h2]
 dsimp only
 have := h4 x
 unfold nsFind findBy at this
 rw [← Array.find?_toList] at this
 cases q : es.toList.find? (fun e => e.key.isStr x) with
 | some e => rw [q] at this; rw [← this]; rfl
 | none =>
  rw [q] at this
  have hany : es.toList.any (·.refKey) = false := by
   rw [List.any_eq_false]; intro e he; obtain ⟨n, t, h⟩ := h3 e (Array.mem_toList_iff.mp he); simp [DictEntry.refKey, h]
  simp only [hany, Bool.false_eq_true, if_false, ← this]; rfl
theorem handed_of {h : Heap} {av : AV} {v : Value} (r : VRel h ρ av v) (n : noVal av = true) : handedIn v = true := by
 cases r <;> first | rfl | cases n
theorem ORelV.some_of {h : Heap} {x : AV} {ov : Option AV} {o : Option Value} (r : ORelV h ρ ov o) (e : ov = some x) : ∃ v, o = some v ∧ VRel h ρ x v := by
 subst e
 rcases o with _ | v
 ·exact r.elim
 ·exact ⟨v, rfl, r⟩
theorem ORelV.none_of {h : Heap} {ov : Option AV} {o : Option Value} (r : ORelV h ρ ov o) (e : ov = none) : o = none := by
 subst e
 rcases o with _ | v
 ·rfl
 ·exact r.elim
theorem leafW_ok {Qb : Bool → AS → Prop} {Q : Bool → Shared → Prop} {a : AV} {v : Value} (w : leafW a st Qb) (R : Rel cx ρ st s) (ra : VRel s.heap ρ a v) (k : KB cx ρ s Qb Q) :
  wpAny (model cx.prog cx.w) A (truthy v) Q E s := by
 rcases ra with ⟨⟩ <;> try exact False.elim w
 ·exact truthy_none (k ρ _ _ _ (PKeep.refl _) (TKeep.refl _) R w)
 ·exact wpAny_truthy_bool (bch_ok (t := s.toks) w R k)
 ·exact wpAny_truthy_bool (askW_ok (t := s.toks) w R k)
 ·exact truthy_int (bch_ok (t := s.toks) w R k)
 ·exact truthy_int (askW_ok (t := s.toks) w R k)
 ·conv at w => whnf
  refine el0_2 (bt w) fun q w => ?_
  ·skip
   exact P.truthy_str (by have := of_decide_eq_true q; lia) (bch_ok w R k)
 ·refine el0_2 w fun z w => ?_
  rw [sizeLine_eq] at z
  exact P.truthy_str (by lia) (askW_ok w R k)
 ·rename_i i a d e
  conv at w => whnf
  split at w
  ·rename_i xs q
   refine el1_3 (R.objs.get q) fun p e1 e2 e3 => ?_
   have : p = (a, d) := Option.some.inj (e1.symm.trans e)
   subst this
   refine el2_2 e2 fun vs n h1 h2 => ?_
   have hl := h2.length
   refine el0_2 (bt w) fun hz w => ?_
   ·skip
    have hz := of_decide_eq_true hz
    refine dq_truth h1 (by lia) ?_
    have : vs.isEmpty = xs.isEmpty := by rcases xs with ⟨⟩ <;> rcases vs with ⟨⟩ <;> simp_all
    rw [this]
    cases hx : xs.isEmpty <;> rw [hx] at w <;> exact k ρ _ _ _ (PKeep.refl _) (TKeep.refl _) R.toks w
  ·exact w.elim
theorem inst_at {i : Nat} {C : Addr} {m : List (Str × AV)} {v : Value} (R : Rel cx ρ st s) (r : VRel s.heap ρ (.obj i) v) (e : st.objs[i]? = some (.inst C m)) :
  ∃ a d m' o es ep, v = .ref a ∧ ρ[i]? = some (a, d) ∧ s.heap.get? a = some (instObj C d) ∧ s.heap.get? d = some o ∧ o.data = .dict es ep ∧ es.size = m.length ∧ DictAt s.heap d m.length m' ∧
   (∀ x, lookIn x o = some (m' x)) ∧ (∀ x, ORelV s.heap ρ (m.lookup x) (m' x)) ∧ InstAt s.heap a (instObj C d) C (some o) := by
 cases r with
 | obj i a d q =>
  obtain ⟨p, e1, e2, e3⟩ := R.objs.get e
  have : p = (a, d) := Option.some.inj (e1.symm.trans q)
  subst this
  obtain ⟨h1, m', h2, h3⟩ := e2
  obtain ⟨o, es, ep, l1, l2, l3, _, l4⟩ := lookIn_at h2
  exact ⟨a, d, m', o, es, ep, rfl, q, h1, l1, l2, l3, h2, l4, h3, ⟨h1, rfl, rfl, l1⟩⟩
theorem attrW_ok (C : CxOk cx) (TO : TabOk T cx A) {name : Str} {a : AV} {v : Value} {expr : Bool} (w : attrW T name a st Qa) (R : Rel cx ρ st s) (ra : VRel s.heap ρ a v) (k : KV cx ρ s Qa Q) :
  wpAny (model cx.prog cx.w) A (getAttr v name expr) Q E s := by
 unfold attrW at w
 split at w
 ·rename_i i
  split at w
  ·rename_i Cl m q
   obtain ⟨x, d, m', o, es, ep, rfl, hp, h1, h2, _, _, hd, hl, hm, I⟩ := inst_at R ra q
   split at w
   ·rename_i f hf
    obtain ⟨hg, hh, p, rest, p1, p2, p3, p4⟩ := TO.pr _ _ _ hf
    refine get_bind (R.kin C) I (plainGet_of hg).1 (findObj_data (by obtain ⟨cd, hc, _⟩ := any_some hh; rw [hc]; rfl) p1 p2 p3) (plainGet_of hg).2 (wpAny_call (prop_get (s := { s with toks := s.toks + 1 }) (R.toks.kin C) p4 ?_))
    refine TO.sp _ _ _ _ w ρ _ _ _ R.toks (.cons _ _ _ _ ra .nil) fun ρ' s' v av st' p t R' V q => ?_
    dsimp only at q ⊢
    refine el0_2 (bt q) fun nv q => ?_
    ·skip
     rw [handedOut_of (handed_of V nv)]
     exact wpAny_pure (k ρ' s' v av st' p t R' V q)
   ·split at w
    ·rename_i av pl lk
     have P := TO.pl _ _ pl
     obtain ⟨u, hu, ru⟩ := (hm name).some_of lk
     refine el0_2 (bt w) fun nv w => ?_
     ·skip
      refine get_value (R.kin C) I (plainGet_of P.get).1 (findObj_own P.has P.no rfl (by rw [hl, hu])) (handed_of ru nv) (k.here R ru w)
    ·exact w.elim
  ·exact w.elim
 ·exact w.elim
theorem setW_ok (C : CxOk cx) (TO : TabOk T cx A) {name : Str} {a av : AV} {v vv : Value} {Qs : AS → Prop} {Q : Unit → Shared → Prop} (w : setW T name a av st Qs) (R : Rel cx ρ st s) (ra : VRel s.heap ρ a v) (rv : VRel s.heap ρ av vv)
  (k : ∀ s' st', TKeep s.heap s'.heap → Rel cx ρ st' s' → Qs st' → Q () s') : wpAny (model cx.prog cx.w) A (setAttr v name vv) Q E s := by
 unfold setW at w
 split at w
 ·rename_i i
  split at w
  ·rename_i Cl m q
   obtain ⟨x, d, m', o, es, ep, rfl, hp, h1, h2, hdd, hz, hd, hl, hm, I⟩ := inst_at R ra q
   split at w
   ·rename_i pl lt
    have lt := of_decide_eq_true lt
    have P := TO.pl _ _ pl
    refine set_plain (R.kin C) I P.set ?_
    refine osa_open (s := { s with toks := s.toks + 1 }) (R.toks.kin C) I P.over P.taker fun b => ?_
    refine el1_2 (any_some P.has) fun cd hc hd' => ?_
    dsimp only
    refine wpAny_bind (wpAny_pure (wpAny_bind (wpAny_bind (wpAny_loadPart h1 (wpAny_bind ((looks_clsIn (R.toks.kin C) hc).here ?_))))))
    rw [hd']
    refine wpAny_pure (a := some d) (wpAny_bind (wpAny_pure (wpAny_bind ?_)))
    refine nsSet_at (s := { s with toks := s.toks + 1 }) hd fun h' D' sb => ?_
    have D'' := D'
    refine el3_5 D' fun o' es' ep' g1 g2 g3 g4 g5 => ?_
    refine wpAny_bind (wpAny_lookBehind (s := { heap := h', gens := s.gens, drawn := s.drawn, toks := s.toks + 1 + 1, os := s.os }) g1 (by rw [g2]; exact pastItsLine_dict (by rw [g5, sizeLine_eq]; split <;> lia)) ?_)
    refine wpAny_pure ?_
    have fx : d ∈ fp (.inst Cl m) (x, d) := by simp [fp]
    have T : TKeep s.heap h' := .but sb.extBut fun vs n e => by rw [h2] at e; cases e; cases hdd
    refine k _ _ T (R.set (o' := .inst Cl (put m name av)) (s' := { heap := h', gens := s.gens, drawn := s.drawn, toks := s.toks + 1 + 1, os := s.os }) q hp fx rfl sb.extBut (fun T => ?_) rfl rfl) w
    refine ⟨(sb.2 x (fun e => ?_)).trans h1, (fun y => if y = name then some vv else m' y), ?_, fun y => ?_⟩
    ·subst e
     rw [h1] at h2; cases h2; cases hdd
    ·rw [length_put, (hm name).isSome]; exact D''
    ·rw [lookup_put]
     by_cases e : y = name
     ·simp only [e, if_true]; exact VRel.mono T (PKeep.refl _) rv
     ·simp only [e, if_false]; exact (hm y).mono T (PKeep.refl _)
   ·exact w.elim
  ·exact w.elim
 ·exact w.elim
end
end Mine
end
noncomputable section
namespace Mine
open PySem PySem.W PyProof.Rows PySem.Calls
section
variable {M : Model} {A : Around} {E : Value → Shared → Prop} {s : Shared} {env : Env} {K : Frag}
theorem base_eq {o : Expr} (h : okBase o = true) (name : Str) (whole : Sem Value) : attributeBase o name env whole = whole := by
 rcases o with ⟨⟩ <;> first | rfl | rcases h with ⟨⟩
theorem swaps_no {e : Expr} (h : noComp e = true) (t : Option Expr) (l : Nat) : swapsWith e t l env = pure false := by
 rcases e with ⟨⟩ <;> first | rfl | rcases h with ⟨⟩
theorem star_cons {e : Expr} {es : List Expr} (h : noStar (e :: es) = true) : starEach (e :: es) env = (false, eval e env) :: starEach es env ∧ noStar es = true := by
 rcases e with ⟨⟩ <;> first | exact ⟨rfl, h⟩ | rcases h with ⟨⟩
theorem star_any : ∀ {es : List Expr} {pos : Pos}, noStar es = true → (backTo pos (starEach es env)).any (·.1) = false
 | [], _, _ => rfl
 | e :: es, pos, h => by
  refine el0_2 (star_cons (env := env) h) fun a b => ?_
  rw [a]
  have := star_any (pos := pos) b
  simp only [backTo, List.map_cons, List.any_cons, Bool.false_or] at this ⊢
  exact this
theorem star_all {es : List Expr} {pos : Pos} (h : noStar es = true) : (backTo pos (starEach es env)).all (fun x => !x.1) = true := by
 have := star_any (env := env) (pos := pos) h
 rw [List.all_eq_true]
 rw [List.any_eq_false] at this
 intro x hx
 have := this x hx
 simpa using this
theorem evalArgs_any {f : Value} {es : List Expr} {pos : Pos} {Q : Args → Shared → Prop} (h : noStar es = true) (k : wpAny M A (spliced (backTo pos (starEach es env))) (fun vs s' => Q ⟨vs, []⟩ s') E s) :
  wpAny M A (evalArgs f true (backTo pos (starEach es env)) []) Q E s := by
 rcases es with _ | ⟨e, es⟩
 ·
  unfold evalArgs
  show wpAny M A (spliced [] >>= _) Q E s
  refine wpAny_bind (wpAny_mono k (fun vs s' h' => ?_) fun _ _ x => x)
  refine wpAny_bind (wpAny_pure (wpAny_holding ?_))
  exact wpAny_bind (wpAny_pure (wpAny_bind (wpAny_pure (wpAny_pure h'))))
 ·
  obtain ⟨a, b⟩ := star_cons (env := env) h
  rw [a] at k ⊢
  exact evalArgs_plain k
theorem callWith_ok {f : Value} {first : List Value} {es : List Expr} {pos pos' : Pos} {Q : Value → Shared → Prop} (h : noStar es = true)
  (hk : ∀ h, K.In h → ∃ k, (k = Keeper.frame ∨ k = Keeper.machine ∨ k = Keeper.boundFrame) ∧ Looks M h (keeperOf f) k)
  (k : wpAny M A (spliced (backTo pos (starEach es env))) (fun vs s₁ => K.In s₁.heap ∧ wpAny M A (call f (first ++ vs)) Q E s₁) E s) :
  wpAny M A (callWith pos' f first (backTo pos (starEach es env)) []) Q E s :=
 callWith_of (by rw [star_any h]; rfl) hk (evalArgs_any h k)
theorem Call_attr {o : Expr} {name : Str} {apos pos : Pos} {es : List Expr} {Q : Value → Shared → Prop} (hb : okBase o = true) (hl : (apos.endLine == pos.line) = true) (hn : es.length < 29) (ns : noStar es = true)
  (h : wpAny M A (eval o env) (fun ov s₁ => wpAny M A (getMethod ov name (do return (← importBound o env).getD true)) (fun p s₂ => wpAny M A (callWith pos p.1 p.2 (backTo pos (starEach es env)) []) Q E s₂) E s₁) E s) :
  wpAny M A (eval (.Call (.Attribute o name apos) es [] pos) env) Q E s := by
 rw [arm_eval_Call, base_eq hb]
 have hform : methodCallForm (es.length + ([] : List Keyword).length) (backTo pos (starEach es env)) (backToKw pos (keywordEach [] env)) = true := by
  unfold methodCallForm
  rw [star_all ns]
  have hk : backToKw pos (keywordEach [] env) = [] := rfl
  rw [hk]
  simp only [List.all_nil, List.isEmpty_nil, if_true, Bool.true_and, List.length_nil, Nat.add_zero, decide_eq_true_eq]
  lia
 have hpos : methodCallPos true o env apos pos = pure pos := by unfold methodCallPos; simp [hl]
 refine wpAny_bind (wpAny_mono h (fun ov s₁ h₁ => wpAny_bind (wpAny_standAt ?_)) fun _ _ e => e)
 unfold methodCall
 rw [hform]
 refine wpAny_bind (wpAny_holding (wpAny_mono h₁ (fun p s₂ h₂ => ?_) fun _ _ e => e))
 obtain ⟨f, first⟩ := p
 exact wpAny_bind (wpAny_of_eq hpos h₂)
theorem Call_name {x : Str} {np pos : Pos} {es : List Expr} {Q : Value → Shared → Prop}
  (h : wpAny M A (eval (.Name x np) env) (fun f s₁ => wpAny M A (callWith pos f [] (backTo pos (starEach es env)) []) Q E s₁) E s) :
  wpAny M A (eval (.Call (.Name x np) es [] pos) env) Q E s := by
 show wpAny M A (do callWith pos (← eval (.Name x np) env) [] (backTo pos (starEach es env)) (backToKw pos (keywordEach [] env))) Q E s
 exact wpAny_bind h
theorem keeper_plain {f : Value} (h : ∀ a, f ≠ .ref a) (hh : Heap) : ∃ k, (k = Keeper.frame ∨ k = Keeper.machine ∨ k = Keeper.boundFrame) ∧ Looks M hh (keeperOf f) k := by
 refine ⟨.machine, .inr (.inl rfl), ?_⟩
 rcases f with ⟨⟩ <;> first | exact (h _ rfl).elim | exact Looks.of_pure rfl
end
section
variable {cx : Cx} {A : Around} {T : Tab}
noncomputable abbrev EvOk (cx : Cx) (A : Around) (e : Expr) (st : AS) (Qa : PostV) : Prop := ∀ (ρ : Rho) (s : Shared) (Q : Value → Shared → Prop) (E : Value → Shared → Prop), Rel cx ρ st s → KV cx ρ s Qa Q → wpAny (model cx.prog cx.w) A (eval e cx.env) Q E s
noncomputable abbrev EvsOk (cx : Cx) (A : Around) (es : List Expr) (st : AS) (Qa : List AV → AS → Prop) : Prop := ∀ (pos : Pos) (ρ : Rho) (s : Shared) (Q : List Value → Shared → Prop) (E : Value → Shared → Prop), Rel cx ρ st s → noStar es = true →
 (∀ ρ' s' vs avs st', PKeep ρ ρ' → TKeep s.heap s'.heap → Rel cx ρ' st' s' → VRels s'.heap ρ' avs vs → Qa avs st' → Q vs s') → wpAny (model cx.prog cx.w) A (spliced (backTo pos (starEach es cx.env))) Q E s
noncomputable abbrev TrOk (cx : Cx) (A : Around) (e : Expr) (st : AS) (Qa : Bool → AS → Prop) : Prop := ∀ (ρ : Rho) (s : Shared) (Q : Bool → Shared → Prop) (E : Value → Shared → Prop), Rel cx ρ st s → KB cx ρ s Qa Q → wpAny (model cx.prog cx.w) A (isTrue e cx.env (eval e cx.env)) Q E s
noncomputable abbrev TrsOk (cx : Cx) (A : Around) (op : BoolOp) (es : List Expr) (st : AS) (Qa : Bool → AS → Prop) : Prop := ∀ (ρ : Rho) (s : Shared) (Q : Bool → Shared → Prop) (E : Value → Shared → Prop) (pos : Pos) (whole : Sem Value), Rel cx ρ st s → KB cx ρ s Qa Q → wpAny (model cx.prog cx.w) A (isTrue (.BoolOp op es pos) cx.env whole) Q E s
theorem name_ok (C : CxOk cx) (TO : TabOk T cx A) {x : Str} {pos : Pos} {n : Nat} {st : AS} {Qa : PostV} (w : evW T (n + 1) (.Name x pos) st Qa) : EvOk cx A (.Name x pos) st Qa := by
 intro ρ s Q E R k
 conv at w => whnf
 split at w
 ·rename_i hd hk
  rw [TO.kind] at hk
  split at w
  ·rename_i av lk
   refine el1_2 R.loc fun m hn hm => ?_
   refine el1_2 ((hm x).some_of lk) fun v hv rv => ?_
   exact wpAny_Name (wpAny_loadName_local C.kf hk hn hv (k.here' R rv w)) hd
  ·exact w.elim
 ·rename_i hd hk
  rw [TO.kind] at hk
  split at w
  ·rename_i v hg
   refine Name_function_global C.kf hk ?_ hd
   unfold loadGlobal
   rw [C.gl, C.bi]
   refine el0_2 (TO.G _ _ hg) fun g _ => ?_
   have X := R.kin C
   rcases g with g | ⟨g1, g2⟩
   ·refine wpAny_bind ((looks_nsIn X g).here ?_)
    exact wpAny_pure (k.here' R (.val _) w)
   ·refine wpAny_bind ((looks_nsIn X g1).here ?_)
    refine wpAny_bind ((looks_nsIn X g2).here ?_)
    exact wpAny_pure (k.here' R (.val _) w)
  ·exact w.elim
 ·exact w.elim
theorem list_new {ρ : Rho} {st : AS} {s : Shared} {avs : List AV} {vs : List Value} (C : CxOk cx) (R : Rel cx ρ st s) (V : VRels s.heap ρ avs vs) {o : AObj} (ho : o = .list avs) {ob : Obj} (hob : ob = lstObj vs 0) :
  Rel cx (ρ ++ [(s.heap.objs.size, 0)]) { st with objs := st.objs ++ [o] } { s with heap := s.heap.push ob } := by
 subst ho hob
 have keep : ∀ b o, s.heap.get? b = some o → (s.heap.push (lstObj vs 0)).get? b = some o := fun b o e => Heap.get?_push_of_some _ e
 have none : s.heap.get? s.heap.objs.size = none := by
  cases q : s.heap.get? s.heap.objs.size with
  | none => rfl
  | some o => exact absurd (Heap.lt_size q) (Nat.lt_irrefl _)
 refine R.new (s' := { s with heap := s.heap.push (lstObj vs 0) }) keep ⟨vs, 0, Heap.get?_push_size _ rfl, V.mono (.of keep) (PKeep.snoc _ _)⟩ (fun a ha => ?_) (by simp [fp]) (fun a ha => ?_) rfl rfl
 ·simp only [fp, List.mem_cons, List.not_mem_nil, or_false] at ha
  subst ha; exact none
 ·simp only [fp, List.mem_cons, List.not_mem_nil, or_false] at ha
  subst ha
  by_cases q : s.heap.objs.size ∈ cx.mt
  ·exact .inr q
  ·refine .inl ?_
   cases z : cx.h₀.get? s.heap.objs.size with
   | none => rfl
   | some o => have := R.keep _ _ z q; rw [none] at this; cases this
theorem size_list {l : List Value} (h : l.length < 1000) : sizeOk (.seq l.toArray) := by
 show l.toArray.size ≤ sizeLine
 simp only [List.size_toArray, sizeLine_eq]; lia
end
end Mine
end
noncomputable section
namespace Mine
open PySem PySem.W PyProof.Rows PySem.Calls
section
variable {cx : Cx} {A : Around} {T : Tab}
theorem meth_ok (C : CxOk cx) (TO : TabOk T cx A) {E : Value → Shared → Prop} {ρ : Rho} {st : AS} {s : Shared} {name : Str} {a : AV} {v m : Value} {pl : Sem Bool} {Q : Value × List Value → Shared → Prop}
  (w : methW T name a st = some m) (R : Rel cx ρ st s) (ra : VRel s.heap ρ a v)
  (k : (∀ h, cx.K.In h → ∃ k, (k = Keeper.frame ∨ k = Keeper.machine ∨ k = Keeper.boundFrame) ∧ Looks (model cx.prog cx.w) h (keeperOf m) k) → Q (m, [v]) s) :
  wpAny (model cx.prog cx.w) A (getMethod v name pl) Q E s := by
 unfold methW at w
 have bt : ∀ {n : Nat} {id : String}, T.bm n name = some id → Value.builtin id = m → s.TypeIs v (tyOf n) → (∀ a, v = .ref a → ∃ o, s.heap.get? a = some o ∧ o.dict = none) → wpAny (model cx.prog cx.w) A (getMethod v name pl) Q E s := by
  intro n id hb e hT hd
  subst e
  have B := TO.bm _ _ _ hb
  exact getMethod_builtin hT B.pa B.slot B.ty hd (k fun h _ => keeper_plain (fun a e => by cases e) h)
 split at w
 ·obtain ⟨id, hb, e⟩ := Option.map_eq_some_iff.mp w
  w_dflts ra
  exact bt hb e (typeIs_str _ _ _) (fun a e => by cases e)
 ·obtain ⟨id, hb, e⟩ := Option.map_eq_some_iff.mp w
  cases ra
  exact bt hb e (typeIs_str _ _ _) (fun a e => by cases e)
 ·rename_i i
  split at w
  ·rename_i Cl mm q
   obtain ⟨x, d, m', o, es, ep, rfl, hp, h1, h2, hdd, hz, hd, hl, hm, I⟩ := inst_at R ra q
   split at w
   ·cases w
   ·rename_i ln
    refine el1_2 (Option.map_eq_some_iff.mp w) fun f hf e => ?_
    subst e
    have P := TO.me _ _ _ hf
    refine method_fn (R.kin C) I (plainGet_of P.get).1 (plainGet_of P.get).2 P.at_ P.fn ?_ (k fun h X => keeps_K P.keep h X)
    show (lookIn name o).map _ = _
    rw [hl, (hm name).none_of ln]; rfl
  ·rename_i xs q
   refine el1_2 (Option.map_eq_some_iff.mp w) fun id hb e => ?_
   cases ra with
   | obj i a d hp =>
    refine el1_3 (R.objs.get q) fun p e1 e2 e3 => ?_
    have : p = (a, d) := Option.some.inj (e1.symm.trans hp)
    subst this
    refine el2_2 e2 fun vs n h1 h2 => ?_
    exact bt hb e ⟨_, h1, rfl⟩ (fun b e => by cases e; exact ⟨_, h1, rfl⟩)
  ·rename_i xs q
   refine el1_2 (Option.map_eq_some_iff.mp w) fun id hb e => ?_
   cases ra with
   | obj i a d hp =>
    refine el1_3 (R.objs.get q) fun p e1 e2 e3 => ?_
    have : p = (a, d) := Option.some.inj (e1.symm.trans hp)
    subst this
    refine el2_2 e2 fun vs n h1 h2 => ?_
    exact bt hb e ⟨_, h1, rfl⟩ (fun b e => by cases e; exact ⟨_, h1, rfl⟩)
  ·cases w
 ·cases w
theorem sm_call (TO : TabOk T cx A) {E : Value → Shared → Prop} {Q : Value → Shared → Prop} {ρ : Rho} {st : AS} {s : Shared} {f : Value} {avs : List AV} {vs : List Value} {Qa : PostV} (w : T.sm f avs st Qa) (R : Rel cx ρ st s) (V : VRels s.heap ρ avs vs) (k : KV cx ρ s Qa Q) :
  wpAny (model cx.prog cx.w) A (call f vs) Q E s :=
 TO.sm f avs st Qa w ρ s vs Q E R V k
theorem temp_str {value : Expr} {x : Str} {t : Tok} (r : Value) : letTemporaryGo value (.str x t) r = pure () := by rcases value with ⟨⟩ <;> rfl
theorem optI_rel {h : Heap} {ρ : Rho} {a : AV} {p : Bool} {v : Value} {oi : Option Int} (e : optI a = some (oi, p)) (r : VRel h ρ a v) : (oi = none ∧ v = .none) ∨ ∃ i t, oi = some i ∧ v = .int i t := by
 cases r <;> first | exact nS e | (replace e := Prod.mk.inj (Option.some.inj e))
 ·exact .inl ⟨e.1.symm, rfl⟩
 ·exact .inr ⟨_, _, e.1.symm, rfl⟩
 ·exact .inr ⟨_, _, e.1.symm, rfl⟩
theorem sliceW_ok {E : Value → Shared → Prop} {Q : Value → Shared → Prop} {ρ : Rho} {st : AS} {s : Shared} {Qa : PostV} {a l u : AV} {va vl vu : Value} {value : Expr} {lo hi : Option Expr} {sp : Pos} (w : sliceW a l u st Qa) (R : Rel cx ρ st s)
  (ra : VRel s.heap ρ a va) (rl : VRel s.heap ρ l vl) (ru : VRel s.heap ρ u vu) (k : KV cx ρ s Qa Q) {s' : Shared} (e : s' = { s with heap := s.heap.push { cls := .type "slice", data := .fields #[vl, vu, .none] } }) :
  wpAny (model cx.prog cx.w) A (subscriptTail value (.Slice lo hi none sp) va (.ref s.heap.objs.size)) Q E s' := by
 subst e
 have kept : KeptH (fun h => ∀ b o, s.heap.get? b = some o → h.get? b = some o) := fun h ob a b o e => Heap.get?_push_of_some _ (a b o e)
 have fin : ∀ {y : Str} {p : Bool}, Qa (mkS p y) st → ∀ h' t' kk, (∀ b o, s.heap.get? b = some o → h'.get? b = some o) → Q (.str y t') { s with heap := h', toks := kk } :=
  fun q h' t' kk a => k ρ _ _ _ st (PKeep.refl _) (.of a) (R.ext a rfl rfl) (mkS_rel _ _ _) q
 unfold sliceW at w
 split at w
 ·rename_i x p ea
  split at w
  ·rename_i i q el
   split at w
   ·rename_i j r eu
    obtain ⟨t, rfl⟩ := isS_rel ea ra
    rcases i with _ | i
    ·rcases j with _ | j
     ·exact False.elim w
     ·rcases optI_rel el rl with ⟨_, rfl⟩ | ⟨i', ti, z, _⟩
      ·rcases optI_rel eu ru with ⟨z, _⟩ | ⟨j', tj, z, rfl⟩ <;> cases z
       exact tail_of_ItemOn (SBH.sliceItem_ns kept (fun _ _ e => e) (fin w.2) w.1) rfl temp_str
      ·cases z
    ·rcases optI_rel el rl with ⟨z, _⟩ | ⟨i', ti, z, rfl⟩ <;> cases z
     rcases j with _ | j
     ·rcases optI_rel eu ru with ⟨_, rfl⟩ | ⟨j', tj, z, _⟩
      ·exact tail_of_ItemOn (SBH.sliceItem_sn kept (fun _ _ e => e) (fin w.2) w.1) rfl temp_str
      ·cases z
     ·rcases optI_rel eu ru with ⟨z, _⟩ | ⟨j', tj, z, rfl⟩ <;> cases z
      exact tail_of_ItemOn (SBH.sliceItem_ss kept (fun _ _ e => e) (fin w.2) w.1) rfl temp_str
   ·exact w.elim
  ·exact w.elim
 ·exact w.elim
theorem VRels.snoc_inv' {h : Heap} {ρ : Rho} : ∀ {xs : List AV} {x : AV} {vs : List Value}, VRels h ρ (xs ++ [x]) vs → ∃ us u, vs = us ++ [u] ∧ VRels h ρ xs us ∧ VRel h ρ x u := by
 intro xs
 induction xs with
 | nil =>
  intro x vs V
  refine el2_3 V.cons_inv fun v vs q0_2 r rs => ?_; subst q0_2
  obtain rfl := rs.nil_inv
  exact ⟨[], v, rfl, .nil, r⟩
 | cons y xs ih =>
  intro x vs V
  refine el2_3 V.cons_inv fun v vs q0_2 r rs => ?_; subst q0_2
  refine el2_3 (ih rs) fun us u q0_2 a b => ?_; subst q0_2
  exact ⟨v :: us, u, rfl, .cons _ _ _ _ r a, b⟩
theorem VRels.get' {h : Heap} {ρ : Rho} : ∀ {xs : List AV} {vs : List Value} {i : Nat} {x : AV}, VRels h ρ xs vs → xs[i]? = some x → ∃ v, vs[i]? = some v ∧ VRel h ρ x v := by
 intro xs
 induction xs with
 | nil => intro vs i x V e; rw [List.getElem?_nil] at e; exact nS e
 | cons y xs ih =>
  intro vs i x V e
  refine el2_3 V.cons_inv fun v vs q0_2 r rs => ?_; subst q0_2
  rcases i with _ | i
  ·obtain rfl := Option.some.inj e; exact ⟨v, rfl, r⟩
  ·exact ih (vs := vs) (i := i) rs e
theorem VRels.set' {h : Heap} {ρ : Rho} {x : AV} {v : Value} (r : VRel h ρ x v) : ∀ {xs : List AV} {vs : List Value} {i : Nat}, VRels h ρ xs vs → VRels h ρ (xs.set i x) (vs.set i v) := by
 intro xs
 induction xs with
 | nil => intro vs i V; obtain rfl := V.nil_inv; exact .nil
 | cons y xs ih =>
  intro vs i V
  refine el2_3 V.cons_inv fun v vs q0_2 r' rs => ?_; subst q0_2
  rcases i with _ | i
  ·exact .cons _ _ _ _ r rs
  ·exact .cons _ _ _ (vs.set i _) r' (ih (vs := vs) (i := i) rs)
theorem pickW_ok {E : Value → Shared → Prop} {Q : Value → Shared → Prop} {ρ : Rho} {s : Shared} {Qa : PostV} {l : Addr} {i : Int} {u : Tok} {value ie : Expr} (hs : isSlice ie = false) {us : List Value} {n : Nat} (hl : s.heap.get? l = some (lstObj us n)) (k : KV cx ρ s Qa Q) :
  ∀ {xs : List AV} {vs : List Value} {j : Nat} {st : AS}, pickW i xs j st Qa → Rel cx ρ st s → VRels s.heap ρ xs vs → us.drop j = vs → wpAny (model cx.prog cx.w) A (subscriptTail value ie (.ref l) (.int i u)) Q E s := by
 intro xs
 induction xs with
 | nil => intro vs j st w; exact False.elim w
 | cons x xs ih =>
  intro vs j st w R V hd
  refine el2_3 V.cons_inv fun v vs q0_2 r rs => ?_; subst q0_2
  conv at w => whnf
  split at w
  ·rename_i hz
   have hz := of_decide_eq_true hz
   unfold askW at w
   split at w
   ·rename_i d ds hdec
    refine el0_2 w fun e w => ?_
    cases d with
    | true =>
     have e : i = j := eq_of_beq e
     subst e
     have hx : us.toArray[((j : Int)).toNat]? = some v := by
      have := congrArg (·[0]?) hd
      simp only [List.getElem?_drop, Nat.add_zero, List.getElem?_cons_zero] at this
      rw [List.getElem?_toArray, Int.toNat_natCast]; exact this
     exact tail_any (ops := [.ref l, .int j u]) ⟨_, hl, rfl⟩ slot_list_getitem.lookup (wpAny_getItem_list ⟨_, hl, rfl, n, rfl⟩ (by lia) (by lia) hx (k.here' R.dec r w)) (by rcases ie with ⟨⟩ <;> first | rfl | exact (Bool.false_ne_true hs.symm).elim)
    | false =>
     refine ih (j := j + 1) w R.dec rs ?_
     rw [← List.drop_drop, hd]; rfl
   ·exact w.elim
  ·exact w.elim
theorem item_getItem {E : Value → Shared → Prop} {Q : Value → Shared → Prop} {ρ : Rho} {st : AS} {s : Shared} {Qa : PostV} {l d : Addr} {j : Nat} {i : Int} {u : Tok} {xs : List AV} (q : st.objs[j]? = some (.list xs)) (hp : ρ[j]? = some (l, d)) (w : atW i xs st Qa) (R : Rel cx ρ st s) (k : KV cx ρ s Qa Q) :
  s.TypeIs (.ref l) "list" ∧ wpAny (model cx.prog cx.w) A (getItem (.ref l) (.int i u)) Q E s := by
 refine el1_3 (R.objs.get q) fun p e1 e2 e3 => ?_
 have : p = (l, d) := Option.some.inj (e1.symm.trans hp)
 subst this
 refine el2_2 e2 fun vs n h1 h2 => ?_
 refine ⟨⟨_, h1, rfl⟩, ?_⟩
 have hl : s.heap.IsList l vs.toArray := ⟨_, h1, rfl, n, rfl⟩
 unfold atW at w
 split at w
 ·rename_i hi
  have hi : i = -1 := eq_of_beq hi
  subst hi
  obtain ⟨hz, ys, y, rfl, w⟩ := w
  refine el2_3 (VRels.snoc_inv' h2) fun us u' q0_2 r1 r2 => ?_; subst q0_2
  refine wpAny_getItem_list_neg hl (by decide) (by simp; lia) (by decide) (x := u') ?_ (k.here' R r2 w)
  rw [show ((-1 : Int) + ((us ++ [u']).toArray.size : Int)).toNat = us.length by simp; lia]
  simp
 ·rename_i hi hr
  have hr := of_decide_eq_true hr
  refine el1_2 w fun y hy w => ?_
  refine el1_2 (VRels.get' h2 hy) fun v hv rv => ?_
  exact wpAny_getItem_list hl hr.1 (by lia) (by rw [List.getElem?_toArray]; exact hv) (k.here' R rv w)
 ·exact w.elim
theorem itemW_ok {E : Value → Shared → Prop} {Q : Value → Shared → Prop} {ρ : Rho} {st : AS} {s : Shared} {Qa : PostV} {a b : AV} {va vb : Value} {value i : Expr} (hs : isSlice i = false) (w : itemW a b st Qa) (R : Rel cx ρ st s)
  (ra : VRel s.heap ρ a va) (rb : VRel s.heap ρ b vb) (k : KV cx ρ s Qa Q) : wpAny (model cx.prog cx.w) A (subscriptTail value i va vb) Q E s := by
 unfold itemW at w
 split at w
 ·rename_i x p j q ea eb
  refine el1_1 (isS_rel ea ra) fun t q0_1 => ?_; subst q0_1
  refine el1_1 (isI_rel eb rb) fun u q0_1 => ?_; subst q0_1
  refine el0_2 w fun z0_0 w => ?_; refine el0_3 z0_0 fun w1 w2 w3 => ?_
  refine el1_1 (Option.isSome_iff_exists.mp w3) fun c hc => ?_
  refine tail_any (ops := [.str x t, .int j u]) (typeIs_str _ _ _) F.slot_str_getitem.lookup (getItem_str (c := c) (by simp only [Bool.or_eq_false_iff, decide_eq_false_iff_not]; lia) hc ?_) (by rcases i with ⟨⟩ <;> first | rfl | exact (Bool.false_ne_true hs.symm).elim)
  have : chrAt x j = ⟨#[c]⟩ := by unfold chrAt; rw [hc]; rfl
  rw [this] at w
  exact k.here R (mkS_rel _ _ _) w
 ·split at w
  ·rename_i j ii pp eb hno
   refine el1_1 (isI_rel eb rb) fun u q0_1 => ?_; subst q0_1
   split at w
   ·rename_i xs q
    cases ra with
    | obj _ l d hp =>
     cases pp with
     | true =>
      refine el1_3 (R.objs.get q) fun p e1 e2 e3 => ?_
      have : p = (l, d) := Option.some.inj (e1.symm.trans hp)
      subst this
      refine el2_2 e2 fun vs n h1 h2 => ?_
      exact pickW_ok hs h1 k w R h2 rfl
     | false =>
      refine el0_2 (item_getItem (A := A) (E := E) (u := u) q hp w R k) fun hty g => ?_
      exact tail_any (ops := [.ref l, .int ii u]) hty slot_list_getitem.lookup g (by rcases i with ⟨⟩ <;> first | rfl | exact (Bool.false_ne_true hs.symm).elim)
   ·exact w.elim
  ·exact w.elim
theorem setItem_plain {prog : Program} {w : World} {A : Around} {E : Value → Shared → Prop} {s : Shared} {l : Addr} {vs : List Value} {n : Nat} {k : Int} {t : Tok} {v : Value} {Q : Unit → Shared → Prop} (ho : s.heap.get? l = some (lstObj vs n))
  (h0 : 0 ≤ k) (hfit : k < 2 ^ 63) (hn : k < vs.length)
  (hQ : ∀ h' n', h'.get? l = some (lstObj (vs.set k.toNat v) n') → Heap.SameBut l s.heap h' → Q () { s with heap := h' }) :
  wpAny (model prog w) A (setItem (.ref l) (.int k t) v) Q E s := by
 have hl : s.heap.IsList l vs.toArray := ⟨_, ho, rfl, n, rfl⟩
 unfold setItem
 try with_reducible refine wpAny_holding ?_
 first | refine wpAny_bind (wpAny_pure ?_) | skip
 refine wpAny_bind (wpAny_sequenceKey hl.typeIs (by decide) ?_)
 refine wpAny_bind (wpAny_callSpecial?_slot (name := Str.ofString "__setitem__") hl.typeIs slot_list_setitem
  (wpAny_call_entry slot_list_setitem hl.typeIs entry_list_setitem ?_ (args_list_setitem _ _ _)))
 show wpAny _ _ (Builtin.List.listSubscript? (.int k t) >>= _) _ _ s
 refine wpAny_bind (wpAny_listSubscript_int (fitsIndex_of h0 hfit) ?_)
 clear hfit
 obtain ⟨j, rfl⟩ := Int.eq_ofNat_of_zero_le h0
 have hj : j < vs.toArray.size := by rw [List.size_toArray]; lia
 have hx' : vs.toArray[j]? = some vs.toArray[j] := Array.getElem?_eq_getElem hj
 show wpAny _ _ ((seqItemAt l j >>= fun r => pure (r.map (j, ·))) >>= _) _ _ s
 refine wpAny_bind (wpAny_bind (wpAny_seqItemAt ho rfl (wpAny_pure ?_)))
 rw [hx']
 show wpAny _ _ (setSeqItemAt l j v >>= _) _ _ s
 have e : Obj.mapSeq (·.setIfInBounds j v) (lstObj vs n) = lstObj (vs.set j v) n := by simp [Obj.mapSeq, lstObj]
 have hfin : (s.heap.update l (Obj.mapSeq (·.setIfInBounds j v))).get? l = some (lstObj (vs.set j v) n) := by
  rw [Heap.get?_update_self _ ho (by rw [e]; rfl), e]
 refine wpAny_bind (wpAny_setSeqItemAt ho rfl ?_)
 first
  | exact wpAny_bind (wpAny_pure (wpAny_pure ⟨.none, rfl, wpAny_pure (hQ _ _ hfin (Heap.SameBut.update ..))⟩))
  | exact wpAny_pure ⟨.none, rfl, wpAny_pure (hQ _ _ hfin (Heap.SameBut.update ..))⟩
theorem setAtW_ok {E : Value → Shared → Prop} {Q : Unit → Shared → Prop} {ρ : Rho} {st : AS} {s : Shared} {Qs : AS → Prop} {a b x : AV} {va vb v : Value} (w : setAtW a b x st Qs) (R : Rel cx ρ st s)
  (ra : VRel s.heap ρ a va) (rb : VRel s.heap ρ b vb) (rx : VRel s.heap ρ x v) (k : ∀ s' st', TKeep s.heap s'.heap → Rel cx ρ st' s' → Qs st' → Q () s') : wpAny (model cx.prog cx.w) A (setItem va vb v) Q E s := by
 unfold setAtW at w
 split at w
 ·rename_i j i
  split at w
  ·rename_i xs q hr
   have hr := of_decide_eq_true hr
   refine el0_2 w fun hlt w => ?_
   w_dflts rb
   cases ra with
   | obj _ l d hp =>
    refine el1_3 (R.objs.get q) fun p e1 e2 e3 => ?_
    have : p = (l, d) := Option.some.inj (e1.symm.trans hp)
    subst this
    refine el2_2 e2 fun vs n h1 h2 => ?_
    have len := h2.length
    refine setItem_plain h1 hr.1 (by lia) (by lia) fun h' n' g sb => ?_
    have T : TKeep s.heap h' := .but sb.extBut fun vs n e => by rw [h1] at e; simp [tupObj] at e
    refine k { s with heap := h' } _ T (R.set (s' := { s with heap := h' }) (o' := .list (xs.set i.toNat x)) q hp (x := l) (by simp [fp]) rfl sb.extBut (fun T => ⟨_, n', g, ?_⟩) rfl rfl) w
    exact VRels.set' (rx.mono T (PKeep.refl _)) (h2.mono T (PKeep.refl _))
  ·exact w.elim
 ·exact w.elim
theorem itemG_ok {E : Value → Shared → Prop} {Q : Value → Shared → Prop} {ρ : Rho} {st : AS} {s : Shared} {Qa : PostV} {j : Nat} {i : Int} {va vb : Value} (w : itemW (.obj j) (.int i) st Qa) (R : Rel cx ρ st s)
  (ra : VRel s.heap ρ (.obj j) va) (rb : VRel s.heap ρ (.int i) vb) (k : KV cx ρ s Qa Q) : wpAny (model cx.prog cx.w) A (getItem va vb) Q E s := by
 conv at w => whnf
 split at w
 ·rename_i xs q
  cases ra with
  | obj _ l d hp =>
   w_dflts rb
   exact (item_getItem (A := A) (E := E) q hp w R k).2
 ·exact w.elim
theorem evW_item {T : Tab} {n : Nat} {v i : Expr} {pos : Pos} {st : AS} {Q : PostV} (hs : isSlice i = false) : evW T (n + 1) (.Subscript v i pos) st Q = evW T n v st fun a st => evW T n i st fun b st => itemW a b st Q := by
 rcases i with ⟨⟩ <;> first | rfl | exact (Bool.false_ne_true hs.symm).elim
theorem all_ok (C : CxOk cx) (TO : TabOk T cx A) (n : Nat) : (∀ e st Q, evW T n e st Q → EvOk cx A e st Q) ∧ (∀ es st Q, evsW T n es st Q → EvsOk cx A es st Q) ∧ (∀ e st Q, trW T n e st Q → TrOk cx A e st Q) ∧ (∀ op es st Q, trsW T n op es st Q → TrsOk cx A op es st Q) := by
 induction n with
 | zero => exact ⟨fun _ _ _ w => w.elim, fun _ _ _ w => w.elim, fun _ _ _ w => w.elim, fun _ _ _ _ w => w.elim⟩
 | succ n ih =>
  refine el0_4 ih fun ihE ihS ihT ihB => ?_
  refine ⟨fun e st Qa w => ?_, fun es st Qa w => ?_, fun e st Qa w => ?_, fun op es st Qa w => ?_⟩
  ·rcases e with ⟨⟩
   all_goals try exact False.elim w
   ·rename_i l op r pos
    intro ρ s Q E R k
    conv at w => whnf
    refine wpAny_BinOp (ihE l st _ w ρ s _ E R fun ρ₁ s₁ va a st₁ p₁ t₁ R₁ V₁ w₁ => ihE r st₁ _ w₁ ρ₁ s₁ _ E R₁ fun ρ₂ s₂ vb b st₂ p₂ t₂ R₂ V₂ w₂ => ?_)
    exact binL_ok w₂ R₂ (V₁.mono t₂ p₂) V₂ ((k.after p₁ t₁).after p₂ t₂)
   ·rename_i op x pos
    intro ρ s Q E R k
    conv at w => whnf
    split at w
    ·refine UnaryOp_ (ihE x st _ w ρ s _ E R fun ρ₁ s₁ va a st₁ p₁ t₁ R₁ V₁ w₁ => ?_)
     dsimp only at w₁
     split at w₁
     ·rename_i i p hi
      refine el1_1 (isI_rel hi V₁) fun t q0_1 => ?_; subst q0_1
      exact neg_int ((k.after p₁ t₁).here R₁ (mkI_rel _ _ _) w₁)
     ·exact w₁.elim
    ·exact w.elim
   ·rename_i t b o pos
    intro ρ s Q E R k
    conv at w => whnf
    refine IfExp_ (ihT t st _ w ρ s _ E R fun ρ₁ s₁ c st₁ p₁ t₁ R₁ w₁ => ?_)
    rcases c with ⟨⟩
    ·exact ihE o st₁ _ w₁ ρ₁ s₁ _ E R₁ (k.after p₁ t₁)
    ·exact ihE b st₁ _ w₁ ρ₁ s₁ _ E R₁ (k.after p₁ t₁)
   ·rename_i l ops rs pos
    rcases ops with _ | ⟨op, _ | ⟨_, _⟩⟩
    ·exact False.elim w
    ·rcases rs with _ | ⟨r, _ | ⟨_, _⟩⟩
     ·exact False.elim w
     ·intro ρ s Q E R k
      conv at w => whnf
      split at w
      ·rename_i hb
       refine wpAny_Compare1 (ihE l st _ w ρ s _ E R fun ρ₁ s₁ va a st₁ p₁ t₁ R₁ V₁ w₁ => ihE r st₁ _ w₁ ρ₁ s₁ _ E R₁ fun ρ₂ s₂ vb b st₂ p₂ t₂ R₂ V₂ w₂ => ?_) hb
       exact cmpW_ok w₂ R₂ (V₁.mono t₂ p₂) V₂ ((k.after p₁ t₁).after p₂ t₂)
      ·exact w.elim
     ·exact False.elim w
    ·exact False.elim w
   ·rename_i f args kws pos
    rcases kws with _ | ⟨_, _⟩
    ·intro ρ s Q E R k
     conv at w => whnf
     split at w
     ·rename_i ns
      split at w
      ·rename_i o name apos
       split at w
       ·rename_i hb hl hn
        refine Call_attr hb hl (of_decide_eq_true hn) ns (ihE o st _ w ρ s _ E R fun ρ₁ s₁ va a st₁ p₁ t₁ R₁ V₁ w₁ => ?_)
        dsimp only at w₁
        split at w₁
        ·rename_i m hm
         refine meth_ok C TO hm R₁ V₁ fun kp => ?_
         refine callWith_ok ns kp (ihS args st₁ _ w₁ pos ρ₁ s₁ _ E R₁ ns fun ρ₂ s₂ vs avs st₂ p₂ t₂ R₂ V₂ w₂ => ⟨R₂.kin C, ?_⟩)
         exact sm_call TO w₂ R₂ (.cons _ _ _ _ (V₁.mono t₂ p₂) V₂) ((k.after p₁ t₁).after p₂ t₂)
        ·exact w₁.elim
       ·exact w.elim
      ·rename_i x np
       split at w
       ·rename_i v hd hk hg
        have nm : evW T (n + 1) (.Name x np) st (fun a st' => a = .val v ∧ st' = st) := by
         conv => whnf
         simp only [hd, hk, hg, and_self]
        refine Call_name (name_ok C TO nm ρ s _ E R fun ρ₁ s₁ va a st₁ p₁ t₁ R₁ V₁ w₁ => ?_)
        refine el0_2 w₁ fun q0_0 q0_1 => ?_; subst q0_0; subst q0_1
        rcases V₁ with ⟨⟩
        have kp : ∀ h, cx.K.In h → ∃ k, (k = Keeper.frame ∨ k = Keeper.machine ∨ k = Keeper.boundFrame) ∧ Looks (model cx.prog cx.w) h (keeperOf v) k := by
         intro h X
         cases v with
         | ref b => exact keeps_K ((TO.G _ _ hg).2 b rfl) h X
         | _ => exact keeper_plain (fun a e => by cases e) h
        refine callWith_ok ns kp (ihS args st₁ _ w pos ρ₁ s₁ _ E R₁ ns fun ρ₂ s₂ vs avs st₂ p₂ t₂ R₂ V₂ w₂ => ⟨R₂.kin C, ?_⟩)
        exact sm_call TO w₂ R₂ V₂ ((k.after p₁ t₁).after p₂ t₂)
       ·exact w.elim
      ·exact w.elim
     ·exact w.elim
    ·exact False.elim w
   ·intro ρ s Q E R k
    conv at w => whnf
    split at w
    ·exact fun _ _ _ => k.here' R .none w
    ·exact fun _ _ _ => k.here' R (.bool _) w
    ·exact fun _ _ _ => k.here R (.int _ _) w
    ·exact fun _ _ _ => k.here R (.str _ _) w
    ·exact w.elim
   ·rename_i o name pos
    intro ρ s Q E R k
    conv at w => whnf
    refine el0_2 (bt w) fun hb w => ?_
    ·skip
     refine Attribute_any_ (ihE o st _ w ρ s _ E R fun ρ₁ s₁ v av st₁ p t R₁ V q => ?_) ?_
     ·exact attrW_ok C TO q R₁ V (k.after p t)
     ·show (do let o ← attributeBase o name cx.env (eval o cx.env); _) = _
      rw [base_eq hb]
   ·rename_i v i pos
    cases hs : isSlice i with
    | false =>
     rw [evW_item hs] at w
     intro ρ s Q E R k
     refine Subscript_ (ihE v st _ w ρ s _ E R fun ρ₁ s₁ va a st₁ p₁ t₁ R₁ V₁ w₁ => ihE i st₁ _ w₁ ρ₁ s₁ _ E R₁ fun ρ₂ s₂ vb b st₂ p₂ t₂ R₂ V₂ w₂ => ?_)
     exact itemW_ok hs w₂ R₂ (V₁.mono t₂ p₂) V₂ ((k.after p₁ t₁).after p₂ t₂)
    | true =>
     rcases i with ⟨⟩
     all_goals try rcases hs with ⟨⟩
     rename_i lo hi sp pos'
     rcases sp with _ | sp
     ·intro ρ s Q E R k
      conv at w => whnf
      refine Subscript_ (ihE v st _ w ρ s _ E R fun ρ₁ s₁ va a st₁ p₁ t₁ R₁ V₁ w₁ => wpAny_Slice ?_)
      dsimp only at w₁
      rcases lo with _ | g
      ·
       rcases hi with _ | h
       ·exact w₁.elim
       ·
        refine wpAny_evalPart_none (wpAny_evalPart_some (ihE h st₁ _ w₁ ρ₁ s₁ _ E R₁ fun ρ₂ s₂ vu u st₂ p₂ t₂ R₂ V₂ w₂ => wpAny_evalPart_none ?_))
        exact sliceW_ok w₂ R₂ (V₁.mono t₂ p₂) .none V₂ ((k.after p₁ t₁).after p₂ t₂) rfl
      ·
       refine wpAny_evalPart_some (ihE g st₁ _ w₁ ρ₁ s₁ _ E R₁ fun ρ₂ s₂ vl l st₂ p₂ t₂ R₂ V₂ w₂ => ?_)
       rcases hi with _ | h
       ·
        refine wpAny_evalPart_none (wpAny_evalPart_none ?_)
        exact sliceW_ok w₂ R₂ (V₁.mono t₂ p₂) V₂ .none ((k.after p₁ t₁).after p₂ t₂) rfl
       ·
        refine wpAny_evalPart_some (ihE h st₂ _ w₂ ρ₂ s₂ _ E R₂ fun ρ₃ s₃ vu u st₃ p₃ t₃ R₃ V₃ w₃ => wpAny_evalPart_none ?_)
        exact sliceW_ok w₃ R₃ ((V₁.mono t₂ p₂).mono t₃ p₃) (V₂.mono t₃ p₃) V₃ (((k.after p₁ t₁).after p₂ t₂).after p₃ t₃) rfl
     ·exact False.elim w
   ·intro ρ s Q E R k
    exact name_ok C TO w ρ s Q E R k
   ·rename_i es pos
    intro ρ s Q E R k
    conv at w => whnf
    refine el0_2 (bt w) fun ns w => ?_
    ·skip
     refine List_ (ihS es st _ w pos ρ s _ E R ns fun ρ₁ s₁ vs avs st₁ p₁ t₁ R₁ V₁ w₁ => ?_)
     refine el0_2 (bt w₁) fun hz w₁ => ?_
     ·skip
      have hz := of_decide_eq_true hz
      rw [V₁.length] at hz
      have keep : ∀ b o, s₁.heap.get? b = some o → (s₁.heap.push (lstObj vs 0)).get? b = some o := fun b o e => Heap.get?_push_of_some _ e
      refine wpAny_newObj_type ?_ (size_list hz)
      refine (k.after p₁ t₁) (ρ₁ ++ [(s₁.heap.objs.size, 0)]) _ _ _ _ (PKeep.snoc _ _) (.of keep) (list_new C R₁ V₁ rfl rfl) (.obj _ _ 0 ?_) w₁
      rw [R₁.objs.len]
      simp
   ·rename_i es kk pos
    intro ρ s Q E R k
    conv at w => whnf
    refine el0_2 (bt w) fun ns w => ?_
    ·skip
     refine Tuple_ (ihS es st _ w pos ρ s _ E R ns fun ρ₁ s₁ vs avs st₁ p₁ t₁ R₁ V₁ w₁ => ?_)
     refine el0_2 (bt w₁) fun hz w₁ => ?_
     ·skip
      have hz := of_decide_eq_true hz
      rw [V₁.length] at hz
      have keep : ∀ b o, s₁.heap.get? b = some o → (s₁.heap.push (tupObj vs 0)).get? b = some o := fun b o e => Heap.get?_push_of_some _ e
      refine wpAny_newObj_type ?_ (size_list hz)
      exact (k.after p₁ t₁) ρ₁ _ _ _ st₁ (PKeep.refl _) (.of keep) (R₁.ext keep rfl rfl) (.tup avs vs _ 0 (Heap.get?_push_size _ rfl) (V₁.mono (.of keep) (PKeep.refl _))) w₁
  ·intro pos ρ s Q E R ns k
   unfold evsW at w
   split at w
   ·exact Calls.spliced_nil (k ρ s [] [] st (PKeep.refl _) (TKeep.refl _) R .nil w)
   ·rename_i e es
    refine el0_2 (star_cons (env := cx.env) ns) fun a b => ?_
    refine spliced_more (ihE e st _ w ρ s _ E R fun ρ₁ s₁ va av st₁ p₁ t₁ R₁ V₁ w₁ => ihS es st₁ _ w₁ pos ρ₁ s₁ _ E R₁ b fun ρ₂ s₂ vs avs st₂ p₂ t₂ R₂ V₂ w₂ => ?_) a
    exact k ρ₂ s₂ _ _ st₂ (p₁.trans p₂) (t₁.trans t₂) R₂ (.cons _ _ _ _ (V₁.mono t₂ p₂) V₂) w₂
  ·have P : ∀ e, plainTest e = true → evW T n e st (fun a st => leafW a st Qa) → TrOk cx A e st Qa := fun e hp w => by
    intro ρ s Q E R k
    refine isTrue_plain (ihE _ st _ w ρ s _ E R fun ρ₁ s₁ va a st₁ p₁ t₁ R₁ V₁ w₁ => ?_) ?_
    ·exact leafW_ok w₁ R₁ V₁ fun ρ₂ s₂ b st₂ p₂ t₂ R₂ w₂ => k ρ₂ s₂ b st₂ (p₁.trans p₂) (t₁.trans t₂) R₂ w₂
    ·rcases e with ⟨⟩ <;> first | rfl | rcases hp with ⟨⟩
   rcases e with ⟨⟩
   all_goals try exact False.elim w
   ·rename_i op vs pos
    intro ρ s Q E R k
    conv at w => whnf
    exact ihB op vs st _ w ρ s Q E pos _ R k
   ·rename_i op x pos
    rcases op with ⟨⟩
    all_goals try exact False.elim w
    intro ρ s Q E R k
    conv at w => whnf
    refine isTrue_not (ihT x st _ w ρ s _ E R fun ρ₁ s₁ c st₁ p₁ t₁ R₁ w₁ => ?_)
    rcases c with ⟨⟩ <;> exact k ρ₁ s₁ _ st₁ p₁ t₁ R₁ w₁
   ·rename_i l ops rs pos
    rcases ops with _ | ⟨op, _ | ⟨_, _⟩⟩
    ·exact False.elim w
    ·rcases rs with _ | ⟨r, _ | ⟨_, _⟩⟩
     ·exact False.elim w
     ·intro ρ s Q E R k
      conv at w => whnf
      refine el0_2 (bf w) fun hb w => ?_
      ·skip
       refine wpAny_isTrue_Compare1 (ihE l st _ w ρ s _ E R fun ρ₁ s₁ va a st₁ p₁ t₁ R₁ V₁ w₁ => ihE r st₁ _ w₁ ρ₁ s₁ _ E R₁ fun ρ₂ s₂ vb b st₂ p₂ t₂ R₂ V₂ w₂ => ?_) hb
       refine cmpW_ok w₂ R₂ (V₁.mono t₂ p₂) V₂ fun ρ₃ s₃ vc c st₃ p₃ t₃ R₃ V₃ w₃ => ?_
       exact leafW_ok w₃ R₃ V₃ fun ρ₄ s₄ b st₄ p₄ t₄ R₄ w₄ => k ρ₄ s₄ b st₄ (((p₁.trans p₂).trans p₃).trans p₄) (((t₁.trans t₂).trans t₃).trans t₄) R₄ w₄
     ·exact False.elim w
    ·exact False.elim w
   ·exact P _ rfl w
   ·exact P _ rfl w
   ·exact P _ rfl w
   ·exact P _ rfl w
  ·intro ρ s Q E pos whole R k
   unfold trsW at w
   split at w
   ·rcases op with ⟨⟩
    ·exact isTrue_and_nil (k ρ s _ st (PKeep.refl _) (TKeep.refl _) R w)
    ·exact isTrue_or_nil (k ρ s _ st (PKeep.refl _) (TKeep.refl _) R w)
   ·rename_i e es
    rcases op with ⟨⟩
    ·refine isTrue_and (ihT e st _ w ρ s _ E R fun ρ₁ s₁ c st₁ p₁ t₁ R₁ w₁ => ?_)
     rcases c with ⟨⟩
     ·exact k ρ₁ s₁ _ st₁ p₁ t₁ R₁ w₁
     ·exact ihB _ es st₁ _ w₁ ρ₁ s₁ Q E pos whole R₁ fun ρ₂ s₂ b st₂ p₂ t₂ R₂ w₂ => k ρ₂ s₂ b st₂ (p₁.trans p₂) (t₁.trans t₂) R₂ w₂
    ·refine isTrue_or (ihT e st _ w ρ s _ E R fun ρ₁ s₁ c st₁ p₁ t₁ R₁ w₁ => ?_)
     rcases c with ⟨⟩
     ·exact ihB _ es st₁ _ w₁ ρ₁ s₁ Q E pos whole R₁ fun ρ₂ s₂ b st₂ p₂ t₂ R₂ w₂ => k ρ₂ s₂ b st₂ (p₁.trans p₂) (t₁.trans t₂) R₂ w₂
     ·exact k ρ₁ s₁ _ st₁ p₁ t₁ R₁ w₁
end
end Mine
end
noncomputable section
namespace Mine
open PySem PySem.W PyProof.Rows PySem.Calls
inductive FRel (h : Heap) (ρ : Rho) : AF → Flow → Prop
 | next : FRel h ρ .next .next
 | brk : FRel h ρ .brk .brk
 | cont : FRel h ρ .cont .cont
 | ret (av : AV) (v : Value) (r : VRel h ρ av v) : FRel h ρ (.ret av) (.ret v)
theorem FRel.next_inv {h : Heap} {ρ : Rho} {f : Flow} (r : FRel h ρ .next f) : f = .next := by cases r; rfl
theorem FRel.brk_inv {h : Heap} {ρ : Rho} {f : Flow} (r : FRel h ρ .brk f) : f = .brk := by cases r; rfl
theorem FRel.cont_inv {h : Heap} {ρ : Rho} {f : Flow} (r : FRel h ρ .cont f) : f = .cont := by cases r; rfl
theorem FRel.ret_inv {h : Heap} {ρ : Rho} {av : AV} {f : Flow} (r : FRel h ρ (.ret av) f) : ∃ v, f = .ret v ∧ VRel h ρ av v := by cases r; exact ⟨_, rfl, ‹_›⟩
section
variable {cx : Cx} {A : Around} {T : Tab}
noncomputable abbrev KF (cx : Cx) (ρ : Rho) (s : Shared) (Qa : PostF) (Q : Flow → Shared → Prop) : Prop :=
 ∀ ρ' s' f af st', PKeep ρ ρ' → TKeep s.heap s'.heap → Rel cx ρ' st' s' → FRel s'.heap ρ' af f → Qa af st' → Q f s'
noncomputable abbrev KX (cx : Cx) (ρ : Rho) (s : Shared) (Qa : PostF) (E : Value → Shared → Prop) : Prop :=
 ∀ ρ' s' h' e msg t st', PKeep ρ ρ' → TKeep s.heap s'.heap → Rel cx ρ' st' s' → Heap.MadeExc s'.heap h' e "ValueError" [.str msg t] → Qa (.exc msg) st' → E (.ref e) { s' with heap := h' }
noncomputable abbrev ExOk (cx : Cx) (A : Around) (x : Stmt) (st : AS) (Qa : PostF) : Prop := ∀ (ρ : Rho) (s : Shared) (Q : Flow → Shared → Prop) (E : Value → Shared → Prop), Rel cx ρ st s → KF cx ρ s Qa Q → KX cx ρ s Qa E → wpAny (model cx.prog cx.w) A (exec x cx.env) Q E s
noncomputable abbrev ExsOk (cx : Cx) (A : Around) (xs : List Stmt) (st : AS) (Qa : PostF) : Prop := ∀ (ρ : Rho) (s : Shared) (Q : Flow → Shared → Prop) (E : Value → Shared → Prop), Rel cx ρ st s → KF cx ρ s Qa Q → KX cx ρ s Qa E → wpAny (model cx.prog cx.w) A (execs xs cx.env) Q E s
theorem KF.after {ρ ρ' : Rho} {s s' : Shared} {Qa : PostF} {Q : Flow → Shared → Prop} (k : KF cx ρ s Qa Q) (p : PKeep ρ ρ') (t : TKeep s.heap s'.heap) : KF cx ρ' s' Qa Q :=
 fun ρ₂ s₂ f af st' p₂ t₂ R V q => k ρ₂ s₂ f af st' (p.trans p₂) (t.trans t₂) R V q
theorem KX.after {ρ ρ' : Rho} {s s' : Shared} {Qa : PostF} {E : Value → Shared → Prop} (k : KX cx ρ s Qa E) (p : PKeep ρ ρ') (t : TKeep s.heap s'.heap) : KX cx ρ' s' Qa E :=
 fun ρ₂ s₂ h' e msg tk st' p₂ t₂ R M q => k ρ₂ s₂ h' e msg tk st' (p.trans p₂) (t.trans t₂) R M q
theorem noClass (C : CxOk cx) : (cx.env.scope.kind == .class || (cx.env.scope.kind == .module && cx.env.locals != cx.env.globals)) = false := by rw [C.kf]; rfl
theorem store_ok (C : CxOk cx) {E : Value → Shared → Prop} {ρ : Rho} {st : AS} {s : Shared} {x : Str} {av : AV} {v : Value} {Q : Unit → Shared → Prop} (hk : cx.env.kindOf x = some .local) (R : Rel cx ρ st s) (V : VRel s.heap ρ av v)
  (k : ∀ s', TKeep s.heap s'.heap → Rel cx ρ { st with loc := put st.loc x av } s' → Q () s') : wpAny (model cx.prog cx.w) A (storeName cx.env x v) Q E s := by
 refine el1_2 R.loc fun m hn hm => ?_
 refine wpAny_storeName_local hk hn (fun h' hn' sb => ?_) (noClass C)
 refine el1_2 R.locHere fun ob hob hnt => ?_
 exact k _ (.but sb.extBut fun vs n e => hnt vs n (Option.some.inj (hob.symm.trans e))) (R.store (s' := { heap := h', gens := s.gens, drawn := s.drawn, toks := s.toks + 1, os := s.os }) V hm hn' sb.extBut rfl rfl)
theorem noInter (C : CxOk cx) : interactive cx.env = false := by unfold interactive; rw [C.kf]; rfl
theorem stm_ok (C : CxOk cx) (TO : TabOk T cx A) (hA : A.handled = none) (VE : nsIn cx.K mainGlobals "ValueError" = some none ∧ nsIn cx.K builtinsNs "ValueError" = some (some (.type "ValueError"))) (n : Nat) :
  (∀ x st Q, exW T n x st Q → ExOk cx A x st Q) ∧ (∀ xs st Q, exsW T n xs st Q → ExsOk cx A xs st Q) := by
 induction n with
 | zero => exact ⟨fun _ _ _ w => w.elim, fun _ _ _ w => w.elim⟩
 | succ n ih =>
  refine el0_2 ih fun ihX ihS => ?_
  refine el0_4 (all_ok C TO n) fun evO _ trO _ => ?_
  refine ⟨fun x st Qa w => ?_, fun xs st Qa w => ?_⟩
  ·rcases x with ⟨⟩
   all_goals try exact False.elim w
   ·rename_i e pos
    rcases e with _ | e
    ·(intro ρ s Q E R k kx; conv at w => whnf)
     exact wpAny_Return_none (k ρ s _ _ st (PKeep.refl _) (TKeep.refl _) R (.ret _ _ .none) w)
    ·(intro ρ s Q E R k kx; conv at w => whnf)
     exact wpAny_Return_some (evO e st _ w ρ s _ E R fun ρ₁ s₁ va a st₁ p₁ t₁ R₁ V₁ w₁ => k ρ₁ s₁ _ _ st₁ p₁ t₁ R₁ (.ret _ _ V₁) w₁)
   ·rename_i ts v pos
    rcases ts with _ | ⟨t, _ | ⟨_, _⟩⟩
    ·exact False.elim w
    ·rcases t with ⟨⟩
     all_goals try exact False.elim w
     ·rename_i o name op
      (intro ρ s Q E R k kx; conv at w => whnf)
      split at w
      ·rename_i nc
       refine plainObj_wpAny_Assign_Attribute (evO v st _ w ρ s _ E R fun ρ₁ s₁ va a st₁ p₁ t₁ R₁ V₁ w₁ => evO o st₁ _ w₁ ρ₁ s₁ _ E R₁ fun ρ₂ s₂ vb b st₂ p₂ t₂ R₂ V₂ w₂ => ?_) (swaps_no nc _ _)
       exact setW_ok C TO w₂ R₂ V₂ (V₁.mono t₂ p₂) fun s₃ st₃ t₃ R₃ w₃ => k ρ₂ s₃ _ _ st₃ (p₁.trans p₂) ((t₁.trans t₂).trans t₃) R₃ .next w₃
      ·exact w.elim
     ·rename_i o i sp
      (intro ρ s Q E R k kx; conv at w => whnf)
      split at w
      ·rename_i nc hs
       refine wpAny_Assign_Subscript (evO v st _ w ρ s _ E R fun ρ₁ s₁ va a st₁ p₁ t₁ R₁ V₁ w₁ => evO o st₁ _ w₁ ρ₁ s₁ _ E R₁ fun ρ₂ s₂ vb b st₂ p₂ t₂ R₂ V₂ w₂ => evO i st₂ _ w₂ ρ₂ s₂ _ E R₂ fun ρ₃ s₃ vc c st₃ p₃ t₃ R₃ V₃ w₃ => ?_) (swaps_no nc _ _)
       exact setAtW_ok w₃ R₃ (V₂.mono t₃ p₃) V₃ ((V₁.mono t₂ p₂).mono t₃ p₃) fun s₄ st₄ t₄ R₄ w₄ => k ρ₃ s₄ _ _ st₄ ((p₁.trans p₂).trans p₃) (((t₁.trans t₂).trans t₃).trans t₄) R₄ .next w₄
      ·exact w.elim
     ·rename_i x xp
      (intro ρ s Q E R k kx; conv at w => whnf)
      split at w
      ·rename_i nc hk
       rw [TO.kind] at hk
       refine wpAny_Assign_Name (evO v st _ w ρ s _ E R fun ρ₁ s₁ va a st₁ p₁ t₁ R₁ V₁ w₁ => ?_) (swaps_no nc _ _)
       exact store_ok C hk R₁ V₁ fun s₂ t₂ R₂ => k ρ₁ s₂ _ _ _ p₁ (t₁.trans t₂) R₂ .next w₁
      ·exact w.elim
    ·exact False.elim w
   ·rename_i t op v pos
    rcases t with ⟨⟩
    all_goals try exact False.elim w
    ·rename_i o name op'
     (intro ρ s Q E R k kx; conv at w => whnf)
     refine wpAny_AugAssign_AttributeAny (evO o st _ w ρ s _ E R fun ρ₁ s₁ vb b st₁ p₁ t₁ R₁ V₁ w₁ => ?_)
     refine attrW_ok C TO w₁ R₁ V₁ fun ρ₂ s₂ vo old st₂ p₂ t₂ R₂ V₂ w₂ => ?_
     refine evO v st₂ _ w₂ ρ₂ s₂ _ E R₂ fun ρ₃ s₃ va a st₃ p₃ t₃ R₃ V₃ w₃ => ?_
     refine inpW_ok w₃ R₃ (V₂.mono t₃ p₃) V₃ fun ρ₄ s₄ vr r st₄ p₄ t₄ R₄ V₄ w₄ => ?_
     refine setW_ok C TO w₄ R₄ (((V₁.mono t₂ p₂).mono t₃ p₃).mono t₄ p₄) V₄ fun s₅ st₅ t₅ R₅ w₅ => ?_
     exact k ρ₄ s₅ _ _ st₅ (((p₁.trans p₂).trans p₃).trans p₄) ((((t₁.trans t₂).trans t₃).trans t₄).trans t₅) R₅ .next w₅
    ·rename_i o i sp
     (intro ρ s Q E R k kx; conv at w => whnf)
     split at w
     ·rename_i hs
      refine wpAny_AugAssign_SubscriptAny (evO o st _ w ρ s _ E R fun ρ₁ s₁ vb b st₁ p₁ t₁ R₁ V₁ w₁ => evO i st₁ _ w₁ ρ₁ s₁ _ E R₁ fun ρ₂ s₂ vc c st₂ p₂ t₂ R₂ V₂ w₂ => ?_) (by rcases i with ⟨⟩ <;> first | (intros; rfl) | exact (Bool.false_ne_true hs.symm).elim)
      dsimp only at w₂
      split at w₂
      ·refine itemG_ok w₂ R₂ (V₁.mono t₂ p₂) V₂ fun ρ₃ s₃ vo old st₃ p₃ t₃ R₃ V₃ w₃ => ?_
       refine evO v st₃ _ w₃ ρ₃ s₃ _ E R₃ fun ρ₄ s₄ va a st₄ p₄ t₄ R₄ V₄ w₄ => ?_
       refine inpW_ok w₄ R₄ (V₃.mono t₄ p₄) V₄ fun ρ₅ s₅ vr r st₅ p₅ t₅ R₅ V₅ w₅ => ?_
       refine setAtW_ok w₅ R₅ ((((V₁.mono t₂ p₂).mono t₃ p₃).mono t₄ p₄).mono t₅ p₅) (((V₂.mono t₃ p₃).mono t₄ p₄).mono t₅ p₅) V₅ fun s₆ st₆ t₆ R₆ w₆ => ?_
       exact k ρ₅ s₆ _ _ st₆ ((((p₁.trans p₂).trans p₃).trans p₄).trans p₅) (((((t₁.trans t₂).trans t₃).trans t₄).trans t₅).trans t₆) R₆ .next w₆
      ·exact w₂.elim
     ·exact w.elim
    ·rename_i x xp
     (intro ρ s Q E R k kx; conv at w => whnf)
     split at w
     ·rename_i old hk lk
      rw [TO.kind] at hk
      refine el1_2 R.loc fun m hn hm => ?_
      refine el1_2 ((hm x).some_of lk) fun vo hv rv => ?_
      refine wpAny_AugAssign_Name (wpAny_loadName_local C.kf hk hn hv (evO v st _ w ρ s _ E R fun ρ₁ s₁ va a st₁ p₁ t₁ R₁ V₁ w₁ => ?_))
      refine inpW_ok w₁ R₁ (rv.mono t₁ p₁) V₁ fun ρ₂ s₂ vr r st₂ p₂ t₂ R₂ V₂ w₂ => ?_
      exact store_ok C hk R₂ V₂ fun s₃ t₃ R₃ => k ρ₂ s₃ _ _ _ (p₁.trans p₂) ((t₁.trans t₂).trans t₃) R₃ .next w₂
     ·exact w.elim
   ·rename_i t b o pos
    (intro ρ s Q E R k kx; conv at w => whnf)
    refine wpAny_If (trO t st _ w ρ s _ E R fun ρ₁ s₁ c st₁ p₁ t₁ R₁ w₁ => ?_)
    rcases c with ⟨⟩
    ·exact ihS o st₁ _ w₁ ρ₁ s₁ Q E R₁ (k.after p₁ t₁) (kx.after p₁ t₁)
    ·exact ihS b st₁ _ w₁ ρ₁ s₁ Q E R₁ (k.after p₁ t₁) (kx.after p₁ t₁)
   ·rename_i e c pos
    rcases e with _ | e
    ·exact False.elim w
    rcases c with _ | c
    rotate_left
    ·exact False.elim w
    ·rcases e with ⟨⟩
     all_goals try exact False.elim w
     rename_i f args kws cpos
     rcases f with ⟨⟩
     all_goals try exact False.elim w
     rename_i x np
     rcases args with _ | ⟨a, _ | ⟨_, _⟩⟩
     ·exact False.elim w
     rotate_left
     ·exact False.elim w
     rcases kws with _ | ⟨_, _⟩
     rotate_left
     ·exact False.elim w
     rcases a with ⟨⟩
     all_goals try exact False.elim w
     rename_i cc kk cp
     rcases cc with ⟨⟩
     all_goals try exact False.elim w
     rename_i msg
     (intro ρ s Q E R k kx; conv at w => whnf)
     split at w
     ·rename_i hx hk
      have hx : x = ("ValueError" : Str) := eq_of_beq hx
      subst hx
      rw [TO.kind] at hk
      refine wpAny_Raise_call F.excCall_ValueError F.excRaise_ValueError hA rfl (Name_function_global C.kf hk ?_)
      unfold loadGlobal
      rw [C.gl, C.bi]
      have X := R.kin C
      refine wpAny_bind ((looks_nsIn X VE.1).here (wpAny_bind ((looks_nsIn X VE.2).here (wpAny_pure ⟨rfl, ?_⟩))))
      refine evalArgs_any (es := [_]) rfl (spliced_more (Constant_str (Calls.spliced_nil ?_)))
      refine ⟨rfl, by rw [sizeLine_eq]; show 1 ≤ 16777216; lia, fun h' e M => ?_⟩
      exact kx ρ { s with toks := s.toks + 1 } h' e msg _ st (PKeep.refl _) (TKeep.refl _) R.toks M w
     ·exact w.elim
   ·rename_i e pos
    (intro ρ s Q E R k kx; conv at w => whnf)
    split at w
    ·rename_i nc
     refine wpAny_Expr (evO e st _ w ρ s _ E R fun ρ₁ s₁ va a st₁ p₁ t₁ R₁ V₁ w₁ => ?_) (noInter C) (swaps_no nc _ _)
     dsimp only at w₁
     split at w₁
     ·rename_i pa
      rcases V₁ with ⟨⟩ <;> first | exact k ρ₁ s₁ _ _ st₁ p₁ t₁ R₁ .next w₁ | rcases pa with ⟨⟩
     ·exact w₁.elim
    ·exact w.elim
   ·(intro ρ s Q E R k kx; conv at w => whnf)
    exact wpAny_Pass (k ρ s _ _ st (PKeep.refl _) (TKeep.refl _) R .next w)
   ·(intro ρ s Q E R k kx; conv at w => whnf)
    exact wpAny_Break (k ρ s _ _ st (PKeep.refl _) (TKeep.refl _) R .brk w)
   ·(intro ρ s Q E R k kx; conv at w => whnf)
    exact wpAny_Continue (k ρ s _ _ st (PKeep.refl _) (TKeep.refl _) R .cont w)
  ·intro ρ s Q E R k kx
   unfold exsW at w
   split at w
   ·exact wpAny_execs_nil (k ρ s _ _ st (PKeep.refl _) (TKeep.refl _) R .next w)
   ·rename_i x xs
    refine wpAny_execs_cons (ihX x st _ w ρ s _ E R (fun ρ₁ s₁ f af st₁ p₁ t₁ R₁ F₁ w₁ => ?_) fun ρ₁ s₁ h' e msg tk st₁ p₁ t₁ R₁ M w₁ => kx ρ₁ s₁ h' e msg tk st₁ p₁ t₁ R₁ M w₁)
    cases F₁ with
    | next => exact ihS xs st₁ _ w₁ ρ₁ s₁ Q E R₁ (k.after p₁ t₁) (kx.after p₁ t₁)
    | brk => exact k ρ₁ s₁ _ _ st₁ p₁ t₁ R₁ .brk w₁
    | cont => exact k ρ₁ s₁ _ _ st₁ p₁ t₁ R₁ .cont w₁
    | ret av v r => exact k ρ₁ s₁ _ _ st₁ p₁ t₁ R₁ (.ret _ _ r) w₁
end
end Mine
end
noncomputable section
namespace Mine
open PySem PySem.W PyProof.Rows PySem.Calls
structure FnAt (prog : Program) (w : World) (K : Frag) (f : Addr) (body : List Stmt) (scope : Scope) (n : Nat) (bs : List Value → List (Str × Value)) : Prop where
 at_ : ∃ fd oc od sl, K.lookup f = some ⟨oc, od, .func fd, sl⟩ ∧ fd.body = .stmts body ∧ fd.scope = scope ∧ fd.globals = mainGlobals ∧ fd.builtins = builtinsNs ∧ fd.closure = [] ∧
  (∃ c o vs t, fd.code = .ref c ∧ K.lookup c = some o ∧ o.data = .fields vs ∧ vs[1]? = some (.str fd.qualname t)) ∧
  ∀ vs h, vs.length = n → K.In h → Looks (model prog w) h (bindArgs fd ⟨vs, []⟩) (bs vs)
 co : scope.isCoroutine = false
 gen : scope.isGenerator = false
 kf : scope.kind = .function
 cell : ∀ x ∈ scope.names, x.2 ≠ .cell
 loc : ∀ vs, vs.length = n → ∀ x ∈ bs vs, scope.names.lookup x.1 = some .local
structure EnvOk (env : Env) (scope : Scope) (L : Addr) : Prop where
 scope : env.scope = scope
 loc : env.locals = L
 gl : env.globals = mainGlobals
 bi : env.builtins = builtinsNs
 fr : env.frame = some L
 cells : env.cells = []
section
variable {prog : Program} {w : World} {K : Frag} {A : Around} {R : Result → Shared → Prop} {s : Shared} {f : Addr} {body : List Stmt} {scope : Scope} {n : Nat} {bs : List Value → List (Str × Value)} {vs : List Value}
theorem no_get (h : Heap) : h.get? h.objs.size = none := by
 cases q : h.get? h.objs.size with
 | none => rfl
 | some o => exact absurd (Heap.lt_size q) (Nat.lt_irrefl _)
theorem enter (F : FnAt prog w K f body scope n bs) (X : K.In s.heap) (NL : s.heap.NoLimit) (hroom : A.depth < recursionLimit) (hvs : vs.length = n)
  (h : ∀ env s₁, EnvOk env scope s.heap.objs.size → s₁.heap.Ns s.heap.objs.size (fun x => (bs vs).reverse.lookup x) → (∀ b o, s.heap.get? b = some o → s₁.heap.get? b = some o) → s₁.gens = s.gens → s₁.os = s.os →
   wpAny (model prog w) (A.deeper env) (execs body env) (fun fl s' => R (.ok (.ret (match fl with | .ret v => v | _ => .none))) s')
    (fun e s' => wpAny (model prog w) (A.deeper env) (leaving env e) (fun _ s'' => R (.error e) s'') (fun e' s'' => R (.error e') s'') s') s₁) :
  codeAny (model prog w) A (.call (.ref f) ⟨vs, []⟩) R s := by
 obtain ⟨fd, oc, od, sl, hf, hb, hsc, hg, hbi, hcl, ⟨c, o, cvs, t, hc, hco, hcd, hcq⟩, hbind⟩ := F.at_
 refine codeAny_call_function hroom (X _ _ hf) rfl (by rw [hsc]; exact F.co) (by rw [hsc]; exact F.gen) hb ⟨c, o, cvs, t, hc, X _ _ hco, hcd, hcq⟩ ?_
 refine (hbind vs s.heap hvs X).here ?_
 refine wpAny_newFunctionEnv (by rw [hsc]; exact F.cell) (by rw [hsc]; exact F.loc vs hvs) (fun h₁ hns hsb => ⟨NL.fresh _ hsb, ?_⟩) (by rw [hsc]; exact F.kf)
 refine codeAny_func (h _ _ ⟨hsc, rfl, hg, hbi, rfl, hcl⟩ hns (fun b o e => ?_) rfl rfl)
 exact (hsb.2 b (Nat.ne_of_lt (Heap.lt_size e))).trans (Heap.get?_push_of_some _ e)
theorem nolimit_of {h : Heap} (X : K.In h) (e : nsOkIn K cStatics = true) (q : nsIn K cStatics "sys.recursionlimit" = some none) : h.NoLimit := ⟨_, .of_isNs (isNs_of_in X e), nsMap_none_of_in X e q⟩
end
noncomputable abbrev Cx.sub (cx : Cx) (h₀ : Heap) (mt : List Addr) (env : Env) : Cx := { cx with h₀ := h₀, mt := mt, env := env }
section
variable {cx : Cx} {A : Around} {R : Result → Shared → Prop} {s : Shared} {f : Addr} {body : List Stmt} {scope : Scope} {ns : List Str} {avs : List AV} {vs : List Value} {ρ : Rho} {st : AS}
theorem lookup_zip {h : Heap} : ∀ {ns : List Str} {avs : List AV} {vs : List Value}, VRels h ρ avs vs → ns.Nodup → ns.length = avs.length → ∀ x, ORelV h ρ ((ns.zip avs).lookup x) ((ns.zip vs).reverse.lookup x) := by
 intro ns
 induction ns with
 | nil =>
  intro avs vs V _ hl x
  rcases avs with _ | ⟨a, avs⟩
  ·w_dflts V; trivial
  ·cases hl
 | cons n ns ih0 =>
  intro avs vs V nd hl x
  rcases avs with _ | ⟨a, avs⟩
  ·cases hl
  ·obtain _ | ⟨_, v, _, vs, r, rs⟩ := V
   have ih := ih0 rs (List.nodup_cons.mp nd).2 (Nat.succ.inj hl) x
   simp only [List.zip_cons_cons, List.reverse_cons, List.lookup_append, List.lookup_cons, List.lookup_nil]
   cases q : (x == n) with
   | false =>
    simp only [Option.or_none]
    exact ih
   | true =>
    have hx : x = n := eq_of_beq q
    subst hx
    have no : (ns.zip vs).reverse.lookup x = none := by
     rw [List.lookup_eq_none_iff]
     intro p hp
     have := (List.of_mem_zip (List.mem_reverse.mp hp)).1
     refine bne_iff_ne.mpr fun e => ?_
     exact (List.nodup_cons.mp nd).1 (e ▸ this)
    rw [no]
    exact r
theorem enterP (C : CxOk cx) (F : FnAt cx.prog cx.w cx.K f body scope ns.length fun vs => ns.zip vs) (NL : nsOkIn cx.K cStatics = true ∧ nsIn cx.K cStatics "sys.recursionlimit" = some none) (hroom : A.depth < recursionLimit) (nd : ns.Nodup) (hl : ns.length = avs.length)
  (R₀ : Rel cx ρ st s) (V : VRels s.heap [] avs vs)
  (h : ∀ env s₁, EnvOk env scope s.heap.objs.size → CxOk (cx.sub s.heap [] env) → Rel (cx.sub s.heap [] env) [] { loc := ns.zip avs, objs := [], dec := [] } s₁ →
   wpAny (model cx.prog cx.w) (A.deeper env) (execs body env) (fun fl s' => R (.ok (.ret (match fl with | .ret v => v | _ => .none))) s')
    (fun e s' => wpAny (model cx.prog cx.w) (A.deeper env) (leaving env e) (fun _ s'' => R (.error e) s'') (fun e' s'' => R (.error e') s'') s') s₁) :
  codeAny (model cx.prog cx.w) A (.call (.ref f) ⟨vs, []⟩) R s := by
 have X := R₀.kin C
 have hvl := V.length
 refine enter F X (nolimit_of X NL.1 NL.2) hroom (by rw [hl, hvl]) fun env s₁ EO hns keep g os => ?_
 refine h env s₁ EO ?_ ?_
 ·exact ⟨by show env.scope.kind = _; rw [EO.scope]; exact F.kf, EO.gl, EO.bi, C.kin, fun b o e => R₀.base C b o e, fun a ha => by cases ha⟩
 ·refine ⟨fun b o e _ => keep b o e, ⟨fun x => (ns.zip vs).reverse.lookup x, ?_, fun x => ?_⟩, trivial, ?_, ?_, g.trans R₀.gens, os.trans R₀.os, fun _ hp => (nomatch hp), List.nodup_nil⟩
  ·show s₁.heap.Ns env.locals _
   rw [EO.loc]; exact hns
  ·exact (lookup_zip V nd hl x).mono (.of keep) (PKeep.refl _)
  ·simp [foot]
  ·intro a ha
   simp only [foot, List.mem_cons, List.not_mem_nil, or_false] at ha
   subst ha
   right
   show s.heap.get? env.locals = none
   rw [EO.loc]; exact no_get _
theorem backP {env : Env} {ρ' : Rho} {st' : AS} {s' : Shared} (R₀ : Rel cx ρ st s) (R' : Rel (cx.sub s.heap [] env) ρ' st' s') : Rel cx ρ st s' ∧ ∀ b o, s.heap.get? b = some o → s'.heap.get? b = some o := by
 have k : ∀ b o, s.heap.get? b = some o → s'.heap.get? b = some o := fun b o e => R'.keep b o e (by intro z; cases z)
 exact ⟨R₀.ext k (R'.gens.trans R₀.gens.symm) (R'.os.trans R₀.os.symm), k⟩
end
end Mine
end
noncomputable section
namespace Mine
open PySem PySem.W PyProof.Rows PySem.Calls
noncomputable def prog0 : Program := PySem.Challenge.pw_mr0355_01
noncomputable def topBody : List Stmt := prog0.main.body
noncomputable def fnIn (n : Str) : List Stmt → Option (List Stmt × Scope)
 | [] => none
 | .FunctionDef m _ b _ _ _ sc _ _ _ :: r => match m == n with
  | true => some (b, sc)
  | false => fnIn n r
 | _ :: r => fnIn n r
noncomputable def clsBody (n : Str) : List Stmt → List Stmt
 | [] => []
 | .ClassDef m _ _ b _ _ _ _ _ _ _ :: r => match m == n with
  | true => b
  | false => clsBody n r
 | _ :: r => clsBody n r
noncomputable def bodyOf (x : Option (List Stmt × Scope)) : List Stmt := match x with | some y => y.1 | none => []
noncomputable def scopeOf (x : Option (List Stmt × Scope)) : Scope := match x with | some y => y.2 | none => default
noncomputable def dMode := fnIn "_law_mode" topBody
noncomputable def dSigns := fnIn "_law_signs" topBody
noncomputable def dFilemode := fnIn "filemode" topBody
noncomputable def dIfmt := fnIn "S_IFMT" topBody
noncomputable def dQuote := fnIn "quote" topBody
structure Room (A : Around) (k : Nat) : Prop where
 depth : A.depth + k < recursionLimit
 units : A.units + 20 * k < cLine
 handled : A.handled = none
theorem Room.deeper {A : Around} {k : Nat} (r : Room A (k + 1)) (env : Env) : Room (A.deeper env) k :=
 ⟨by have := r.depth; simp only [Around.deeper]; lia, by have := r.units; simp only [Around.deeper_units]; lia, r.handled⟩
theorem Room.in1 {A : Around} {k : Nat} (r : Room A (k + 1)) : Room A.in1 k :=
 ⟨by have := r.depth; simp only [Around.in1_depth]; lia, by have := r.units; simp only [Around.in1_units]; lia, r.handled⟩
theorem Room.less {A : Around} {k k' : Nat} (r : Room A k) (h : k' ≤ k) : Room A k' := ⟨by have := r.depth; lia, by have := r.units; lia, r.handled⟩
noncomputable def nm (l : List String) : List Str := l.map Str.ofString
structure KBase (K : Frag) : Prop where
 nl : nsOkIn K cStatics = true ∧ nsIn K cStatics "sys.recursionlimit" = some none
 ve : nsIn K mainGlobals "ValueError" = some none ∧ nsIn K builtinsNs "ValueError" = some (some (.type "ValueError"))
inductive Weak : AV → AV → Prop
 | same (a : AV) : Weak a a
 | str (x : Str) : Weak (.str x) (.sstr x)
 | int (i : Int) : Weak (.int i) (.sint i)
 | bool (b : Bool) : Weak (.bool b) (.sym b)
theorem Weak.rel {h : Heap} {ρ : Rho} {a b : AV} {v : Value} (k : Weak a b) (r : VRel h ρ a v) : VRel h ρ b v := by
 cases k with
 | same => exact r
 | str x => w_dflts r; exact .sstr _ _
 | int x => w_dflts r; exact .sint _ _
 | bool x => w_dflts r; exact .sym _
noncomputable def noTab : Tab where
 kind _ := none
 G _ := none
 pl _ _ := false
 me _ _ := none
 pr _ _ := none
 bm _ _ := none
 sm _ _ _ _ := False
 sp _ _ _ _ := False
noncomputable def tab0 (sc : Scope) : Tab := { noTab with kind := fun x => sc.names.lookup x }
theorem tab0_ok {cx : Cx} {A : Around} {sc : Scope} (e : cx.env.scope = sc) : TabOk (tab0 sc) cx A where
 kind x := by show sc.names.lookup x = cx.env.scope.names.lookup x; rw [e]
 G x v h := by cases h
 pl C x h := by cases h
 me C x f h := by cases h
 pr C x f h := by cases h
 bm k x id h := by cases h
 sm f avs st Q h := h.elim
 sp f i st Q h := h.elim
theorem pureFn {cx : Cx} {A : Around} {k : Nat} (C : CxOk cx) (KO : KBase cx.K) (hp : cx.prog = prog0) (Rm : Room A (k + 1)) {f : Addr} {body : List Stmt} {scope : Scope} {ns : List Str} {T : Tab} {N : Nat} {avs avs' : List AV} {st : AS} {ds : List Bool} {Qa : PostV}
  (F : FnAt prog0 cx.w cx.K f body scope ns.length fun vs => ns.zip vs) (nd : ns.Nodup) (hl : ns.length = avs.length)
  (TO : ∀ cx' A', CxOk cx' → cx'.prog = prog0 → cx'.w = cx.w → cx'.K = cx.K → cx'.env.scope = scope → Room A' k → TabOk T cx' A')
  (ha : ∀ h ρ vs, VRels h ρ avs vs → VRels h [] avs' vs) (hl' : ns.length = avs'.length)
  (w : exsW T N body { loc := ns.zip avs', objs := [], dec := ds } fun fl st' => ∃ av av', plainA av = true ∧ (fl = .ret av ∨ fl = .next ∧ av = .none) ∧ Weak av av' ∧ Qa av' st) :
  CallOk cx A (.ref f) avs st Qa := by
 intro ρ s vs R R₀ V kv
 refine enterP C (hp ▸ F) KO.nl (by have := Rm.depth; lia) nd hl' R₀ (ha _ _ _ V) fun env s₁ EO C' R₁ => ?_
 have TO' := TO (cx.sub s.heap [] env) (A.deeper env) C' hp rfl rfl EO.scope (Rm.deeper env)
 refine (stm_ok C' TO' (Rm.deeper env).handled KO.ve N).2 body _ _ w [] s₁ _ _ (R₁.dec) (fun ρ' s' fl af st' p t R' FR q => ?_) fun ρ' s' h' e msg tk st' p t R' M q => ?_
 ·refine el2_4 q fun av av' pa hf wk q => ?_
  refine el0_2 (backP R₀ R') fun Rb kb => ?_
  have fin : ∀ v, VRel s'.heap ρ' av v → R (.ok (.ret v)) s' := by
   intro v r
   refine kv ρ s' v av' st (PKeep.refl _) (.of kb) Rb (wk.rel ?_) q
   cases r <;> first | exact .none | exact .bool _ | exact .sym _ | exact .int _ _ | exact .sint _ _ | exact .str _ _ | exact .sstr _ _ | cases pa
  rcases hf with rfl | ⟨rfl, rfl⟩
  ·obtain ⟨_, rfl, _⟩ := FRel.ret_inv FR; rename_i r; exact fin _ r
  ·obtain rfl := FRel.next_inv FR; exact fin _ .none
 ·refine el2_3 q fun av av' pa hf q => ?_
  rcases hf with hf | ⟨hf, _⟩ <;> cases hf
theorem run_mode (x : Int) (Q : PostF) : exsW (tab0 (scopeOf dMode)) 20 (bodyOf dMode) { loc := (nm ["number"]).zip [.sint x], objs := [], dec := [] } Q =
  (IntMulOk (x.fmod 16) 4096 ∧ Q (.ret (.sint (x.fmod 16 * 4096 + (x.fdiv 512).fmod 4096))) { loc := (nm ["number"]).zip [.sint x], objs := [], dec := [] }) := by kernel_rfl
end Mine
end
noncomputable section
namespace Mine
open PySem PySem.W PyProof.Rows PySem.Calls
noncomputable abbrev Gh := List (Addr × (Obj → Prop))
structure Iter (cx : Cx) (A : Around) (it : Addr) (gs ms : Nat → Gh) (g₀ : Gh) (xs : List AV) : Prop where
 next : ∀ (i : Nat) (x : AV) (ρ : Rho) (st : AS) (s : Shared) (Q : Option Value → Shared → Prop) (E : Value → Shared → Prop), xs[i]? = some x → st.gh = gs i ++ g₀ → Rel cx ρ st s →
  (∀ s' v, TKeep s.heap s'.heap → Rel cx ρ { st with gh := ms (i + 1) ++ g₀ } s' → VRel s'.heap ρ x v → Q (some v) s') → wpAny (model cx.prog cx.w) A (pyNext (.ref it)) Q E s
 own : ∀ (i : Nat) (ρ : Rho) (st : AS) (s : Shared) (v : Value) (target : Expr) (Q : Unit → Shared → Prop) (E : Value → Shared → Prop), st.gh = ms (i + 1) ++ g₀ → Rel cx ρ st s →
  (∀ s', TKeep s.heap s'.heap → Rel cx ρ { st with gh := gs (i + 1) ++ g₀ } s' → Q () s') → wpAny (model cx.prog cx.w) A (letOwnedTupleGo target (.ref it) v) Q E s
 stop : ∀ (ρ : Rho) (st : AS) (s : Shared) (Q : Option Value → Shared → Prop) (E : Value → Shared → Prop), st.gh = gs xs.length ++ g₀ → Rel cx ρ st s →
  (∀ s', TKeep s.heap s'.heap → Rel cx ρ { st with gh := g₀ } s' → Q none s') → wpAny (model cx.prog cx.w) A (pyNext (.ref it)) Q E s
noncomputable def asgW (T : Tab) (t : Expr) (x : AV) (st : AS) (Q : AS → Prop) : Prop := match t with
 | .Name y _ => (match T.kind y with
  | some .local => Q { st with loc := put st.loc y x }
  | _ => False)
 | .Tuple [.Name y _, .Name z _] _ _ => (match x with
  | .tup [a, b] => (match T.kind y, T.kind z with
   | some .local, some .local => Q { st with loc := put (put st.loc y a) z b }
   | _, _ => False)
  | _ => False)
 | _ => False
section
variable {cx : Cx} {A : Around} {T : Tab}
theorem asgW_ok (C : CxOk cx) (TO : TabOk T cx A) (hA : A.handled = none) {E : Value → Shared → Prop} {ρ : Rho} {st : AS} {s : Shared} {t : Expr} {x : AV} {v : Value} {Qs : AS → Prop} {Q : Unit → Shared → Prop} (w : asgW T t x st Qs) (R : Rel cx ρ st s) (V : VRel s.heap ρ x v)
  (k : ∀ s' st', TKeep s.heap s'.heap → Rel cx ρ st' s' → Qs st' → Q () s') : wpAny (model cx.prog cx.w) A (assign t cx.env v) Q E s := by
 rcases t with ⟨⟩
 all_goals try exact False.elim w
 ·rename_i y pos
  unfold asgW at w
  dsimp only at w
  split at w
  ·rename_i hk
   rw [TO.kind] at hk
   exact wpAny_assign_Name (store_ok C hk R V fun s' t R' => k s' _ t R' w)
  ·exact w.elim
 ·rename_i es kk pos
  rcases es with _ | ⟨e1, es⟩
  ·exact False.elim w
  rcases es with _ | ⟨e2, es⟩
  ·rcases e1 with ⟨⟩ <;> exact False.elim w
  rcases es with _ | ⟨e3, es⟩
  ·rcases e1 with ⟨⟩
   all_goals try exact False.elim w
   rcases e2 with ⟨⟩
   all_goals try exact False.elim w
   rename_i y yp z zp
   rcases x with ⟨⟩
   all_goals try exact False.elim w
   rename_i xs
   rcases xs with _ | ⟨a, _ | ⟨b, _ | ⟨_, _⟩⟩⟩
   ·exact False.elim w
   ·exact False.elim w
   rotate_left
   ·exact False.elim w
   unfold asgW at w
   dsimp only at w
   split at w
   ·rename_i hy hz
    rw [TO.kind] at hy hz
    cases V with
    | tup xs vs l n e rs =>
     obtain ⟨va, _, rfl, ra, rs⟩ := rs.cons_inv
     obtain ⟨vb, _, rfl, rb, rs⟩ := rs.cons_inv
     w_dflts rs
     rw [PyProof.Rows.assign_Tuple]
     refine wpAny_bind (wpAny_standAt ?_)
     show wpAny _ _ (holding [.ref l] (unpackItems (.ref l) 2 none) >>= fun vs => assignInOrder [assign (.Name y yp) cx.env, assign (.Name z zp) cx.env] vs) Q E s
     refine wpAny_bind (wpAny_holding (unpackItems_tuple (items := #[va, vb]) hA ⟨_, e, rfl, n, rfl⟩ fun h' he => ?_))
     have keep : ∀ b o, s.heap.get? b = some o → h'.get? b = some o := fun b o e => he b o (Nat.ne_of_lt (Heap.lt_size e)) e
     have R₁ : Rel cx ρ st { s with heap := h' } := R.ext keep rfl rfl
     show wpAny _ _ (holding [vb] (assign (.Name y yp) cx.env va) >>= fun _ => holding [] (assign (.Name z zp) cx.env vb) >>= fun _ => pure ()) Q E _
     refine wpAny_bind (wpAny_holding (wpAny_assign_Name (store_ok C hy R₁ (ra.mono (.of keep) (PKeep.refl _)) fun s₂ t₂ R₂ => ?_)))
     refine wpAny_bind (wpAny_holding (wpAny_assign_Name (store_ok C hz R₂ ((rb.mono (.of keep) (PKeep.refl _)).mono t₂ (PKeep.refl _)) fun s₃ t₃ R₃ => wpAny_pure ?_)))
     exact k s₃ _ ((TKeep.of keep).trans (t₂.trans t₃)) R₃ w
   ·exact w.elim
  ·(rcases e1 with ⟨⟩ <;> try exact False.elim w); rcases e2 with ⟨⟩ <;> exact False.elim w
end
end Mine
end
noncomputable section
namespace Mine
open PySem PySem.W PyProof.Rows PySem.Calls
section
variable {cx : Cx} {A : Around} {R : Result → Shared → Prop} {s : Shared} {f : Addr} {body : List Stmt} {scope : Scope} {ns : List Str} {avs : List AV} {vs : List Value} {ρ : Rho} {st : AS}
theorem foot_fresh (C : CxOk cx) (R₀ : Rel cx ρ st s) : ∀ a ∈ foot st.objs ρ, cx.base.get? a = none := by
 intro a ha
 rcases R₀.own a (.tail _ ha) with q | q
 ·exact C.fresh a q
 ·cases z : cx.base.get? a with
  | none => rfl
  | some o => rw [C.sub _ _ z] at q; cases q
theorem enterS (C : CxOk cx) (F : FnAt cx.prog cx.w cx.K f body scope ns.length fun vs => ns.zip vs) (NL : nsOkIn cx.K cStatics = true ∧ nsIn cx.K cStatics "sys.recursionlimit" = some none) (hroom : A.depth < recursionLimit) (nd : ns.Nodup) (hl : ns.length = avs.length)
  (R₀ : Rel cx ρ st s) (V : VRels s.heap ρ avs vs)
  (h : ∀ env s₁, EnvOk env scope s.heap.objs.size → CxOk (cx.sub s.heap (foot st.objs ρ) env) → TKeep s.heap s₁.heap → Rel (cx.sub s.heap (foot st.objs ρ) env) ρ { loc := ns.zip avs, objs := st.objs, dec := [] } s₁ →
   wpAny (model cx.prog cx.w) (A.deeper env) (execs body env) (fun fl s' => R (.ok (.ret (match fl with | .ret v => v | _ => .none))) s')
    (fun e s' => wpAny (model cx.prog cx.w) (A.deeper env) (leaving env e) (fun _ s'' => R (.error e) s'') (fun e' s'' => R (.error e') s'') s') s₁) :
  codeAny (model cx.prog cx.w) A (.call (.ref f) ⟨vs, []⟩) R s := by
 have X := R₀.kin C
 have hvl := V.length
 refine enter F X (nolimit_of X NL.1 NL.2) hroom (by rw [hl, hvl]) fun env s₁ EO hns keep g os => ?_
 refine h env s₁ EO ?_ (.of keep) ?_
 ·exact ⟨by show env.scope.kind = _; rw [EO.scope]; exact F.kf, EO.gl, EO.bi, C.kin, fun b o e => R₀.base C b o e, fun a ha => foot_fresh C R₀ a ha⟩
 ·refine ⟨fun b o e _ => keep b o e, ⟨fun x => (ns.zip vs).reverse.lookup x, ?_, fun x => ?_⟩, OsRel.keeps (.of keep) (PKeep.refl _) R₀.objs fun a _ ob => keep a ob, ?_, ?_, g.trans R₀.gens, os.trans R₀.os, fun _ hp => (nomatch hp), List.nodup_nil⟩
  ·show s₁.heap.Ns env.locals _
   rw [EO.loc]; exact hns
  ·exact (lookup_zip V nd hl x).mono (.of keep) (PKeep.refl _)
  ·show (env.locals :: foot st.objs ρ).Nodup
   rw [EO.loc]
   refine List.nodup_cons.mpr ⟨fun hm => ?_, (List.nodup_cons.mp R₀.nodup).2⟩
   refine el1_2 (R₀.objs.here _ hm) fun ob hob _ => ?_
   rw [no_get] at hob; exact nS hob
  ·show ∀ a ∈ env.locals :: foot st.objs ρ, a ∈ foot st.objs ρ ∨ s.heap.get? a = none
   rw [EO.loc]
   intro a ha
   rcases List.mem_cons.mp ha with rfl | ha
   ·exact .inr (no_get _)
   ·exact .inl ha
theorem enterSD {more : List Value} {n : Nat} (C : CxOk cx) (F : FnAt cx.prog cx.w cx.K f body scope n fun vs => ns.zip (vs ++ more)) (hn : vs.length = n) (NL : nsOkIn cx.K cStatics = true ∧ nsIn cx.K cStatics "sys.recursionlimit" = some none) (hroom : A.depth < recursionLimit) (nd : ns.Nodup) (hl : ns.length = avs.length)
  (R₀ : Rel cx ρ st s) (V : VRels s.heap ρ avs (vs ++ more))
  (h : ∀ env s₁, EnvOk env scope s.heap.objs.size → CxOk (cx.sub s.heap (foot st.objs ρ) env) → TKeep s.heap s₁.heap → Rel (cx.sub s.heap (foot st.objs ρ) env) ρ { loc := ns.zip avs, objs := st.objs, dec := [] } s₁ →
   wpAny (model cx.prog cx.w) (A.deeper env) (execs body env) (fun fl s' => R (.ok (.ret (match fl with | .ret v => v | _ => .none))) s')
    (fun e s' => wpAny (model cx.prog cx.w) (A.deeper env) (leaving env e) (fun _ s'' => R (.error e) s'') (fun e' s'' => R (.error e') s'') s') s₁) :
  codeAny (model cx.prog cx.w) A (.call (.ref f) ⟨vs, []⟩) R s := by
 have X := R₀.kin C
 have hvl := V.length
 refine enter F X (nolimit_of X NL.1 NL.2) hroom hn fun env s₁ EO hns keep g os => ?_
 refine h env s₁ EO ?_ (.of keep) ?_
 ·exact ⟨by show env.scope.kind = _; rw [EO.scope]; exact F.kf, EO.gl, EO.bi, C.kin, fun b o e => R₀.base C b o e, fun a ha => foot_fresh C R₀ a ha⟩
 ·refine ⟨fun b o e _ => keep b o e, ⟨fun x => (ns.zip (vs ++ more)).reverse.lookup x, ?_, fun x => ?_⟩, OsRel.keeps (.of keep) (PKeep.refl _) R₀.objs fun a _ ob => keep a ob, ?_, ?_, g.trans R₀.gens, os.trans R₀.os, fun _ hp => (nomatch hp), List.nodup_nil⟩
  ·show s₁.heap.Ns env.locals _
   rw [EO.loc]; exact hns
  ·exact (lookup_zip V nd hl x).mono (.of keep) (PKeep.refl _)
  ·show (env.locals :: foot st.objs ρ).Nodup
   rw [EO.loc]
   refine List.nodup_cons.mpr ⟨fun hm => ?_, (List.nodup_cons.mp R₀.nodup).2⟩
   refine el1_2 (R₀.objs.here _ hm) fun ob hob _ => ?_
   rw [no_get] at hob; exact nS hob
  ·show ∀ a ∈ env.locals :: foot st.objs ρ, a ∈ foot st.objs ρ ∨ s.heap.get? a = none
   rw [EO.loc]
   intro a ha
   rcases List.mem_cons.mp ha with rfl | ha
   ·exact .inr (no_get _)
   ·exact .inl ha
theorem backS {env : Env} {ρ' : Rho} {st' : AS} {s' : Shared} (R₀ : Rel cx ρ st s) (p : PKeep ρ ρ') (t : TKeep s.heap s'.heap) (R' : Rel (cx.sub s.heap (foot st.objs ρ) env) ρ' st' s') : Rel cx ρ' { st with objs := st'.objs } s' := by
 have k : ∀ b o, s.heap.get? b = some o → b ∉ foot st.objs ρ → s'.heap.get? b = some o := fun b o e n => R'.keep b o e n
 have ownf : ∀ a ∈ foot st'.objs ρ', a ∈ foot st.objs ρ ∨ s.heap.get? a = none := fun a ha => R'.own a (.tail _ ha)
 have lf : cx.env.locals ∉ foot st.objs ρ := (List.nodup_cons.mp R₀.nodup).1
 refine el1_2 R₀.locHere fun ob hob _ => ?_
 refine ⟨fun b o e hb => k b o (R₀.keep b o e hb) (fun hm => R₀.own_ne (.tail _ hm) e hb rfl), ?_, R'.objs, ?_, ?_, R'.gens, R'.os, fun q hq => ?_, R₀.ghn⟩
 ·refine el1_2 R₀.loc fun m z0_1 hm => ?_; refine el3_2 z0_1 fun o es ep h1 h2 => ?_
  exact ⟨m, ⟨o, es, ep, k _ _ h1 lf, h2⟩, fun x => (hm x).mono t p⟩
 ·refine List.nodup_cons.mpr ⟨fun hm => ?_, (List.nodup_cons.mp R'.nodup).2⟩
  rcases ownf _ hm with q | q
  ·exact lf q
  ·rw [hob] at q; cases q
 ·intro a ha
  rcases List.mem_cons.mp ha with rfl | ha
  ·exact R₀.own _ (.head _)
  ·rcases ownf a ha with q | q
   ·exact R₀.own a (.tail _ q)
   ·by_cases z : a ∈ cx.mt
    ·exact .inl z
    ·refine .inr ?_
     cases y : cx.h₀.get? a with
     | none => rfl
     | some o => have := R₀.keep _ _ y z; rw [q] at this; exact nS this
 ·obtain ⟨⟨o, g1, g2⟩, g3, g4⟩ := R₀.gho q hq
  refine ⟨⟨o, k _ _ g1 (fun hm => g3 (.tail _ hm)), g2⟩, fun hm => ?_, g4⟩
  rcases List.mem_cons.mp hm with e | hm
  ·exact g3 (e ▸ .head _)
  ·rcases ownf _ hm with z | z
   ·exact g3 (.tail _ z)
   ·rw [g1] at z; cases z
end
noncomputable def SEnd (st : AS) (Qa : PostV) (fl : AF) (os : List AObj) : Prop := ∃ av av', (fl = .ret av ∨ fl = .next ∧ av = .none) ∧ Weak av av' ∧ Qa av' { st with objs := os }
theorem sharedFn {cx : Cx} {A : Around} {k : Nat} (C : CxOk cx) (KO : KBase cx.K) (hp : cx.prog = prog0) (Rm : Room A (k + 1)) {f : Addr} {body : List Stmt} {scope : Scope} {ns : List Str} {T : Tab} {N : Nat} {avs avs' : List AV} {st : AS} {ds : List Bool} {Qa : PostV}
  (F : FnAt prog0 cx.w cx.K f body scope ns.length fun vs => ns.zip vs) (nd : ns.Nodup)
  (TO : ∀ cx' A', CxOk cx' → cx'.prog = prog0 → cx'.w = cx.w → cx'.K = cx.K → cx'.env.scope = scope → Room A' k → TabOk T cx' A')
  (ha : ∀ h ρ vs, VRels h ρ avs vs → VRels h ρ avs' vs) (hl' : ns.length = avs'.length)
  (w : exsW T N body { loc := ns.zip avs', objs := st.objs, dec := ds } fun fl st' => SEnd st Qa fl st'.objs) :
  CallOk cx A (.ref f) avs st Qa := by
 intro ρ s vs R R₀ V kv
 refine enterS C (hp ▸ F) KO.nl (by have := Rm.depth; lia) nd hl' R₀ (ha _ _ _ V) fun env s₁ EO C' t₁ R₁ => ?_
 have TO' := TO (cx.sub s.heap (foot st.objs ρ) env) (A.deeper env) C' hp rfl rfl EO.scope (Rm.deeper env)
 refine (stm_ok C' TO' (Rm.deeper env).handled KO.ve N).2 body _ _ w ρ s₁ _ _ (R₁.dec) (fun ρ' s' fl af st' p t R' FR q => ?_) fun ρ' s' h' e msg tk st' p t R' M q => ?_
 ·obtain ⟨av, av', hf, wk, q⟩ := q
  have Rb := backS R₀ p (t₁.trans t) R'
  rcases hf with rfl | ⟨rfl, rfl⟩
  ·obtain ⟨_, rfl, _⟩ := FRel.ret_inv FR
   rename_i v r
   exact kv ρ' s' v av' _ p (t₁.trans t) Rb (wk.rel r) q
  ·obtain rfl := FRel.next_inv FR
   exact kv ρ' s' _ av' _ p (t₁.trans t) Rb (wk.rel .none) q
 ·obtain ⟨av, av', hf, q⟩ := q
  rcases hf with hf | ⟨hf, _⟩ <;> cases hf
theorem sharedFnD {more : List Value} {amore : List AV} {n : Nat} {cx : Cx} {A : Around} {k : Nat} (C : CxOk cx) (KO : KBase cx.K) (hp : cx.prog = prog0) (Rm : Room A (k + 1)) {f : Addr} {body : List Stmt} {scope : Scope} {ns : List Str} {T : Tab} {N : Nat} {avs avs' : List AV} {st : AS} {ds : List Bool} {Qa : PostV}
  (F : FnAt prog0 cx.w cx.K f body scope n fun vs => ns.zip (vs ++ more)) (hn : avs.length = n) (nd : ns.Nodup)
  (TO : ∀ cx' A', CxOk cx' → cx'.prog = prog0 → cx'.w = cx.w → cx'.K = cx.K → cx'.env.scope = scope → Room A' k → TabOk T cx' A')
  (ha : ∀ h ρ vs, VRels h ρ avs vs → VRels h ρ avs' (vs ++ more)) (hl' : ns.length = avs'.length)
  (w : exsW T N body { loc := ns.zip avs', objs := st.objs, dec := ds } fun fl st' => SEnd st Qa fl st'.objs) :
  CallOk cx A (.ref f) avs st Qa := by
 intro ρ s vs R R₀ V kv
 refine enterSD C (hp ▸ F) (by rw [← V.length]; exact hn) KO.nl (by have := Rm.depth; lia) nd hl' R₀ (ha _ _ _ V) fun env s₁ EO C' t₁ R₁ => ?_
 have TO' := TO (cx.sub s.heap (foot st.objs ρ) env) (A.deeper env) C' hp rfl rfl EO.scope (Rm.deeper env)
 refine (stm_ok C' TO' (Rm.deeper env).handled KO.ve N).2 body _ _ w ρ s₁ _ _ (R₁.dec) (fun ρ' s' fl af st' p t R' FR q => ?_) fun ρ' s' h' e msg tk st' p t R' M q => ?_
 ·obtain ⟨av, av', hf, wk, q⟩ := q
  have Rb := backS R₀ p (t₁.trans t) R'
  rcases hf with rfl | ⟨rfl, rfl⟩
  ·obtain ⟨_, rfl, _⟩ := FRel.ret_inv FR
   rename_i v r
   exact kv ρ' s' v av' _ p (t₁.trans t) Rb (wk.rel r) q
  ·obtain rfl := FRel.next_inv FR
   exact kv ρ' s' _ av' _ p (t₁.trans t) Rb (wk.rel .none) q
 ·refine el2_2 q fun av av' hf q => ?_
  rcases hf with hf | ⟨hf, _⟩ <;> cases hf
end Mine
end
noncomputable section
namespace Mine
open PySem PySem.W PyProof.Rows PySem.Calls PySem.Builtin PySem.Builtin.Str
noncomputable def find4 (x y : Str) (i j : Int) : Int := match occurrences x y (fromIndex x.length i) (min (fromIndex x.length j) x.length) 1 with
 | k :: _ => (k : Int)
 | [] => -1
theorem args_find4 (a b c d : Value) : argsOk "str.find" ⟨[a, b, c, d], []⟩ := by unfold argsOk; kernel_rfl
theorem gives_find4 (x y : Str) (i j : Int) (t u v v' : Tok) : Gives («str.find» ⟨[.str x t, .str y u, .int i v, .int j v'], []⟩) (.int (find4 x y i j)) := by
 show Gives (match occurrences x y (fromIndex x.length i) (min (fromIndex x.length j) x.length) 1 with | k :: _ => retInt k | [] => (do rule "str.find.not-found"; retInt (-1))) _
 unfold find4
 cases occurrences x y (fromIndex x.length i) (min (fromIndex x.length j) x.length) 1 with
 | nil => exact .rule (.of_eq rfl)
 | cons k _ => exact .of_eq rfl
theorem find4_call {prog : Program} {w : World} {A : Around} {E : Value → Shared → Prop} {s : Shared} {x y : Str} {t u v v' : Tok} {i j : Int} {Q : Value → Shared → Prop} (hq : Q (.int (find4 x y i j) s.toks) { s with toks := s.toks + 1 }) :
  wpAny (model prog w) A (call (.builtin "str.find") [.str x t, .str y u, .int i v, .int j v']) Q E s :=
 call_gives F.slot_str_find (typeIs_str _ _ _) F.entry_str_find (args_find4 _ _ _ _) (gives_find4 x y i j t u v v') hq
end Mine
end
noncomputable section
namespace Mine
open PySem PySem.W PyProof.Rows PySem.Calls
noncomputable def lenW (a : AV) (st : AS) (Q : PostV) : Prop := match isS a with
 | some (x, p) => x.length ≤ sizeLine ∧ Q (mkI p x.length) st
 | none => False
noncomputable def typeW (a : AV) (st : AS) (Q : PostV) : Prop := match a with
 | .int _ => Q (.val (.type "int")) st
 | .sint _ => Q (.val (.type "int")) st
 | .str _ => Q (.val (.type "str")) st
 | .sstr _ => Q (.val (.type "str")) st
 | _ => False
noncomputable def intW (a : AV) (st : AS) (Q : PostV) : Prop := match a with
 | .int _ => Q a st
 | .sint _ => Q a st
 | _ => False
noncomputable def dqAppW (i : Nat) (v : AV) (st : AS) (Q : PostV) : Prop := match st.objs[i]? with
 | some (.deque xs) => (match decide (xs.length < 900) with
  | true => Q .none { st with objs := st.objs.set i (.deque (xs ++ [v])) }
  | false => False)
 | _ => False
noncomputable def splitLast : List AV → Option (List AV × AV)
 | [] => none
 | x :: r => match splitLast r with
  | some (a, b) => some (x :: a, b)
  | none => some ([], x)
noncomputable def dqPopW (i : Nat) (st : AS) (Q : PostV) : Prop := match st.objs[i]? with
 | some (.deque xs) => (match decide (xs.length < 900), splitLast xs with
  | true, some (ys, v) => Q v { st with objs := st.objs.set i (.deque ys) }
  | _, _ => False)
 | _ => False
noncomputable def findW (a b c d : AV) (st : AS) (Q : PostV) : Prop := match isS a, isS b with
 | some (x, p), some (y, q) => (match isI c, isI d with
  | some (i, r), some (j, u) => Q (mkI (bor p (bor q (bor r u))) (find4 x y i j)) st
  | _, _ => False)
 | _, _ => False
noncomputable def smBase (f : Value) (avs : List AV) (st : AS) (Q : PostV) : Prop := match f, avs with
 | .builtin id, [a] => (match id == "len", id == "collections.deque.pop", a with
  | true, _, a => lenW a st Q
  | false, true, .obj i => dqPopW i st Q
  | _, _, _ => False)
 | .builtin id, [.obj i, v] => (match id == "collections.deque.append" with
  | true => dqAppW i v st Q
  | false => False)
 | .builtin id, [a, b, c, d] => (match id == "str.find" with
  | true => findW a b c d st Q
  | false => False)
 | .type id, [a] => (match id == "type", id == "int" with
  | true, _ => typeW a st Q
  | false, true => intW a st Q
  | _, _ => False)
 | _, _ => False
section
variable {cx : Cx} {A : Around} {st : AS} {Qa : PostV}
theorem lenW_ok {a : AV} (w : lenW a st Qa) : SmOk cx A (.builtin "len") [a] st Qa := by
 intro ρ s vs Q E R V k
 obtain ⟨v, _, rfl, r, rs⟩ := V.cons_inv
 w_dflts rs
 unfold lenW at w
 split at w
 ·rename_i x p e
  obtain ⟨t, rfl⟩ := isS_rel e r
  have z := w.1
  rw [sizeLine_eq] at z
  exact len_str (by lia) (k.here R (mkI_rel _ _ _) w.2)
 ·exact w.elim
theorem typeW_ok {a : AV} (w : typeW a st Qa) : SmOk cx A (.type "type") [a] st Qa := by
 intro ρ s vs Q E R V k
 obtain ⟨v, _, rfl, r, rs⟩ := V.cons_inv
 w_dflts rs
 unfold typeW at w
 split at w
 ·w_dflts r; exact call_type_of (Tx := "int") (typeIs_int _ _ _) (by decide) (k.here' R (.val _) w)
 ·w_dflts r; exact call_type_of (Tx := "int") (typeIs_int _ _ _) (by decide) (k.here' R (.val _) w)
 ·w_dflts r; exact call_type_of (Tx := "str") (typeIs_str _ _ _) (by decide) (k.here' R (.val _) w)
 ·w_dflts r; exact call_type_of (Tx := "str") (typeIs_str _ _ _) (by decide) (k.here' R (.val _) w)
 ·exact w.elim
theorem intW_ok {a : AV} (w : intW a st Qa) : SmOk cx A (.type "int") [a] st Qa := by
 intro ρ s vs Q E R V k
 obtain ⟨v, _, rfl, r, rs⟩ := V.cons_inv
 w_dflts rs
 unfold intW at w
 split at w
 ·w_dflts r; exact call_int_int (k.here' R (.int _ _) w)
 ·w_dflts r; exact call_int_int (k.here' R (.sint _ _) w)
 ·exact w.elim
theorem dq_at {ρ : Rho} {s : Shared} {i : Nat} {xs : List AV} {v : Value} (R : Rel cx ρ st s) (r : VRel s.heap ρ (.obj i) v) (e : st.objs[i]? = some (.deque xs)) :
  ∃ a d vs n, v = .ref a ∧ ρ[i]? = some (a, d) ∧ s.heap.get? a = some (deqObj vs n) ∧ VRels s.heap ρ xs vs := by
 cases r with
 | obj i a d q =>
  obtain ⟨p, e1, e2, e3⟩ := R.objs.get e
  have : p = (a, d) := Option.some.inj (e1.symm.trans q)
  subst this
  obtain ⟨vs, n, h1, h2⟩ := e2
  exact ⟨a, d, vs, n, rfl, q, h1, h2⟩
theorem dqAppW_ok {i : Nat} {x : AV} (w : dqAppW i x st Qa) : SmOk cx A (.builtin "collections.deque.append") [.obj i, x] st Qa := by
 intro ρ s vs Q E R V k
 obtain ⟨v, _, rfl, r, rs⟩ := V.cons_inv
 obtain ⟨u, _, rfl, r', rs⟩ := rs.cons_inv
 w_dflts rs
 unfold dqAppW at w
 split at w
 ·rename_i xs q
  split at w
  ·rename_i hz
   have hz := of_decide_eq_true hz
   obtain ⟨a, d, ds, n, rfl, hp, h1, h2⟩ := dq_at R r q
   have hl := h2.length
   refine dq_append h1 (by lia) fun h' sb g => ?_
   have T : TKeep s.heap h' := .but sb.extBut fun vs n e => by rw [h1] at e; simp [tupObj] at e
   refine k ρ { s with heap := h' } .none .none _ (PKeep.refl _) T (R.set (s' := { s with heap := h' }) (o' := .deque (xs ++ [x])) q hp (x := a) (by simp [fp]) rfl sb.extBut (fun T => ⟨_, _, g, ?_⟩) rfl rfl) .none w
   exact VRels.append (h2.mono T (PKeep.refl _)) (.cons _ _ _ _ (r'.mono T (PKeep.refl _)) .nil)
  ·exact w.elim
 ·exact w.elim
theorem splitLast_eq : ∀ {l : List AV} {a : List AV} {b : AV}, splitLast l = some (a, b) → l = a ++ [b]
 | [], _, _, e => by cases e
 | x :: r, a, b, e => by
  unfold splitLast at e
  split at e
  ·rename_i a' b' q
   cases e
   rw [splitLast_eq q]; rfl
  ·rename_i q
   cases e
   rcases r with _ | ⟨y, r⟩
   ·rfl
   ·
    unfold splitLast at q
    split at q <;> cases q
theorem VRels.snoc_inv {h : Heap} {ρ : Rho} : ∀ {xs : List AV} {x : AV} {vs : List Value}, VRels h ρ (xs ++ [x]) vs → ∃ us u, vs = us ++ [u] ∧ VRels h ρ xs us ∧ VRel h ρ x u
 | [], x, _, .cons _ v _ _ r .nil => ⟨[], v, rfl, .nil, r⟩
 | y :: xs, x, _, .cons _ v _ vs r rs => by
  obtain ⟨us, u, e, a, b⟩ := VRels.snoc_inv rs
  exact ⟨v :: us, u, by rw [e]; rfl, .cons _ _ _ _ r a, b⟩
theorem dqPopW_ok {i : Nat} (w : dqPopW i st Qa) : SmOk cx A (.builtin "collections.deque.pop") [.obj i] st Qa := by
 intro ρ s vs Q E R V k
 obtain ⟨v, _, rfl, r, rs⟩ := V.cons_inv
 w_dflts rs
 unfold dqPopW at w
 split at w
 ·rename_i xs q
  split at w
  ·rename_i ys x hz hs
   have hz := of_decide_eq_true hz
   have e := splitLast_eq hs
   subst e
   obtain ⟨a, d, ds, n, rfl, hp, h1, h2⟩ := dq_at R r q
   obtain ⟨us, u, rfl, ra, rb⟩ := h2.snoc_inv
   have hl := ra.length
   refine dq_pop h1 (by simp at hz; lia) fun h' sb g => ?_
   have T : TKeep s.heap h' := .but sb.extBut fun vs n e => by rw [h1] at e; simp [tupObj] at e
   refine k ρ { s with heap := h' } u x _ (PKeep.refl _) T (R.set (s' := { s with heap := h' }) (o' := .deque ys) q hp (x := a) (by simp [fp]) rfl sb.extBut (fun T => ⟨_, _, g, ra.mono T (PKeep.refl _)⟩) rfl rfl) (rb.mono T (PKeep.refl _)) w
  ·exact w.elim
 ·exact w.elim
theorem findW_ok {a b c d : AV} (w : findW a b c d st Qa) : SmOk cx A (.builtin "str.find") [a, b, c, d] st Qa := by
 intro ρ s vs Q E R V k
 obtain ⟨va, _, rfl, ra, V⟩ := V.cons_inv
 obtain ⟨vb, _, rfl, rb, V⟩ := V.cons_inv
 obtain ⟨vc, _, rfl, rc, V⟩ := V.cons_inv
 obtain ⟨vd, _, rfl, rd, V⟩ := V.cons_inv
 obtain rfl := V.nil_inv
 unfold findW at w
 split at w
 ·rename_i x p y q ea eb
  split at w
  ·rename_i i r j u ec ed
   obtain ⟨t1, rfl⟩ := isS_rel ea ra
   obtain ⟨t2, rfl⟩ := isS_rel eb rb
   obtain ⟨t3, rfl⟩ := isI_rel ec rc
   obtain ⟨t4, rfl⟩ := isI_rel ed rd
   exact find4_call (k.here R (mkI_rel _ _ _) w)
  ·exact w.elim
 ·exact w.elim
theorem smBase_ok {f : Value} {avs : List AV} (w : smBase f avs st Qa) : SmOk cx A f avs st Qa := by
 rcases f with ⟨⟩
 all_goals try exact False.elim w
 ·rcases avs with _ | ⟨a, _ | ⟨b, r⟩⟩
  ·exact False.elim w
  ·unfold smBase at w
   dsimp only at w
   split at w
   ·rename_i e; rw [eq_of_beq e]; exact typeW_ok w
   ·rename_i e; rw [eq_of_beq e]; exact intW_ok w
   ·exact w.elim
  ·exact False.elim w
 ·rcases avs with _ | ⟨a, _ | ⟨b, _ | ⟨c, _ | ⟨d, _ | ⟨e, r⟩⟩⟩⟩⟩
  ·exact False.elim w
  ·unfold smBase at w
   dsimp only at w
   split at w
   ·rename_i e; rw [eq_of_beq e]; exact lenW_ok w
   ·rename_i e; rw [eq_of_beq e]; exact dqPopW_ok w
   ·exact w.elim
  ·rcases a with ⟨⟩
   all_goals try exact False.elim w
   unfold smBase at w
   dsimp only at w
   split at w
   ·rename_i e; rw [eq_of_beq e]; exact dqAppW_ok w
   ·exact w.elim
  ·exact False.elim w
  ·unfold smBase at w
   dsimp only at w
   split at w
   ·rename_i e; rw [eq_of_beq e]; exact findW_ok w
   ·exact w.elim
  ·exact False.elim w
end
end Mine
end
noncomputable section
namespace Mine
open PySem PySem.W PyProof.Rows PySem.Calls
noncomputable def lexNames : List Str := nm ["state", "token", "posix", "whitespace", "wordchars", "commenters", "escape", "quotes", "lineno", "debug", "instream", "_punctuation_chars", "_pushback_chars", "whitespace_split", "escapedquotes", "eof", "source", "pushback", "filestack", "infile"]
noncomputable def sioNames : List Str := nm ["_StringIO__pos", "_StringIO__buf", "_StringIO__newline"]
noncomputable def plT (C : Addr) (x : Str) : Bool := match C == 732 with
 | true => lexNames.contains x
 | false => (match C == 597 with
  | true => sioNames.contains x
  | false => false)
noncomputable def look3 (C : Addr) (x : Str) : List (Addr × Str × Addr) → Option Addr
 | [] => none
 | (D, y, f) :: r => match D == C, y == x with
  | true, true => some f
  | _, _ => look3 C x r
noncomputable def meL : List (Addr × Str × Addr) := [(597, "read", 543), (597, "_StringIO__check", 381), (597, "readline", 551), (597, "_StringIO__line", 395), (732, "read_token", 700), (732, "get_token", 693)]
noncomputable def prL : List (Addr × Str × Addr) := [(732, "punctuation_chars", 663)]
noncomputable def lookBm (k : Nat) (x : Str) : List (Nat × Str × String) → Option String
 | [] => none
 | (j, y, f) :: r => match j == k, y == x with
  | true, true => some f
  | _, _ => lookBm k x r
noncomputable def bmL : List (Nat × Str × String) := [(2, "append", "collections.deque.append"), (2, "pop", "collections.deque.pop"), (0, "find", "str.find")]
noncomputable def gL : List (Str × Value) := [("_index", .ref 63), ("len", .builtin "len"), ("type", .type "type"), ("int", .type "int"), ("bool", .type "bool")]
noncomputable def dIndex := fnIn "_index" topBody
noncomputable def sioB : List Stmt := clsBody "StringIO" topBody
noncomputable def lexB : List Stmt := clsBody "shlex" topBody
noncomputable def dCheck := fnIn "__check" sioB
noncomputable def dRead := fnIn "read" sioB
noncomputable def dReadline := fnIn "readline" sioB
noncomputable def dLine := fnIn "__line" sioB
noncomputable def dPc := fnIn "punctuation_chars" lexB
noncomputable def dRt := fnIn "read_token" lexB
noncomputable def dGt := fnIn "get_token" lexB
structure KOk (w : World) (K : Frag) : Prop extends KBase K where
 pl1 : ∀ x ∈ lexNames, PlainAttr K 732 x
 pl2 : ∀ x ∈ sioNames, PlainAttr K 597 x
 me : ∀ p ∈ meL, MethAt K p.1 p.2.1 p.2.2
 pr : ∀ p ∈ prL, PropAt K p.1 p.2.1 p.2.2
 gl : ∀ p ∈ gL, (nsIn K mainGlobals p.1 = some (some p.2) ∨ (nsIn K mainGlobals p.1 = some none ∧ nsIn K builtinsNs p.1 = some (some p.2))) ∧ (∀ a, p.2 = .ref a → keepIn K p.2 = true)
 fIndex : FnAt prog0 w K 63 (bodyOf dIndex) (scopeOf dIndex) 2 (fun vs => (nm ["n", "what"]).zip vs)
 fCheck : FnAt prog0 w K 381 (bodyOf dCheck) (scopeOf dCheck) 1 (fun vs => (nm ["self"]).zip vs)
 fLine : FnAt prog0 w K 395 (bodyOf dLine) (scopeOf dLine) 2 (fun vs => (nm ["self", "limit"]).zip vs)
 fReadline : ∃ t0, FnAt prog0 w K 551 (bodyOf dReadline) (scopeOf dReadline) 1 (fun vs => (nm ["self", "size"]).zip (vs ++ [.int (-1) t0]))
 fPc : FnAt prog0 w K 663 (bodyOf dPc) (scopeOf dPc) 1 (fun vs => (nm ["self"]).zip vs)
 fRt : FnAt prog0 w K 700 (bodyOf dRt) (scopeOf dRt) 1 (fun vs => (nm ["self"]).zip vs)
 fGt : FnAt prog0 w K 693 (bodyOf dGt) (scopeOf dGt) 1 (fun vs => (nm ["self"]).zip vs)
 fRead : FnAt prog0 w K 543 (bodyOf dRead) (scopeOf dRead) 2 (fun vs => (nm ["self", "size"]).zip vs)
noncomputable def lookG (x : Str) : List (Str × Value) → Option Value
 | [] => none
 | (y, v) :: r => match y == x with
  | true => some v
  | false => lookG x r
noncomputable def tabM (sc : Scope) (sm : Value → List AV → AS → PostV → Prop) (sp : Addr → Nat → AS → PostV → Prop) : Tab where
 kind x := sc.names.lookup x
 G x := lookG x gL
 pl := plT
 me C x := look3 C x meL
 pr C x := look3 C x prL
 bm k x := lookBm k x bmL
 sm := sm
 sp := sp
theorem lookG_mem {x : Str} {v : Value} : ∀ {l : List (Str × Value)}, lookG x l = some v → (x, v) ∈ l
 | [], e => by exact nS e
 | (y, u) :: r, e => by
  unfold lookG at e
  split at e
  ·rename_i q; cases e; rw [eq_of_beq q]; exact .head _
  ·exact .tail _ (lookG_mem e)
theorem look3_mem {C f : Addr} {x : Str} : ∀ {l : List (Addr × Str × Addr)}, look3 C x l = some f → (C, x, f) ∈ l
 | [], e => by exact nS e
 | (D, y, g) :: r, e => by
  unfold look3 at e
  split at e
  ·rename_i q1 q2; cases e; rw [eq_of_beq q1, eq_of_beq q2]; exact .head _
  ·exact .tail _ (look3_mem e)
theorem lookBm_mem {k : Nat} {x : Str} {f : String} : ∀ {l : List (Nat × Str × String)}, lookBm k x l = some f → (k, x, f) ∈ l
 | [], e => by exact nS e
 | (D, y, g) :: r, e => by
  unfold lookBm at e
  split at e
  ·rename_i q1 q2; cases e; rw [eq_of_beq q1, eq_of_beq q2]; exact .head _
  ·exact .tail _ (lookBm_mem e)
theorem bmL_ok : ∀ p ∈ bmL, BmAt p.1 p.2.1 p.2.2 := by
 intro p hp
 simp only [bmL, List.mem_cons, List.not_mem_nil, or_false] at hp
 rcases hp with rfl | rfl | rfl
 ·exact ⟨pa_dq, slot_dq_append, ty_dq_append⟩
 ·exact ⟨pa_dq, slot_dq_pop, ty_dq_pop⟩
 ·exact ⟨F.plainAttrs_str, F.slot_str_find, F.type_str_find⟩
theorem tabM_ok {cx : Cx} {A : Around} (KO : KOk cx.w cx.K) {sc : Scope} {sm : Value → List AV → AS → PostV → Prop} {sp : Addr → Nat → AS → PostV → Prop} (e : cx.env.scope = sc)
  (hm : ∀ f avs st Qa, sm f avs st Qa → SmOk cx A f avs st Qa) (hp : ∀ f i st Qa, sp f i st Qa → CallOk cx A.in1 (.ref f) [.obj i] st Qa) : TabOk (tabM sc sm sp) cx A where
 kind x := by show sc.names.lookup x = cx.env.scope.names.lookup x; rw [e]
 G x v h := KO.gl _ (lookG_mem h)
 pl C x h := by
  change plT C x = true at h
  unfold plT at h
  split at h
  ·rename_i q; rw [eq_of_beq q]; exact KO.pl1 x (List.contains_iff_mem.mp h)
  ·split at h
   ·rename_i q; rw [eq_of_beq q]; exact KO.pl2 x (List.contains_iff_mem.mp h)
   ·cases h
 me C x f h := KO.me _ (look3_mem h)
 pr C x f h := KO.pr _ (look3_mem h)
 bm k x id h := bmL_ok _ (lookBm_mem h)
 sm := hm
 sp := hp
noncomputable def noSp (_ : Addr) (_ : Nat) (_ : AS) (_ : PostV) : Prop := False
noncomputable def tIndex : Tab := tabM (scopeOf dIndex) smBase noSp
theorem run_index1 (x : Str) (Q : PostF) : exsW tIndex 40 (bodyOf dIndex) { loc := (nm ["n", "what"]).zip [.int 1, .str x], objs := [], dec := [] } Q = Q (.ret (.int 1)) { loc := (nm ["n", "what"]).zip [.int 1, .str x], objs := [], dec := [] } := by kernel_rfl
theorem run_indexM (x : Str) (Q : PostF) : exsW tIndex 40 (bodyOf dIndex) { loc := (nm ["n", "what"]).zip [.int (-1), .str x], objs := [], dec := [] } Q = Q (.ret (.int (-1))) { loc := (nm ["n", "what"]).zip [.int (-1), .str x], objs := [], dec := [] } := by kernel_rfl
end Mine
end
noncomputable section
namespace Mine
open PySem PySem.W PyProof.Rows PySem.Calls
structure Gd (cx : Cx) (A : Around) (k : Nat) : Prop where
 C : CxOk cx
 KO : KOk cx.w cx.K
 hp : cx.prog = prog0
 Rm : Room A k
noncomputable def idxW (avs : List AV) (st : AS) (Q : PostV) : Prop := match avs with
 | [.int i, .str _] => (match decide (i = 1), decide (i = -1) with
  | true, _ => Q (.int i) st
  | false, true => Q (.int i) st
  | false, false => False)
 | _ => False
theorem plain1 {a b : AV} {c d : AV} (ha : Weak a c) (hb : Weak b d) (pc : plainA c = true) (pd : plainA d = true) : ∀ (h : Heap) (ρ : Rho) (vs : List Value), VRels h ρ [a, b] vs → VRels h [] [c, d] vs := by
 intro h ρ vs V
 cases V with
 | cons _ v _ _ r rs =>
  cases rs with
  | cons _ u _ _ r' rs =>
   rcases rs with ⟨⟩
   refine .cons _ _ _ _ ?_ (.cons _ _ _ _ ?_ .nil)
   ·have := ha.rel r
    rcases this with ⟨⟩ <;> first | exact .none | exact .bool _ | exact .sym _ | exact .int _ _ | exact .sint _ _ | exact .str _ _ | exact .sstr _ _ | rcases pc with ⟨⟩
   ·have := hb.rel r'
    rcases this with ⟨⟩ <;> first | exact .none | exact .bool _ | exact .sym _ | exact .int _ _ | exact .sint _ _ | exact .str _ _ | exact .sstr _ _ | rcases pd with ⟨⟩
theorem idx_ok {cx : Cx} {A : Around} {k : Nat} (G : Gd cx A (k + 1)) {avs : List AV} {st : AS} {Qa : PostV} (w : idxW avs st Qa) : CallOk cx A (.ref 63) avs st Qa := by
 rcases avs with _ | ⟨a, r⟩
 ·exact False.elim w
 rcases a with ⟨⟩
 all_goals try exact False.elim w
 rename_i i
 rcases r with _ | ⟨b, r⟩
 ·exact False.elim w
 rcases b with ⟨⟩
 all_goals try exact False.elim w
 all_goals try (rcases r with _ | ⟨_, _⟩ <;> exact False.elim w)
 rename_i x
 rcases r with _ | ⟨_, _⟩
 rotate_left
 ·exact False.elim w
 conv at w => whnf
 have go : ∀ j : Int, (∀ Q : PostF, exsW tIndex 40 (bodyOf dIndex) { loc := (nm ["n", "what"]).zip [.int j, .str x], objs := [], dec := [] } Q = Q (.ret (.int j)) { loc := (nm ["n", "what"]).zip [.int j, .str x], objs := [], dec := [] }) → Qa (.int j) st →
   CallOk cx A (.ref 63) [.int j, .str x] st Qa := by
  intro j run q
  refine pureFn G.C G.KO.toKBase G.hp G.Rm (T := tIndex) (N := 40) (ns := nm ["n", "what"]) (ds := []) (avs' := [.int j, .str x]) G.KO.fIndex (by decide +kernel) rfl ?_ (plain1 (.same _) (.same _) rfl rfl) rfl ?_
  ·intro cx' A' C' hp' hw' hK' sc' Rm'
   exact tabM_ok (by rw [hw', hK']; exact G.KO) sc' (fun f avs st Qa w => smBase_ok w) (fun _ _ _ _ w => w.elim)
  ·rw [run]
   exact ⟨_, _, rfl, .inl rfl, .same _, q⟩
 split at w
 ·rename_i e; cases (of_decide_eq_true e : i = 1); exact go 1 (run_index1 x) w
 ·rename_i e; cases (of_decide_eq_true e : i = -1); exact go (-1) (run_indexM x) w
 ·exact w.elim
noncomputable def sioObj (b : Str) (p : Int) : AObj := .inst 597 [("_StringIO__newline", .str "\n"), ("_StringIO__buf", .sstr b), ("_StringIO__pos", .sint p)]
noncomputable def tCheck : Tab := tabM (scopeOf dCheck) smBase noSp
theorem run_check (b : Str) (p : Int) (o0 : AObj) (rest : List AObj) (Q : PostF) : exsW tCheck 40 (bodyOf dCheck) { loc := (nm ["self"]).zip [.obj 1], objs := o0 :: sioObj b p :: rest, dec := [] } Q =
  Q .next { loc := (nm ["self"]).zip [.obj 1], objs := o0 :: sioObj b p :: rest, dec := [] } := by kernel_rfl
noncomputable def asSio : AObj → Option (Str × Int)
 | .inst C fs => (match fs with
  | [f1, f2, f3] => (match f1.2 with
   | .str x => (match f2.2 with
    | .sstr b => (match f3.2 with
     | .sint p => (match C == 597, f1.1 == ("_StringIO__newline" : Str), f2.1 == ("_StringIO__buf" : Str), f3.1 == ("_StringIO__pos" : Str), x == ("\n" : Str) with
      | true, true, true, true, true => some (b, p)
      | _, _, _, _, _ => none)
     | _ => none)
    | _ => none)
   | _ => none)
  | _ => none)
 | _ => none
theorem asSio_eq {o : AObj} {b : Str} {p : Int} (e : asSio o = some (b, p)) : o = sioObj b p := by
 rcases o with ⟨C, fs⟩ | _ | _
 ·rcases fs with _ | ⟨⟨n1, v1⟩, _ | ⟨⟨n2, v2⟩, _ | ⟨⟨n3, v3⟩, _ | ⟨_, _⟩⟩⟩⟩
  ·exact nS e
  ·exact nS e
  ·exact nS e
  ·rcases v1 with ⟨⟩
   all_goals try exact nS e
   rcases v2 with ⟨⟩
   all_goals try exact nS e
   rcases v3 with ⟨⟩
   all_goals try exact nS e
   unfold asSio at e
   dsimp only at e
   split at e
   ·rename_i h1 h2 h3 h4 h5
    cases e
    rw [eq_of_beq h1, eq_of_beq h2, eq_of_beq h3, eq_of_beq h4, eq_of_beq h5]; rfl
   ·exact nS e
  ·exact nS e
 ·exact nS e
 ·exact nS e
noncomputable def chkW (avs : List AV) (st : AS) (Q : PostV) : Prop := match avs with
 | [.obj 1] => (match st.objs with
  | _ :: o :: _ => (match asSio o with
   | some _ => Q .none st
   | none => False)
  | _ => False)
 | _ => False
theorem chk_ok {cx : Cx} {A : Around} {k : Nat} (G : Gd cx A (k + 1)) {avs : List AV} {st : AS} {Qa : PostV} (w : chkW avs st Qa) : CallOk cx A (.ref 381) avs st Qa := by
 rcases avs with _ | ⟨a, r⟩
 ·exact False.elim w
 rcases a with ⟨⟩
 all_goals try exact False.elim w
 rename_i i
 rcases i with _ | _ | i
 ·exact False.elim w
 rotate_left
 ·exact False.elim w
 rcases r with _ | ⟨_, _⟩
 rotate_left
 ·exact False.elim w
 show CallOk cx A (.ref 381) [.obj 1] st Qa
 conv at w => whnf
 split at w
 ·rename_i o0 o rest e
  split at w
  ·rename_i bp q
   obtain ⟨b, p⟩ := bp
   have q := asSio_eq q
   subst q
   refine sharedFn G.C G.KO.toKBase G.hp G.Rm (T := tCheck) (N := 40) (ns := nm ["self"]) (ds := []) (avs' := [.obj 1]) G.KO.fCheck (by decide +kernel) ?_ (fun _ _ _ V => V) rfl ?_
   ·intro cx' A' C' hp' hw' hK' sc' Rm'
    exact tabM_ok (by rw [hw', hK']; exact G.KO) sc' (fun f avs st Qa w => smBase_ok w) (fun _ _ _ _ w => w.elim)
   ·rw [e, run_check]
    refine ⟨_, _, .inr ⟨rfl, rfl⟩, .same _, ?_⟩
    obtain ⟨l, o, d, g⟩ := st
    dsimp only at e ⊢
    rw [← e]; exact w
  ·exact w.elim
 ·exact w.elim
end Mine
end
noncomputable section
namespace Mine
open PySem PySem.W PyProof.Rows PySem.Calls
noncomputable def smRead (f : Value) (avs : List AV) (st : AS) (Q : PostV) : Prop := match f with
 | .ref a => (match a == 63, a == 381 with
  | true, _ => idxW avs st Q
  | false, true => chkW avs st Q
  | _, _ => False)
 | f => smBase f avs st Q
noncomputable def tRead : Tab := tabM (scopeOf dRead) smRead noSp
noncomputable def rdSt (b : Str) (p : Int) (o0 : AObj) (rest : List AObj) (ds : List Bool) : AS := { loc := (nm ["self", "size"]).zip [.obj 1, .int 1], objs := o0 :: sioObj b p :: rest, dec := ds }
theorem run_read1 (b : Str) (p : Int) (o0 : AObj) (rest : List AObj) (P : AF → List AObj → Prop) : exsW tRead 60 (bodyOf dRead) (rdSt b p o0 rest [true]) (fun fl st' => P fl st'.objs) =
  (b.length ≤ sizeLine ∧ decide ((b.length : Int) ≤ p) = true ∧ P (.ret (.str "")) (o0 :: sioObj b p :: rest)) := by kernel_rfl
theorem run_read2 (b : Str) (p : Int) (o0 : AObj) (rest : List AObj) (P : AF → List AObj → Prop) : exsW tRead 60 (bodyOf dRead) (rdSt b p o0 rest [false, true]) (fun fl st' => P fl st'.objs) =
  (b.length ≤ sizeLine ∧ decide ((b.length : Int) ≤ p) = false ∧ decide (p + 1 < (b.length : Int)) = true ∧ b.length ≤ sizeLine ∧ P (.ret (.sstr (Txt.slice b (some p) (some (p + 1))))) (o0 :: sioObj b (p + 1) :: rest)) := by kernel_rfl
theorem run_read3 (b : Str) (p : Int) (o0 : AObj) (rest : List AObj) (P : AF → List AObj → Prop) : exsW tRead 60 (bodyOf dRead) (rdSt b p o0 rest [false, false]) (fun fl st' => P fl st'.objs) =
  (b.length ≤ sizeLine ∧ decide ((b.length : Int) ≤ p) = false ∧ decide (p + 1 < (b.length : Int)) = false ∧ b.length ≤ sizeLine ∧ P (.ret (.sstr (Txt.slice b (some p) (some (b.length : Int))))) (o0 :: sioObj b (b.length : Int) :: rest)) := by kernel_rfl
noncomputable def rdC (b : Str) (p : Int) : Str := if (b.length : Int) ≤ p then "" else Txt.slice b (some p) (some (p + 1))
noncomputable def rdP (b : Str) (p : Int) : Int := if (b.length : Int) ≤ p then p else p + 1
noncomputable def readW (avs : List AV) (st : AS) (Q : PostV) : Prop := match avs with
 | [.obj 1, .int i] => (match st.objs with
  | o0 :: o :: rest => (match decide (i = 1), asSio o with
   | true, some (b, p) => b.length ≤ sizeLine ∧ Q (.sstr (rdC b p)) { st with objs := o0 :: sioObj b (rdP b p) :: rest }
   | _, _ => False)
  | _ => False)
 | _ => False
theorem smRead_ok {cx : Cx} {A : Around} {k : Nat} (G : Gd cx A (k + 1)) {f : Value} {avs : List AV} {st : AS} {Qa : PostV} (w : smRead f avs st Qa) : SmOk cx A f avs st Qa := by
 unfold smRead at w
 split at w
 ·split at w
  ·rename_i e; rw [eq_of_beq e]; exact (idx_ok G w).sm
  ·rename_i e; rw [eq_of_beq e]; exact (chk_ok G w).sm
  ·exact w.elim
 ·exact smBase_ok w
theorem read_ok {cx : Cx} {A : Around} {k : Nat} (G : Gd cx A (k + 2)) {avs : List AV} {st : AS} {Qa : PostV} (w : readW avs st Qa) : CallOk cx A (.ref 543) avs st Qa := by
 rcases avs with _ | ⟨a, r⟩
 ·exact False.elim w
 rcases a with ⟨⟩
 all_goals try exact False.elim w
 rename_i n
 rcases r with _ | ⟨b, r⟩
 ·rcases n with _ | _ | n <;> exact False.elim w
 rcases n with _ | _ | n
 ·first | exact False.elim w | (rcases b with ⟨⟩ <;> exact False.elim w)
 rotate_left
 ·first | exact False.elim w | (rcases b with ⟨⟩ <;> exact False.elim w)
 rcases b with ⟨⟩
 all_goals try exact False.elim w
 all_goals try (rcases r with _ | ⟨_, _⟩ <;> exact False.elim w)
 rename_i i
 rcases r with _ | ⟨_, _⟩
 rotate_left
 ·exact False.elim w
 show CallOk cx A (.ref 543) [.obj 1, .int i] st Qa
 conv at w => whnf
 split at w
 ·rename_i o0 o rest e
  split at w
  ·rename_i b p hi q
   cases (of_decide_eq_true hi : i = 1)
   have q := asSio_eq q
   subst q
   obtain ⟨hz, w⟩ := w
   have go : ∀ ds, exsW tRead 60 (bodyOf dRead) (rdSt b p o0 rest ds) (fun fl st' => SEnd st Qa fl st'.objs) → CallOk cx A (.ref 543) [.obj 1, .int 1] st Qa := by
    intro ds h
    refine sharedFn G.C G.KO.toKBase G.hp (k := k + 1) G.Rm (T := tRead) (N := 60) (ns := nm ["self", "size"]) (ds := ds) (avs' := [.obj 1, .int 1]) G.KO.fRead (by decide +kernel) ?_ (fun _ _ _ V => V) rfl (by rw [e]; exact h)
    intro cx' A' C' hp' hw' hK' sc' Rm'
    have KO' : KOk cx'.w cx'.K := by rw [hw', hK']; exact G.KO
    exact tabM_ok KO' sc' (fun f avs st Qa w => smRead_ok (k := k) ⟨C', KO', hp', Rm'⟩ w) (fun _ _ _ _ w => w.elim)
   by_cases h1 : (b.length : Int) ≤ p
   ·refine go [true] ?_
    rw [run_read1]
    refine ⟨hz, decide_eq_true h1, _, _, .inl rfl, .str _, ?_⟩
    have e1 : rdC b p = "" := if_pos h1
    have e2 : rdP b p = p := if_pos h1
    rw [e1, e2] at w; exact w
   ·have e1 : rdC b p = Txt.slice b (some p) (some (p + 1)) := if_neg h1
    have e2 : rdP b p = p + 1 := if_neg h1
    rw [e1, e2] at w
    by_cases h2 : p + 1 < (b.length : Int)
    ·refine go [false, true] ?_
     rw [run_read2]
     exact ⟨hz, decide_eq_false h1, decide_eq_true h2, hz, _, _, .inl rfl, .same _, w⟩
    ·refine go [false, false] ?_
     rw [run_read3]
     have e3 : (b.length : Int) = p + 1 := by lia
     refine ⟨hz, decide_eq_false h1, decide_eq_false h2, hz, _, _, .inl rfl, .same _, ?_⟩
     rw [e3]; exact w
  ·exact w.elim
 ·exact w.elim
end Mine
end
noncomputable section
namespace Mine
open PySem PySem.W PyProof.Rows PySem.Calls
noncomputable def tLine : Tab := tabM (scopeOf dLine) smBase noSp
noncomputable def lnSt (b : Str) (p : Int) (o0 : AObj) (rest : List AObj) (ds : List Bool) : AS := { loc := (nm ["self", "limit"]).zip [.obj 1, .int (-1)], objs := o0 :: sioObj b p :: rest, dec := ds }
theorem run_line1 (b : Str) (p : Int) (o0 : AObj) (rest : List AObj) (P : AF → List AObj → Prop) : exsW tLine 60 (bodyOf dLine) (lnSt b p o0 rest [true]) (fun fl st' => P fl st'.objs) =
  (b.length ≤ sizeLine ∧ decide ((b.length : Int) ≤ p) = true ∧ P (.ret (.str "")) (o0 :: sioObj b p :: rest)) := by kernel_rfl
theorem run_line2 (b : Str) (p : Int) (o0 : AObj) (rest : List AObj) (P : AF → List AObj → Prop) : exsW tLine 60 (bodyOf dLine) (lnSt b p o0 rest [false, true]) (fun fl st' => P fl st'.objs) =
  (b.length ≤ sizeLine ∧ decide ((b.length : Int) ≤ p) = false ∧ decide (0 ≤ find4 b "\n" p (b.length : Int)) = true ∧ (Str.ofString "\n").length ≤ sizeLine ∧ b.length ≤ sizeLine ∧
   P (.ret (.sstr (Txt.slice b (some p) (some (find4 b "\n" p (b.length : Int) + ((Str.ofString "\n").length : Int)))))) (o0 :: sioObj b (find4 b "\n" p (b.length : Int) + ((Str.ofString "\n").length : Int)) :: rest)) := by kernel_rfl
theorem run_line3 (b : Str) (p : Int) (o0 : AObj) (rest : List AObj) (P : AF → List AObj → Prop) : exsW tLine 60 (bodyOf dLine) (lnSt b p o0 rest [false, false]) (fun fl st' => P fl st'.objs) =
  (b.length ≤ sizeLine ∧ decide ((b.length : Int) ≤ p) = false ∧ decide (0 ≤ find4 b "\n" p (b.length : Int)) = false ∧ b.length ≤ sizeLine ∧
   P (.ret (.sstr (Txt.slice b (some p) (some (b.length : Int))))) (o0 :: sioObj b (b.length : Int) :: rest)) := by kernel_rfl
noncomputable def rlP (b : Str) (p : Int) : Int := if (b.length : Int) ≤ p then p else if 0 ≤ find4 b "\n" p (b.length : Int) then find4 b "\n" p (b.length : Int) + 1 else (b.length : Int)
noncomputable def lineW (avs : List AV) (st : AS) (Q : PostV) : Prop := match avs with
 | [.obj 1, .int i] => (match st.objs with
  | o0 :: o :: rest => (match decide (i = -1), asSio o with
   | true, some (b, p) => b.length ≤ sizeLine ∧ ∀ x, Q (.sstr x) { st with objs := o0 :: sioObj b (rlP b p) :: rest }
   | _, _ => False)
  | _ => False)
 | _ => False
theorem one_len : ((Str.ofString "\n").length : Int) = 1 := by decide +kernel
theorem line_ok {cx : Cx} {A : Around} {k : Nat} (G : Gd cx A (k + 1)) {avs : List AV} {st : AS} {Qa : PostV} (w : lineW avs st Qa) : CallOk cx A (.ref 395) avs st Qa := by
 rcases avs with _ | ⟨a, r⟩
 ·exact False.elim w
 rcases a with ⟨⟩
 all_goals try exact False.elim w
 rename_i n
 rcases r with _ | ⟨b, r⟩
 ·rcases n with _ | _ | n <;> exact False.elim w
 rcases n with _ | _ | n
 ·first | exact False.elim w | (rcases b with ⟨⟩ <;> exact False.elim w)
 rotate_left
 ·first | exact False.elim w | (rcases b with ⟨⟩ <;> exact False.elim w)
 rcases b with ⟨⟩
 all_goals try exact False.elim w
 all_goals try (rcases r with _ | ⟨_, _⟩ <;> exact False.elim w)
 rename_i i
 rcases r with _ | ⟨_, _⟩
 rotate_left
 ·exact False.elim w
 show CallOk cx A (.ref 395) [.obj 1, .int i] st Qa
 conv at w => whnf
 split at w
 ·rename_i o0 o rest e
  split at w
  ·rename_i b p hi q
   cases (of_decide_eq_true hi : i = -1)
   have q := asSio_eq q
   subst q
   obtain ⟨hz, w⟩ := w
   have go : ∀ ds, exsW tLine 60 (bodyOf dLine) (lnSt b p o0 rest ds) (fun fl st' => SEnd st Qa fl st'.objs) → CallOk cx A (.ref 395) [.obj 1, .int (-1)] st Qa := by
    intro ds h
    refine sharedFn G.C G.KO.toKBase G.hp (k := k) G.Rm (T := tLine) (N := 60) (ns := nm ["self", "limit"]) (ds := ds) (avs' := [.obj 1, .int (-1)]) G.KO.fLine (by decide +kernel) ?_ (fun _ _ _ V => V) rfl (by rw [e]; exact h)
    intro cx' A' C' hp' hw' hK' sc' Rm'
    have KO' : KOk cx'.w cx'.K := by rw [hw', hK']; exact G.KO
    exact tabM_ok KO' sc' (fun f avs st Qa w => smBase_ok w) (fun _ _ _ _ w => w.elim)
   by_cases h1 : (b.length : Int) ≤ p
   ·refine go [true] ?_
    rw [run_line1]
    refine ⟨hz, decide_eq_true h1, _, _, .inl rfl, .str _, ?_⟩
    have e2 : rlP b p = p := if_pos h1
    rw [e2] at w; exact w _
   ·by_cases h2 : 0 ≤ find4 b "\n" p (b.length : Int)
    ·refine go [false, true] ?_
     rw [run_line2]
     refine ⟨hz, decide_eq_false h1, decide_eq_true h2, by rw [sizeLine_eq]; decide +kernel, hz, _, _, .inl rfl, .same _, ?_⟩
     have e2 : rlP b p = find4 b "\n" p (b.length : Int) + 1 := by unfold rlP; rw [if_neg h1, if_pos h2]
     rw [e2] at w
     rw [one_len]; exact w _
    ·refine go [false, false] ?_
     rw [run_line3]
     refine ⟨hz, decide_eq_false h1, decide_eq_false h2, hz, _, _, .inl rfl, .same _, ?_⟩
     have e2 : rlP b p = (b.length : Int) := by unfold rlP; rw [if_neg h1, if_neg h2]
     rw [e2] at w; exact w _
  ·exact w.elim
 ·exact w.elim
noncomputable def smRl (f : Value) (avs : List AV) (st : AS) (Q : PostV) : Prop := match f with
 | .ref a => (match a == 63, a == 381, a == 395 with
  | true, _, _ => idxW avs st Q
  | false, true, _ => chkW avs st Q
  | false, false, true => lineW avs st Q
  | _, _, _ => False)
 | f => smBase f avs st Q
theorem smRl_ok {cx : Cx} {A : Around} {k : Nat} (G : Gd cx A (k + 1)) {f : Value} {avs : List AV} {st : AS} {Qa : PostV} (w : smRl f avs st Qa) : SmOk cx A f avs st Qa := by
 unfold smRl at w
 split at w
 ·split at w
  ·rename_i e; rw [eq_of_beq e]; exact (idx_ok G w).sm
  ·rename_i e; rw [eq_of_beq e]; exact (chk_ok G w).sm
  ·rename_i e; rw [eq_of_beq e]; exact (line_ok G w).sm
  ·exact w.elim
 ·exact smBase_ok w
noncomputable def tRl : Tab := tabM (scopeOf dReadline) smRl noSp
theorem run_rl (b : Str) (p : Int) (o0 : AObj) (rest : List AObj) (P : AF → List AObj → Prop) : exsW tRl 60 (bodyOf dReadline) { loc := (nm ["self", "size"]).zip [.obj 1, .int (-1)], objs := o0 :: sioObj b p :: rest, dec := [] } (fun fl st' => P fl st'.objs) =
  (b.length ≤ sizeLine ∧ ∀ x, P (.ret (.sstr x)) (o0 :: sioObj b (rlP b p) :: rest)) := by kernel_rfl
noncomputable def rlW (avs : List AV) (st : AS) (Q : PostV) : Prop := match avs with
 | [.obj 1] => (match st.objs with
  | o0 :: o :: rest => (match asSio o with
   | some (b, p) => b.length ≤ sizeLine ∧ ∀ x, Q (.sstr x) { st with objs := o0 :: sioObj b (rlP b p) :: rest }
   | none => False)
  | _ => False)
 | _ => False
theorem rl_ok {cx : Cx} {A : Around} {k : Nat} (G : Gd cx A (k + 2)) {avs : List AV} {st : AS} {Qa : PostV} (w : rlW avs st Qa) : CallOk cx A (.ref 551) avs st Qa := by
 rcases avs with _ | ⟨a, r⟩
 ·exact False.elim w
 rcases a with ⟨⟩
 all_goals try exact False.elim w
 rename_i n
 rcases n with _ | _ | n
 ·exact False.elim w
 rotate_left
 ·exact False.elim w
 rcases r with _ | ⟨_, _⟩
 rotate_left
 ·exact False.elim w
 show CallOk cx A (.ref 551) [.obj 1] st Qa
 conv at w => whnf
 split at w
 ·rename_i o0 o rest e
  split at w
  ·rename_i b p q
   have q := asSio_eq q
   subst q
   obtain ⟨hz, w⟩ := w
   obtain ⟨t0, F⟩ := G.KO.fReadline
   refine sharedFnD G.C G.KO.toKBase G.hp (k := k + 1) G.Rm (T := tRl) (N := 60) (ns := nm ["self", "size"]) (ds := []) (avs' := [.obj 1, .int (-1)]) (amore := []) F rfl (by decide +kernel) ?_ ?_ rfl ?_
   ·intro cx' A' C' hp' hw' hK' sc' Rm'
    have KO' : KOk cx'.w cx'.K := by simp only [hw', hK']; exact G.KO
    exact tabM_ok KO' sc' (fun f avs st Qa w => smRl_ok (k := k) ⟨C', KO', hp', Rm'⟩ w) (fun _ _ _ _ w => w.elim)
   ·intro h ρ vs V
    obtain ⟨va, _, rfl, ra, V⟩ := V.cons_inv
    obtain rfl := V.nil_inv
    exact .cons _ _ _ _ ra (.cons _ _ _ _ (.int _ _) .nil)
   ·simp only [e, run_rl]
    exact ⟨hz, fun x => ⟨_, _, .inl rfl, .same _, w x⟩⟩
  ·exact w.elim
 ·exact w.elim
end Mine
end
noncomputable section
namespace Mine
open PySem PySem.W PyProof.Rows PySem.Calls
noncomputable def tPc : Tab := tabM (scopeOf dPc) smBase noSp
theorem run_pc (o : AObj) (rest : List AObj) (P : AF → List AObj → Prop) : exsW tPc 20 (bodyOf dPc) { loc := (nm ["self"]).zip [.obj 0], objs := o :: rest, dec := [] } (fun fl st' => P fl st'.objs) =
  attrW tPc "_punctuation_chars" (.obj 0) { loc := (nm ["self"]).zip [.obj 0], objs := o :: rest, dec := [] } (fun a st => P (.ret a) st.objs) := by kernel_rfl
noncomputable def spLex (f : Addr) (i : Nat) (st : AS) (Q : PostV) : Prop := match f == 663, i, st.objs with
 | true, 0, .inst C m :: _ => (match C == 732, m.lookup ("_punctuation_chars" : Str) with
  | true, some v => (match noVal v with
   | true => Q v st
   | false => False)
  | _, _ => False)
 | _, _, _ => False
theorem spLex_ok {cx : Cx} {A : Around} {k : Nat} (G : Gd cx A (k + 1)) {f : Addr} {i : Nat} {st : AS} {Qa : PostV} (w : spLex f i st Qa) : CallOk cx A (.ref f) [.obj i] st Qa := by
 unfold spLex at w
 split at w
 ·rename_i C m rest hf e
  rw [eq_of_beq hf]
  split at w
  ·rename_i v hC hv
   refine el0_2 (bt w) fun nv w => ?_
   ·skip
    have hC := eq_of_beq hC
    subst hC
    refine sharedFn G.C G.KO.toKBase G.hp (k := k) G.Rm (T := tPc) (N := 20) (ns := nm ["self"]) (ds := []) (avs' := [.obj 0]) G.KO.fPc (by decide +kernel) ?_ (fun _ _ _ V => V) rfl ?_
    ·intro cx' A' C' hp' hw' hK' sc' Rm'
     have KO' : KOk cx'.w cx'.K := by rw [hw', hK']; exact G.KO
     exact tabM_ok KO' sc' (fun f avs st Qa w => smBase_ok w) (fun _ _ _ _ w => w.elim)
    ·rw [e, run_pc]
     have p1 : tPc.pr 732 (Str.ofString "_punctuation_chars") = none := by decide +kernel
     have p2 : tPc.pl 732 (Str.ofString "_punctuation_chars") = true := by decide +kernel
     simp only [attrW, List.getElem?_cons_zero, p1, p2, hv, nv]
     refine ⟨_, _, .inl rfl, .same _, ?_⟩
     obtain ⟨l, o, d, g⟩ := st
     dsimp only at e ⊢
     rw [← e]; exact w
  ·exact w.elim
 ·exact w.elim
noncomputable def lxObj (state token : AV) (ln : Int) (wc pc : Str) : AObj := .inst 732
 [("instream", .obj 1), ("infile", .none), ("posix", .bool true), ("eof", .none), ("commenters", .str "#"), ("wordchars", .sstr wc), ("whitespace", .str " \t\r\n"), ("whitespace_split", .bool false), ("quotes", .str "'\""), ("escape", .str "\\"), ("escapedquotes", .str "\""),
  ("state", state), ("pushback", .obj 2), ("lineno", .sint ln), ("debug", .int 0), ("token", token), ("filestack", .obj 3), ("source", .none), ("_punctuation_chars", .sstr pc), ("_pushback_chars", .obj 4)]
noncomputable def lxTab (state token : AV) (ln : Int) (wc pc : Str) (b : Str) (p : Int) (pb : List AV) : List AObj := [lxObj state token ln wc pc, sioObj b p, .deque [], .deque [], .deque pb]
noncomputable def smRt (f : Value) (avs : List AV) (st : AS) (Q : PostV) : Prop := match f with
 | .ref a => (match a == 543, a == 551 with
  | true, _ => readW avs st Q
  | false, true => rlW avs st Q
  | _, _ => False)
 | f => smBase f avs st Q
theorem smRt_ok {cx : Cx} {A : Around} {k : Nat} (G : Gd cx A (k + 2)) {f : Value} {avs : List AV} {st : AS} {Qa : PostV} (w : smRt f avs st Qa) : SmOk cx A f avs st Qa := by
 unfold smRt at w
 split at w
 ·split at w
  ·rename_i e; rw [eq_of_beq e]; exact (read_ok G w).sm
  ·rename_i e; rw [eq_of_beq e]; exact (rl_ok G w).sm
  ·exact w.elim
 ·exact smBase_ok w
noncomputable def tRt : Tab := tabM (scopeOf dRt) smRt spLex
noncomputable def whileBody : List Stmt → List Stmt
 | .While _ b _ _ :: _ => b
 | _ :: r => whileBody r
 | [] => []
noncomputable def rtLoop : List Stmt := whileBody (bodyOf dRt)
noncomputable def rtLoc (q : AV) (esc : AV) (nx : List (Str × AV)) : List (Str × AV) := ("self", .obj 0) :: ("quoted", q) :: ("escapedstate", esc) :: nx
noncomputable def rtSt (state token : AV) (ln : Int) (wc pc b : Str) (p : Int) (pb : List AV) (q esc : AV) (nx : List (Str × AV)) (ds : List Bool) : AS :=
 { loc := rtLoc q esc nx, objs := lxTab state token ln wc pc b p pb, dec := ds }
end Mine
end
noncomputable section
namespace Mine
open PySem PySem.W PyProof.Rows PySem.Calls
noncomputable def rtRest : List Stmt := rtLoop.drop 1
theorem tn_sp_eof (t esc : Str) (ln : Int) (wc pc b : Str) (p : Int) (q : Bool) (c : Str) (P : AF → AS → Prop) :
  exsW tRt 60 rtRest (rtSt (.str " ") (.sstr t) ln wc pc b p [] (.sym q) (.str esc) [("nextchar", (.sstr c))] [false, false]) P = ((c == ("\n" : Str)) = false ∧ c.length ≤ sizeLine ∧ ((c.length : Int) != 0) = false ∧ P .brk (rtSt .none (.sstr t) ln wc pc b p [] (.sym q) (.str esc) [("nextchar", (.sstr c))] [])) := by kernel_rfl
theorem tn_sp_ws_nl (t esc : Str) (ln : Int) (wc pc b : Str) (p : Int) (q : Bool) (c : Str) (P : AF → AS → Prop) :
  exsW tRt 60 rtRest (rtSt (.str " ") (.sstr t) ln wc pc b p [] (.sym q) (.str esc) [("nextchar", (.sstr c))] [true, true, true, false, false]) P = ((c == ("\n" : Str)) = true ∧ c.length ≤ sizeLine ∧ ((c.length : Int) != 0) = true ∧ inStr c " \t\r\n" = true ∧ t.length ≤ sizeLine ∧ ((t.length : Int) != 0) = false ∧ q = false ∧ P .cont (rtSt (.str " ") (.sstr t) (ln + 1) wc pc b p [] (.sym q) (.str esc) [("nextchar", (.sstr c))] [])) := by kernel_rfl
theorem tn_sp_ws (t esc : Str) (ln : Int) (wc pc b : Str) (p : Int) (q : Bool) (c : Str) (P : AF → AS → Prop) :
  exsW tRt 60 rtRest (rtSt (.str " ") (.sstr t) ln wc pc b p [] (.sym q) (.str esc) [("nextchar", (.sstr c))] [false, true, true, false, false]) P = ((c == ("\n" : Str)) = false ∧ c.length ≤ sizeLine ∧ ((c.length : Int) != 0) = true ∧ inStr c " \t\r\n" = true ∧ t.length ≤ sizeLine ∧ ((t.length : Int) != 0) = false ∧ q = false ∧ P .cont (rtSt (.str " ") (.sstr t) ln wc pc b p [] (.sym q) (.str esc) [("nextchar", (.sstr c))] [])) := by kernel_rfl
theorem tn_sp_cm (t esc : Str) (ln : Int) (wc pc b : Str) (p : Int) (q : Bool) (c : Str) (P : AF → AS → Prop) :
  exsW tRt 60 rtRest (rtSt (.str " ") (.sstr t) ln wc pc b p [] (.sym q) (.str esc) [("nextchar", (.str "#"))] []) P = (b.length ≤ sizeLine ∧ ∀ x : Str, P .next (rtSt (.str " ") (.sstr t) (ln + 1) wc pc b (rlP b p) [] (.sym q) (.str esc) [("nextchar", (.str "#"))] [])) := by kernel_rfl
theorem tn_sp_es (t esc : Str) (ln : Int) (wc pc b : Str) (p : Int) (q : Bool) (c : Str) (P : AF → AS → Prop) :
  exsW tRt 60 rtRest (rtSt (.str " ") (.sstr t) ln wc pc b p [] (.sym q) (.str esc) [("nextchar", (.str "\\"))] []) P = (P .next (rtSt (.str "\\") (.sstr t) ln wc pc b p [] (.sym q) (.str "a") [("nextchar", (.str "\\"))] [])) := by kernel_rfl
theorem tn_sp_wc (t esc : Str) (ln : Int) (wc pc b : Str) (p : Int) (q : Bool) (c : Str) (P : AF → AS → Prop) :
  exsW tRt 60 rtRest (rtSt (.str " ") (.sstr t) ln wc pc b p [] (.sym q) (.str esc) [("nextchar", (.sstr c))] [false, true, false, false, false, true]) P = ((c == ("\n" : Str)) = false ∧ c.length ≤ sizeLine ∧ ((c.length : Int) != 0) = true ∧ inStr c " \t\r\n" = false ∧ inStr c "#" = false ∧ inStr c "\\" = false ∧ inStr c wc = true ∧ P .next (rtSt (.str "a") (.sstr c) ln wc pc b p [] (.sym q) (.str esc) [("nextchar", (.sstr c))] [])) := by kernel_rfl
theorem tn_sp_pc (t esc : Str) (ln : Int) (wc pc b : Str) (p : Int) (q : Bool) (c : Str) (P : AF → AS → Prop) :
  exsW tRt 60 rtRest (rtSt (.str " ") (.sstr t) ln wc pc b p [] (.sym q) (.str esc) [("nextchar", (.sstr c))] [false, true, false, false, false, false, true]) P = ((c == ("\n" : Str)) = false ∧ c.length ≤ sizeLine ∧ ((c.length : Int) != 0) = true ∧ inStr c " \t\r\n" = false ∧ inStr c "#" = false ∧ inStr c "\\" = false ∧ inStr c wc = false ∧ inStr c pc = true ∧ P .next (rtSt (.str "c") (.sstr c) ln wc pc b p [] (.sym q) (.str esc) [("nextchar", (.sstr c))] [])) := by kernel_rfl
theorem tn_sp_sq (t esc : Str) (ln : Int) (wc pc b : Str) (p : Int) (q : Bool) (c : Str) (P : AF → AS → Prop) :
  exsW tRt 60 rtRest (rtSt (.str " ") (.sstr t) ln wc pc b p [] (.sym q) (.str esc) [("nextchar", (.str "'"))] [false, false]) P = (inStr "'" wc = false ∧ inStr "'" pc = false ∧ P .next (rtSt (.str "'") (.sstr t) ln wc pc b p [] (.sym q) (.str esc) [("nextchar", (.str "'"))] [])) := by kernel_rfl
theorem tn_sp_dq (t esc : Str) (ln : Int) (wc pc b : Str) (p : Int) (q : Bool) (c : Str) (P : AF → AS → Prop) :
  exsW tRt 60 rtRest (rtSt (.str " ") (.sstr t) ln wc pc b p [] (.sym q) (.str esc) [("nextchar", (.str "\""))] [false, false]) P = (inStr "\"" wc = false ∧ inStr "\"" pc = false ∧ P .next (rtSt (.str "\"") (.sstr t) ln wc pc b p [] (.sym q) (.str esc) [("nextchar", (.str "\""))] [])) := by kernel_rfl
theorem tn_a_eof (t esc : Str) (ln : Int) (wc pc b : Str) (p : Int) (q : Bool) (c : Str) (P : AF → AS → Prop) :
  exsW tRt 60 rtRest (rtSt (.str "a") (.sstr t) ln wc pc b p [] (.sym q) (.str esc) [("nextchar", (.sstr c))] [false, false]) P = ((c == ("\n" : Str)) = false ∧ c.length ≤ sizeLine ∧ ((c.length : Int) != 0) = false ∧ P .brk (rtSt .none (.sstr t) ln wc pc b p [] (.sym q) (.str esc) [("nextchar", (.sstr c))] [])) := by kernel_rfl
theorem tn_a_ws_nl (t esc : Str) (ln : Int) (wc pc b : Str) (p : Int) (q : Bool) (c : Str) (P : AF → AS → Prop) :
  exsW tRt 60 rtRest (rtSt (.str "a") (.sstr t) ln wc pc b p [] (.sym q) (.str esc) [("nextchar", (.sstr c))] [true, true, true, true]) P = ((c == ("\n" : Str)) = true ∧ c.length ≤ sizeLine ∧ ((c.length : Int) != 0) = true ∧ inStr c " \t\r\n" = true ∧ t.length ≤ sizeLine ∧ ((t.length : Int) != 0) = true ∧ P .brk (rtSt (.str " ") (.sstr t) (ln + 1) wc pc b p [] (.sym q) (.str esc) [("nextchar", (.sstr c))] [])) := by kernel_rfl
theorem tn_a_ws (t esc : Str) (ln : Int) (wc pc b : Str) (p : Int) (q : Bool) (c : Str) (P : AF → AS → Prop) :
  exsW tRt 60 rtRest (rtSt (.str "a") (.sstr t) ln wc pc b p [] (.sym q) (.str esc) [("nextchar", (.sstr c))] [false, true, true, true]) P = ((c == ("\n" : Str)) = false ∧ c.length ≤ sizeLine ∧ ((c.length : Int) != 0) = true ∧ inStr c " \t\r\n" = true ∧ t.length ≤ sizeLine ∧ ((t.length : Int) != 0) = true ∧ P .brk (rtSt (.str " ") (.sstr t) ln wc pc b p [] (.sym q) (.str esc) [("nextchar", (.sstr c))] [])) := by kernel_rfl
theorem tn_a_cm (t esc : Str) (ln : Int) (wc pc b : Str) (p : Int) (q : Bool) (c : Str) (P : AF → AS → Prop) :
  exsW tRt 60 rtRest (rtSt (.str "a") (.sstr t) ln wc pc b p [] (.sym q) (.str esc) [("nextchar", (.str "#"))] [true]) P = (b.length ≤ sizeLine ∧ ∀ x : Str, t.length ≤ sizeLine ∧ ((t.length : Int) != 0) = true ∧ P .brk (rtSt (.str " ") (.sstr t) (ln + 1) wc pc b (rlP b p) [] (.sym q) (.str esc) [("nextchar", (.str "#"))] [])) := by kernel_rfl
theorem tn_a_sq (t esc : Str) (ln : Int) (wc pc b : Str) (p : Int) (q : Bool) (c : Str) (P : AF → AS → Prop) :
  exsW tRt 60 rtRest (rtSt (.str "a") (.sstr t) ln wc pc b p [] (.sym q) (.str esc) [("nextchar", (.str "'"))] []) P = (P .next (rtSt (.str "'") (.sstr t) ln wc pc b p [] (.sym q) (.str esc) [("nextchar", (.str "'"))] [])) := by kernel_rfl
theorem tn_a_dq (t esc : Str) (ln : Int) (wc pc b : Str) (p : Int) (q : Bool) (c : Str) (P : AF → AS → Prop) :
  exsW tRt 60 rtRest (rtSt (.str "a") (.sstr t) ln wc pc b p [] (.sym q) (.str esc) [("nextchar", (.str "\""))] []) P = (P .next (rtSt (.str "\"") (.sstr t) ln wc pc b p [] (.sym q) (.str esc) [("nextchar", (.str "\""))] [])) := by kernel_rfl
theorem tn_a_es (t esc : Str) (ln : Int) (wc pc b : Str) (p : Int) (q : Bool) (c : Str) (P : AF → AS → Prop) :
  exsW tRt 60 rtRest (rtSt (.str "a") (.sstr t) ln wc pc b p [] (.sym q) (.str esc) [("nextchar", (.str "\\"))] []) P = (P .next (rtSt (.str "\\") (.sstr t) ln wc pc b p [] (.sym q) (.str "a") [("nextchar", (.str "\\"))] [])) := by kernel_rfl
theorem tn_a_wc (t esc : Str) (ln : Int) (wc pc b : Str) (p : Int) (q : Bool) (c : Str) (P : AF → AS → Prop) :
  exsW tRt 60 rtRest (rtSt (.str "a") (.sstr t) ln wc pc b p [] (.sym q) (.str esc) [("nextchar", (.sstr c))] [false, true, false, false, false, false, true]) P = ((c == ("\n" : Str)) = false ∧ c.length ≤ sizeLine ∧ ((c.length : Int) != 0) = true ∧ inStr c " \t\r\n" = false ∧ inStr c "#" = false ∧ inStr c "'\"" = false ∧ inStr c "\\" = false ∧ inStr c wc = true ∧ t.length + c.length ≤ sizeLine ∧ P .next (rtSt (.str "a") (.sstr (t ++ c)) ln wc pc b p [] (.sym q) (.str esc) [("nextchar", (.sstr c))] [])) := by kernel_rfl
theorem tn_a_pc (t esc : Str) (ln : Int) (wc pc b : Str) (p : Int) (q : Bool) (c : Str) (P : AF → AS → Prop) :
  exsW tRt 60 rtRest (rtSt (.str "a") (.sstr t) ln wc pc b p [] (.sym q) (.str esc) [("nextchar", (.sstr c))] [false, true, false, false, false, false, false, false, true, true]) P = ((c == ("\n" : Str)) = false ∧ c.length ≤ sizeLine ∧ ((c.length : Int) != 0) = true ∧ inStr c " \t\r\n" = false ∧ inStr c "#" = false ∧ inStr c "'\"" = false ∧ inStr c "\\" = false ∧ inStr c wc = false ∧ inStr c "'\"" = false ∧ pc.length ≤ sizeLine ∧ ((pc.length : Int) != 0) = true ∧ t.length ≤ sizeLine ∧ ((t.length : Int) != 0) = true ∧ P .brk (rtSt (.str " ") (.sstr t) ln wc pc b p [.sstr c] (.sym q) (.str esc) [("nextchar", (.sstr c))] [])) := by kernel_rfl
theorem tn_c_eof (t esc : Str) (ln : Int) (wc pc b : Str) (p : Int) (q : Bool) (c : Str) (P : AF → AS → Prop) :
  exsW tRt 60 rtRest (rtSt (.str "c") (.sstr t) ln wc pc b p [] (.sym q) (.str esc) [("nextchar", (.sstr c))] [false, false]) P = ((c == ("\n" : Str)) = false ∧ c.length ≤ sizeLine ∧ ((c.length : Int) != 0) = false ∧ P .brk (rtSt .none (.sstr t) ln wc pc b p [] (.sym q) (.str esc) [("nextchar", (.sstr c))] [])) := by kernel_rfl
theorem tn_c_ws_nl (t esc : Str) (ln : Int) (wc pc b : Str) (p : Int) (q : Bool) (c : Str) (P : AF → AS → Prop) :
  exsW tRt 60 rtRest (rtSt (.str "c") (.sstr t) ln wc pc b p [] (.sym q) (.str esc) [("nextchar", (.sstr c))] [true, true, true, true]) P = ((c == ("\n" : Str)) = true ∧ c.length ≤ sizeLine ∧ ((c.length : Int) != 0) = true ∧ inStr c " \t\r\n" = true ∧ t.length ≤ sizeLine ∧ ((t.length : Int) != 0) = true ∧ P .brk (rtSt (.str " ") (.sstr t) (ln + 1) wc pc b p [] (.sym q) (.str esc) [("nextchar", (.sstr c))] [])) := by kernel_rfl
theorem tn_c_ws (t esc : Str) (ln : Int) (wc pc b : Str) (p : Int) (q : Bool) (c : Str) (P : AF → AS → Prop) :
  exsW tRt 60 rtRest (rtSt (.str "c") (.sstr t) ln wc pc b p [] (.sym q) (.str esc) [("nextchar", (.sstr c))] [false, true, true, true]) P = ((c == ("\n" : Str)) = false ∧ c.length ≤ sizeLine ∧ ((c.length : Int) != 0) = true ∧ inStr c " \t\r\n" = true ∧ t.length ≤ sizeLine ∧ ((t.length : Int) != 0) = true ∧ P .brk (rtSt (.str " ") (.sstr t) ln wc pc b p [] (.sym q) (.str esc) [("nextchar", (.sstr c))] [])) := by kernel_rfl
theorem tn_c_cm (t esc : Str) (ln : Int) (wc pc b : Str) (p : Int) (q : Bool) (c : Str) (P : AF → AS → Prop) :
  exsW tRt 60 rtRest (rtSt (.str "c") (.sstr t) ln wc pc b p [] (.sym q) (.str esc) [("nextchar", (.str "#"))] [true]) P = (b.length ≤ sizeLine ∧ ∀ x : Str, t.length ≤ sizeLine ∧ ((t.length : Int) != 0) = true ∧ P .brk (rtSt (.str " ") (.sstr t) (ln + 1) wc pc b (rlP b p) [] (.sym q) (.str esc) [("nextchar", (.str "#"))] [])) := by kernel_rfl
theorem tn_c_pc (t esc : Str) (ln : Int) (wc pc b : Str) (p : Int) (q : Bool) (c : Str) (P : AF → AS → Prop) :
  exsW tRt 60 rtRest (rtSt (.str "c") (.sstr t) ln wc pc b p [] (.sym q) (.str esc) [("nextchar", (.sstr c))] [false, true, false, false, true]) P = ((c == ("\n" : Str)) = false ∧ c.length ≤ sizeLine ∧ ((c.length : Int) != 0) = true ∧ inStr c " \t\r\n" = false ∧ inStr c "#" = false ∧ inStr c pc = true ∧ t.length + c.length ≤ sizeLine ∧ P .next (rtSt (.str "c") (.sstr (t ++ c)) ln wc pc b p [] (.sym q) (.str esc) [("nextchar", (.sstr c))] [])) := by kernel_rfl
theorem tn_c_wc (t esc : Str) (ln : Int) (wc pc b : Str) (p : Int) (q : Bool) (c : Str) (P : AF → AS → Prop) :
  exsW tRt 60 rtRest (rtSt (.str "c") (.sstr t) ln wc pc b p [] (.sym q) (.str esc) [("nextchar", (.sstr c))] [false, true, false, false, false, true]) P = ((c == ("\n" : Str)) = false ∧ c.length ≤ sizeLine ∧ ((c.length : Int) != 0) = true ∧ inStr c " \t\r\n" = false ∧ inStr c "#" = false ∧ inStr c pc = false ∧ (!inStr c " \t\r\n") = true ∧ P .brk (rtSt (.str " ") (.sstr t) ln wc pc b p [.sstr c] (.sym q) (.str esc) [("nextchar", (.sstr c))] [])) := by kernel_rfl
theorem tn_c_sq (t esc : Str) (ln : Int) (wc pc b : Str) (p : Int) (q : Bool) (c : Str) (P : AF → AS → Prop) :
  exsW tRt 60 rtRest (rtSt (.str "c") (.sstr t) ln wc pc b p [] (.sym q) (.str esc) [("nextchar", (.str "'"))] [false]) P = (inStr "'" pc = false ∧ P .brk (rtSt (.str " ") (.sstr t) ln wc pc b p [(.str "'")] (.sym q) (.str esc) [("nextchar", (.str "'"))] [])) := by kernel_rfl
theorem tn_c_dq (t esc : Str) (ln : Int) (wc pc b : Str) (p : Int) (q : Bool) (c : Str) (P : AF → AS → Prop) :
  exsW tRt 60 rtRest (rtSt (.str "c") (.sstr t) ln wc pc b p [] (.sym q) (.str esc) [("nextchar", (.str "\""))] [false]) P = (inStr "\"" pc = false ∧ P .brk (rtSt (.str " ") (.sstr t) ln wc pc b p [(.str "\"")] (.sym q) (.str esc) [("nextchar", (.str "\""))] [])) := by kernel_rfl
theorem tn_c_es (t esc : Str) (ln : Int) (wc pc b : Str) (p : Int) (q : Bool) (c : Str) (P : AF → AS → Prop) :
  exsW tRt 60 rtRest (rtSt (.str "c") (.sstr t) ln wc pc b p [] (.sym q) (.str esc) [("nextchar", (.str "\\"))] [false]) P = (inStr "\\" pc = false ∧ P .brk (rtSt (.str " ") (.sstr t) ln wc pc b p [(.str "\\")] (.sym q) (.str esc) [("nextchar", (.str "\\"))] [])) := by kernel_rfl
theorem tn_sq_eof (t esc : Str) (ln : Int) (wc pc b : Str) (p : Int) (q : Bool) (c : Str) (P : AF → AS → Prop) :
  exsW tRt 60 rtRest (rtSt (.str "'") (.sstr t) ln wc pc b p [] (.sym q) (.str esc) [("nextchar", (.sstr c))] [false, false]) P = ((c == ("\n" : Str)) = false ∧ c.length ≤ sizeLine ∧ ((c.length : Int) != 0) = false ∧ P (.exc "No closing quotation") (rtSt (.str "'") (.sstr t) ln wc pc b p [] (.bool true) (.str esc) [("nextchar", (.sstr c))] [])) := by kernel_rfl
theorem tn_sq_in (t esc : Str) (ln : Int) (wc pc b : Str) (p : Int) (q : Bool) (c : Str) (P : AF → AS → Prop) :
  exsW tRt 60 rtRest (rtSt (.str "'") (.sstr t) ln wc pc b p [] (.sym q) (.str esc) [("nextchar", (.sstr c))] [false, true, false, false]) P = ((c == ("\n" : Str)) = false ∧ c.length ≤ sizeLine ∧ ((c.length : Int) != 0) = true ∧ (c == ("'" : Str)) = false ∧ inStr c "\\" = false ∧ t.length + c.length ≤ sizeLine ∧ P .next (rtSt (.str "'") (.sstr (t ++ c)) ln wc pc b p [] (.bool true) (.str esc) [("nextchar", (.sstr c))] [])) := by kernel_rfl
theorem tn_dq_eof (t esc : Str) (ln : Int) (wc pc b : Str) (p : Int) (q : Bool) (c : Str) (P : AF → AS → Prop) :
  exsW tRt 60 rtRest (rtSt (.str "\"") (.sstr t) ln wc pc b p [] (.sym q) (.str esc) [("nextchar", (.sstr c))] [false, false]) P = ((c == ("\n" : Str)) = false ∧ c.length ≤ sizeLine ∧ ((c.length : Int) != 0) = false ∧ P (.exc "No closing quotation") (rtSt (.str "\"") (.sstr t) ln wc pc b p [] (.bool true) (.str esc) [("nextchar", (.sstr c))] [])) := by kernel_rfl
theorem tn_dq_in (t esc : Str) (ln : Int) (wc pc b : Str) (p : Int) (q : Bool) (c : Str) (P : AF → AS → Prop) :
  exsW tRt 60 rtRest (rtSt (.str "\"") (.sstr t) ln wc pc b p [] (.sym q) (.str esc) [("nextchar", (.sstr c))] [false, true, false, false]) P = ((c == ("\n" : Str)) = false ∧ c.length ≤ sizeLine ∧ ((c.length : Int) != 0) = true ∧ (c == ("\"" : Str)) = false ∧ inStr c "\\" = false ∧ t.length + c.length ≤ sizeLine ∧ P .next (rtSt (.str "\"") (.sstr (t ++ c)) ln wc pc b p [] (.bool true) (.str esc) [("nextchar", (.sstr c))] [])) := by kernel_rfl
theorem tn_sq_end (t esc : Str) (ln : Int) (wc pc b : Str) (p : Int) (q : Bool) (c : Str) (P : AF → AS → Prop) :
  exsW tRt 60 rtRest (rtSt (.str "'") (.sstr t) ln wc pc b p [] (.sym q) (.str esc) [("nextchar", (.str "'"))] []) P = (P .next (rtSt (.str "a") (.sstr t) ln wc pc b p [] (.bool true) (.str esc) [("nextchar", (.str "'"))] [])) := by kernel_rfl
theorem tn_dq_end (t esc : Str) (ln : Int) (wc pc b : Str) (p : Int) (q : Bool) (c : Str) (P : AF → AS → Prop) :
  exsW tRt 60 rtRest (rtSt (.str "\"") (.sstr t) ln wc pc b p [] (.sym q) (.str esc) [("nextchar", (.str "\""))] []) P = (P .next (rtSt (.str "a") (.sstr t) ln wc pc b p [] (.bool true) (.str esc) [("nextchar", (.str "\""))] [])) := by kernel_rfl
theorem tn_es_eof (t esc : Str) (ln : Int) (wc pc b : Str) (p : Int) (q : Bool) (c : Str) (P : AF → AS → Prop) :
  exsW tRt 60 rtRest (rtSt (.str "\\") (.sstr t) ln wc pc b p [] (.sym q) (.str esc) [("nextchar", (.sstr c))] [false, false]) P = ((c == ("\n" : Str)) = false ∧ c.length ≤ sizeLine ∧ ((c.length : Int) != 0) = false ∧ P (.exc "No escaped character") (rtSt (.str "\\") (.sstr t) ln wc pc b p [] (.sym q) (.str esc) [("nextchar", (.sstr c))] [])) := by kernel_rfl
theorem tn_es_in (t esc : Str) (ln : Int) (wc pc b : Str) (p : Int) (q : Bool) (c : Str) (P : AF → AS → Prop) :
  exsW tRt 60 rtRest (rtSt (.str "\\") (.sstr t) ln wc pc b p [] (.sym q) (.str "a") [("nextchar", (.sstr c))] [false, true]) P = ((c == ("\n" : Str)) = false ∧ c.length ≤ sizeLine ∧ ((c.length : Int) != 0) = true ∧ t.length + c.length ≤ sizeLine ∧ P .next (rtSt (.str "a") (.sstr (t ++ c)) ln wc pc b p [] (.sym q) (.str "a") [("nextchar", (.sstr c))] [])) := by kernel_rfl
theorem tn_none_eof (t esc : Str) (ln : Int) (wc pc b : Str) (p : Int) (q : Bool) (c : Str) (P : AF → AS → Prop) :
  exsW tRt 60 rtRest (rtSt .none (.sstr t) ln wc pc b p [] (.sym q) (.str esc) [("nextchar", (.sstr c))] [false]) P = ((c == ("\n" : Str)) = false ∧ P .brk (rtSt .none (.str "") ln wc pc b p [] (.sym q) (.str esc) [("nextchar", (.sstr c))] [])) := by kernel_rfl
end Mine
end
noncomputable section
namespace Mine
open PySem PySem.W PyProof.Rows PySem.Calls
noncomputable def rtHead : List Stmt := (bodyOf dRt).take 2
noncomputable def rtTail : List Stmt := (bodyOf dRt).drop 3
theorem rt_head (os : List AObj) (ds : List Bool) (P : PostF) : exsW tRt 20 rtHead { loc := (nm ["self"]).zip [.obj 0], objs := os, dec := ds } P = P .next { loc := rtLoc (.bool false) (.str " ") [], objs := os, dec := ds } := by kernel_rfl
theorem rt_tail_word (st esc nx : AV) (t : Str) (q : Bool) (ln : Int) (wc pc b : Str) (p : Int) (pb : List AV) (P : AF → List AObj → Prop) :
  exsW tRt 60 rtTail (rtSt st (.sstr t) ln wc pc b p pb (.sym q) esc [("nextchar", nx)] [false, false]) (fun fl st' => P fl st'.objs) =
   (q = false ∧ (t == ("" : Str)) = false ∧ P (.ret (.sstr t)) (lxTab st (.str "") ln wc pc b p pb)) := by kernel_rfl
theorem rt_tail_quoted (st esc nx : AV) (t : Str) (q : Bool) (ln : Int) (wc pc b : Str) (p : Int) (pb : List AV) (P : AF → List AObj → Prop) :
  exsW tRt 60 rtTail (rtSt st (.sstr t) ln wc pc b p pb (.sym q) esc [("nextchar", nx)] [true]) (fun fl st' => P fl st'.objs) =
   (q = true ∧ P (.ret (.sstr t)) (lxTab st (.str "") ln wc pc b p pb)) := by kernel_rfl
theorem rt_tail_none (st esc nx : AV) (t : Str) (q : Bool) (ln : Int) (wc pc b : Str) (p : Int) (pb : List AV) (P : AF → List AObj → Prop) :
  exsW tRt 60 rtTail (rtSt st (.sstr t) ln wc pc b p pb (.sym q) esc [("nextchar", nx)] [false, true]) (fun fl st' => P fl st'.objs) =
   (q = false ∧ (t == ("" : Str)) = true ∧ P (.ret .none) (lxTab st (.str "") ln wc pc b p pb)) := by kernel_rfl
end Mine
end
noncomputable section
namespace Mine
open PySem PySem.W PyProof.Rows PySem.Calls
inductive Sm : AV → AV → Prop
 | same (a : AV) : Sm a a
 | str (x : Str) : Sm (.str x) (.sstr x)
 | sstr (x : Str) : Sm (.sstr x) (.str x)
 | int (x : Int) : Sm (.int x) (.sint x)
 | sint (x : Int) : Sm (.sint x) (.int x)
 | bool (x : Bool) : Sm (.bool x) (.sym x)
 | sym (x : Bool) : Sm (.sym x) (.bool x)
theorem Sm.rel {h : Heap} {ρ : Rho} {a b : AV} {v : Value} (k : Sm a b) (r : VRel h ρ a v) : VRel h ρ b v := by
 cases k with
 | same => exact r
 | str x => w_dflts r; exact .sstr _ _
 | sstr x => w_dflts r; exact .str _ _
 | int x => w_dflts r; exact .sint _ _
 | sint x => w_dflts r; exact .int _ _
 | bool x => w_dflts r; exact .sym _
 | sym x => w_dflts r; exact .bool _
inductive SmL : List (Str × AV) → List (Str × AV) → Prop
 | nil : SmL [] []
 | cons (x : Str) (a b : AV) (l m : List (Str × AV)) (h : Sm a b) (t : SmL l m) : SmL ((x, a) :: l) ((x, b) :: m)
inductive SmA : List AV → List AV → Prop
 | nil : SmA [] []
 | cons (a b : AV) (l m : List AV) (h : Sm a b) (t : SmA l m) : SmA (a :: l) (b :: m)
inductive SmO : AObj → AObj → Prop
 | inst (C : Addr) (l m : List (Str × AV)) (h : SmL l m) : SmO (.inst C l) (.inst C m)
 | list (l m : List AV) (h : SmA l m) : SmO (.list l) (.list m)
 | deque (l m : List AV) (h : SmA l m) : SmO (.deque l) (.deque m)
inductive SmT : List AObj → List AObj → Prop
 | nil : SmT [] []
 | cons (a b : AObj) (l m : List AObj) (h : SmO a b) (t : SmT l m) : SmT (a :: l) (b :: m)
structure SmS (st st' : AS) : Prop where
 loc : SmL st.loc st'.loc
 objs : SmT st.objs st'.objs
 gh : st.gh = st'.gh
theorem SmL.refl : ∀ l, SmL l l
 | [] => .nil
 | (x, a) :: l => .cons x a a l l (.same a) (SmL.refl l)
theorem SmA.refl : ∀ l, SmA l l
 | [] => .nil
 | a :: l => .cons a a l l (.same a) (SmA.refl l)
theorem SmO.refl : ∀ o, SmO o o
 | .inst C l => .inst C l l (.refl l)
 | .list l => .list l l (.refl l)
 | .deque l => .deque l l (.refl l)
theorem SmT.refl : ∀ l, SmT l l
 | [] => .nil
 | a :: l => .cons a a l l (.refl a) (SmT.refl l)
theorem SmL.length {l m : List (Str × AV)} (h : SmL l m) : l.length = m.length := by
 induction h with
 | nil => rfl
 | cons _ _ _ _ _ _ _ ih => simp [ih]
theorem SmL.look {h : Heap} {ρ : Rho} {l m : List (Str × AV)} (k : SmL l m) (x : Str) {v : Option Value} (r : ORelV h ρ (l.lookup x) v) : ORelV h ρ (m.lookup x) v := by
 induction k with
 | nil => exact r
 | cons y a b l m hk t ih =>
  simp only [List.lookup_cons] at r ⊢
  cases q : (x == y) with
  | true =>
   rw [q] at r
   rcases v with _ | v
   ·exact r.elim
   ·exact hk.rel r
  | false => rw [q] at r; exact ih r
theorem SmA.rel {h : Heap} {ρ : Rho} {l m : List AV} (k : SmA l m) : ∀ {vs : List Value}, VRels h ρ l vs → VRels h ρ m vs := by
 induction k with
 | nil => intro vs r; exact r
 | cons a b l m hk t ih =>
  intro vs r
  cases r with
  | cons _ v _ vs r rs => exact .cons _ _ _ _ (hk.rel r) (ih rs)
theorem SmO.rel {h : Heap} {ρ : Rho} {o o' : AObj} (k : SmO o o') {p : Addr × Addr} (r : ORel h ρ o p) : ORel h ρ o' p ∧ fp o' p = fp o p := by
 obtain ⟨a, d⟩ := p
 cases k with
 | inst C l m k =>
  obtain ⟨h1, m', h2, h3⟩ := r
  exact ⟨⟨h1, m', by rw [← k.length]; exact h2, fun x => k.look x (h3 x)⟩, rfl⟩
 | list l m k =>
  refine el2_2 r fun vs n h1 h2 => ?_
  exact ⟨⟨vs, n, h1, k.rel h2⟩, rfl⟩
 | deque l m k =>
  refine el2_2 r fun vs n h1 h2 => ?_
  exact ⟨⟨vs, n, h1, k.rel h2⟩, rfl⟩
theorem SmT.rel {h : Heap} {ρ : Rho} {l m : List AObj} (k : SmT l m) : ∀ {ps : Rho}, OsRel h ρ l ps → OsRel h ρ m ps ∧ foot m ps = foot l ps := by
 induction k with
 | nil => intro ps r; exact ⟨r, rfl⟩
 | cons a b l m hk t ih =>
  intro ps r
  rcases ps with _ | ⟨p, ps⟩
  ·exact r.elim
  ·
   refine el0_2 (hk.rel r.1) fun r1 e1 => ?_
   refine el0_2 (ih r.2) fun r2 e2 => ?_
   exact ⟨⟨r1, r2⟩, by show fp b p ++ foot m ps = fp a p ++ foot l ps; simp only [e1, e2]⟩
theorem Rel.swap {cx : Cx} {ρ : Rho} {st st' : AS} {s : Shared} (R : Rel cx ρ st s) (k : SmS st st') : Rel cx ρ st' s := by
 refine el0_2 (k.objs.rel R.objs) fun r e => ?_
 refine ⟨R.keep, ?_, r, by rw [e]; exact R.nodup, by rw [e]; exact R.own, R.gens, R.os, by rw [e, ← k.gh]; exact R.gho, by rw [← k.gh]; exact R.ghn⟩
 refine el1_2 R.loc fun m hn hm => ?_
 exact ⟨m, hn, fun x => k.loc.look x (hm x)⟩
end Mine
end
noncomputable section
namespace Mine
open PySem PySem.W PyProof.Rows PySem.Calls
theorem wp_append {M : Model} {Γ : Ctx} {E : Value → Pos → Shared → Prop} {env : Env} {ys : List Stmt} {Q : Flow → Pos → Shared → Prop} : ∀ (xs : List Stmt) (p : Pos) (s : Shared),
  Sem.wp M Γ (execs xs env) (fun f p' s' => match f with | .next => Sem.wp M Γ (execs ys env) Q E p' s' | f => Q f p' s') E p s → Sem.wp M Γ (execs (xs ++ ys) env) Q E p s
 | [], p, s, h => h
 | x :: xs, p, s, h => by
  show Sem.wp M Γ (execs (x :: (xs ++ ys)) env) Q E p s
  rw [execs_cons, Sem.wp_bind'] at h ⊢
  refine Sem.wp_mono M Γ _ (fun f p' s' h' => ?_) (fun _ _ _ h' => h') _ _ h
  cases f with
  | next => exact wp_append xs p' s' h'
  | brk => exact h'
  | cont => exact h'
  | ret v => exact h'
theorem execs_append {M : Model} {A : Around} {E : Value → Shared → Prop} {env : Env} {Q : Flow → Shared → Prop} {xs ys : List Stmt} {s : Shared}
  (h : wpAny M A (execs xs env) (fun f s' => match f with | .next => wpAny M A (execs ys env) Q E s' | f => Q f s') E s) : wpAny M A (execs (xs ++ ys) env) Q E s := fun Γ p hΓ => by
 refine wp_append xs p s (Sem.wp_mono M Γ _ (fun f p' s' h' => ?_) (fun _ _ _ h' => h') _ _ (h Γ p hΓ))
 cases f with
 | next => exact h' Γ p' hΓ
 | brk => exact h'
 | cont => exact h'
 | ret v => exact h'
structure Cf where
 st : AV
 t : Str
 ln : Int
 p : Int
 pb : List Str
 q : Bool
 esc : Str
noncomputable def rtA (wc pc b : Str) (cf : Cf) (nx : List (Str × AV)) (ds : List Bool) : AS := rtSt cf.st (.sstr cf.t) cf.ln wc pc b cf.p (cf.pb.map .sstr) (.sym cf.q) (.str cf.esc) nx ds
structure LxG (cx : Cx) (A : Around) (wc pc b : Str) : Prop where
 C : CxOk cx
 TO : TabOk tRt cx A
 hA : A.handled = none
 VE : nsIn cx.K mainGlobals "ValueError" = some none ∧ nsIn cx.K builtinsNs "ValueError" = some (some (.type "ValueError"))
 pz : pc.length ≤ sizeLine
 pn : ((pc.length : Int) != 0) = true
 bz : b.length ≤ sizeLine
inductive Nx (b : Str) (cf : Cf) : Str → Cf → Prop
 | pop (c : Str) (h : cf.pb = [c]) : Nx b cf c { cf with pb := [] }
 | read (h : cf.pb = []) : Nx b cf (rdC b cf.p) { cf with p := rdP b cf.p }
noncomputable def isNx (nx : List (Str × AV)) : Prop := nx = [] ∨ ∃ av, nx = [(("nextchar" : Str), av)]
noncomputable def TurnSem (wc pc b : Str) (cf : Cf) (fl : AF) (cf' : Cf) : Prop := ∀ (cx : Cx) (A : Around), LxG cx A wc pc b → ∀ nx, isNx nx → ∀ (ρ : Rho) (s : Shared) (Q : Flow → Shared → Prop) (E : Value → Shared → Prop), (cf.pb = [] ∨ nx = []) → Rel cx ρ (rtA wc pc b cf nx []) s →
 (∀ ρ' s' f av, PKeep ρ ρ' → TKeep s.heap s'.heap → Rel cx ρ' (rtA wc pc b cf' [("nextchar", av)] []) s' → FRel s'.heap ρ' fl f → Q f s') →
 (∀ ρ' s' h' e msg t av, PKeep ρ ρ' → TKeep s.heap s'.heap → Rel cx ρ' (rtA wc pc b cf' [("nextchar", av)] []) s' → Heap.MadeExc s'.heap h' e "ValueError" [.str msg t] → fl = .exc msg → E (.ref e) { s' with heap := h' }) →
 wpAny (model cx.prog cx.w) A (execs rtLoop cx.env) Q E s
theorem hd1_read (st tok q esc : AV) (nx : List (Str × AV)) (ln : Int) (wc pc b : Str) (p : Int) (ds : List Bool) (P : PostF) (h : isNx nx) :
  exsW tRt 61 (rtLoop.take 1) (rtSt st tok ln wc pc b p [] q esc nx (true :: ds)) P =
   (pc.length ≤ sizeLine ∧ ((pc.length : Int) != 0) = true ∧ b.length ≤ sizeLine ∧ P .next (rtSt st tok ln wc pc b (rdP b p) [] q esc [("nextchar", .sstr (rdC b p))] ds)) := by
 rcases h with rfl | ⟨av, rfl⟩
 ·kernel_rfl
 ·kernel_rfl
theorem hd1_pop (st tok q esc c : AV) (ln : Int) (wc pc b : Str) (p : Int) (ds : List Bool) (P : PostF) :
  exsW tRt 61 (rtLoop.take 1) (rtSt st tok ln wc pc b p [c] q esc [] (true :: ds)) P =
   (pc.length ≤ sizeLine ∧ ((pc.length : Int) != 0) = true ∧ P .next (rtSt st tok ln wc pc b p [] q esc [("nextchar", c)] ds)) := by kernel_rfl
theorem loop_split : rtLoop = rtLoop.take 1 ++ rtRest := (List.take_append_drop 1 rtLoop).symm
theorem turn_of {wc pc b : Str} {cf cf1 cf' : Cf} {c : Str} {fl : AF} {cAV : AV} {ds : List Bool} (N : Nx b cf c cf1) (hc : Sm (.sstr c) cAV)
  (path : ∀ P : PostF, (∀ st' av, SmS st' (rtA wc pc b cf' [("nextchar", av)] []) → P fl st') → exsW tRt 60 rtRest (rtSt cf1.st (.sstr cf1.t) cf1.ln wc pc b cf1.p [] (.sym cf1.q) (.str cf1.esc) [("nextchar", cAV)] ds) P) : TurnSem wc pc b cf fl cf' := by
 intro cx A G nx hnx ρ s Q E hpn R k kx
 obtain ⟨_, exO⟩ := stm_ok G.C G.TO G.hA G.VE 61
 obtain ⟨_, exO'⟩ := stm_ok G.C G.TO G.hA G.VE 60
 rw [loop_split]
 refine execs_append ?_
 have rest : ∀ ρ₁ s₁, PKeep ρ ρ₁ → TKeep s.heap s₁.heap → Rel cx ρ₁ (rtSt cf1.st (.sstr cf1.t) cf1.ln wc pc b cf1.p [] (.sym cf1.q) (.str cf1.esc) [("nextchar", .sstr c)] []) s₁ → wpAny (model cx.prog cx.w) A (execs rtRest cx.env) Q E s₁ := by
  intro ρ₁ s₁ p₁ t₁ R₁
  have R₂ := R₁.swap (st' := rtSt cf1.st (.sstr cf1.t) cf1.ln wc pc b cf1.p [] (.sym cf1.q) (.str cf1.esc) [("nextchar", cAV)] ds) ⟨.cons _ _ _ _ _ (.same _) (.cons _ _ _ _ _ (.same _) (.cons _ _ _ _ _ (.same _) (.cons _ _ _ _ _ hc .nil))), .refl _, rfl⟩
  refine exO' rtRest _ _ (path (fun fl' st' => fl' = fl ∧ ∃ av, SmS st' (rtA wc pc b cf' [("nextchar", av)] [])) fun st' av h => ⟨rfl, av, h⟩) ρ₁ s₁ Q E R₂ (fun ρ₂ s₂ f af st₂ p₂ t₂ R₃ F₃ q => ?_) fun ρ₂ s₂ h' e msg tk st₂ p₂ t₂ R₃ M q => ?_
  ·obtain ⟨rfl, av, h⟩ := q
   exact k ρ₂ s₂ f av (p₁.trans p₂) (t₁.trans t₂) (R₃.swap h) F₃
  ·obtain ⟨e1, av, h⟩ := q
   exact kx ρ₂ s₂ h' e msg tk av (p₁.trans p₂) (t₁.trans t₂) (R₃.swap h) M e1.symm
 cases N with
 | pop c h =>
  have hn : nx = [] := by
   rcases hpn with q | q
   ·rw [h] at q; cases q
   ·exact q
  subst hn
  have R' : Rel cx ρ (rtSt cf.st (.sstr cf.t) cf.ln wc pc b cf.p [.sstr c] (.sym cf.q) (.str cf.esc) [] [true]) s := by
   have := R.dec (d := [true])
   unfold rtA at this
   rw [h] at this; exact this
  refine exO _ _ (fun fl' st' => fl' = .next ∧ st' = rtSt cf.st (.sstr cf.t) cf.ln wc pc b cf.p [] (.sym cf.q) (.str cf.esc) [("nextchar", .sstr c)] []) ?_ ρ s _ E R' (fun ρ₂ s₂ f af st₂ p₂ t₂ R₃ F₃ q => ?_) (fun _ _ _ _ _ _ _ _ _ _ _ q => by cases q.1)
  ·rw [hd1_pop]; exact ⟨G.pz, G.pn, rfl, rfl⟩
  ·obtain ⟨rfl, rfl⟩ := q
   obtain rfl := FRel.next_inv F₃
   exact rest ρ₂ s₂ p₂ t₂ R₃
 | read h =>
  have R' : Rel cx ρ (rtSt cf.st (.sstr cf.t) cf.ln wc pc b cf.p [] (.sym cf.q) (.str cf.esc) nx [true]) s := by
   have := R.dec (d := [true])
   unfold rtA at this
   rw [h] at this; exact this
  refine exO _ _ (fun fl' st' => fl' = .next ∧ st' = rtSt cf.st (.sstr cf.t) cf.ln wc pc b (rdP b cf.p) [] (.sym cf.q) (.str cf.esc) [("nextchar", .sstr (rdC b cf.p))] []) ?_ ρ s _ E R' (fun ρ₂ s₂ f af st₂ p₂ t₂ R₃ F₃ q => ?_) (fun _ _ _ _ _ _ _ _ _ _ _ q => by cases q.1)
  ·rw [hd1_read _ _ _ _ _ _ _ _ _ _ _ _ hnx]; exact ⟨G.pz, G.pn, G.bz, rfl, rfl⟩
  ·obtain ⟨rfl, rfl⟩ := q
   obtain rfl := FRel.next_inv F₃
   exact rest ρ₂ s₂ p₂ t₂ R₃
end Mine
end
noncomputable section
namespace Mine
open PySem PySem.W PyProof.Rows PySem.Calls
inductive Loop (wc pc b : Str) : Nat → Cf → Cf → Prop
 | stop {cf cf' : Cf} (h : TurnSem wc pc b cf .brk cf') : Loop wc pc b 1 cf cf'
 | next {n : Nat} {cf cf1 cf' : Cf} (h : TurnSem wc pc b cf .next cf1) (e : cf1.pb = []) (r : Loop wc pc b n cf1 cf') : Loop wc pc b (n + 1) cf cf'
 | cont {n : Nat} {cf cf1 cf' : Cf} (h : TurnSem wc pc b cf .cont cf1) (e : cf1.pb = []) (r : Loop wc pc b n cf1 cf') : Loop wc pc b (n + 1) cf cf'
noncomputable def rtWhile : List Stmt := ((bodyOf dRt).drop 2).take 1
noncomputable def tst : Expr := match rtWhile with
 | .While t _ _ _ :: _ => t
 | _ => default
noncomputable def wpos : Pos := match rtWhile with
 | .While _ _ _ p :: _ => p
 | _ => default
theorem rtWhile_eq : rtWhile = [.While tst rtLoop [] wpos] := by kernel_rfl
theorem rt_split : bodyOf dRt = rtHead ++ (rtWhile ++ rtTail) := by kernel_rfl
theorem tst_true (os : AS) (Q : Bool → AS → Prop) : trW tRt 10 tst os Q = Q true os := by kernel_rfl
theorem loop_ok {wc pc b : Str} {cx : Cx} {A : Around} (G : LxG cx A wc pc b) {n : Nat} {cf cf' : Cf} (L : Loop wc pc b n cf cf') {nx : List (Str × AV)} (hx : isNx nx) (hpn : cf.pb = [] ∨ nx = []) {ρ : Rho} {s : Shared} (R : Rel cx ρ (rtA wc pc b cf nx []) s)
  {Rr : Result → Shared → Prop} (k : ∀ ρ' s' av, PKeep ρ ρ' → TKeep s.heap s'.heap → Rel cx ρ' (rtA wc pc b cf' [("nextchar", av)] []) s' → Rr (.ok .next) s') :
  codeAny (model cx.prog cx.w) A (.whileLoop tst rtLoop [] cx.env) Rr s := by
 refine codeAny_whileLoop (fun n s' => ∃ cfi ρ' nx', Loop wc pc b n cfi cf' ∧ isNx nx' ∧ (cfi.pb = [] ∨ nx' = []) ∧ PKeep ρ ρ' ∧ TKeep s.heap s'.heap ∧ Rel cx ρ' (rtA wc pc b cfi nx' []) s') (fun n s' hI => ?_) n ⟨cf, ρ, nx, L, hx, hpn, PKeep.refl _, TKeep.refl _, R⟩
 refine el3_6 hI fun cfi ρ' nx' L' hx' hpn' p t R' => ?_
 have tw : trW tRt 10 tst (rtA wc pc b cfi nx' []) (fun c st' => c = true ∧ st' = rtA wc pc b cfi nx' []) := by rw [tst_true]; exact ⟨rfl, rfl⟩
 refine (all_ok G.C G.TO 10).2.2.1 tst _ _ tw ρ' s' _ _ R' fun ρ₁ s₁ c st₁ p₁ t₁ R₁ q => ?_
 refine el0_2 q fun q0_0 q0_1 => ?_; subst q0_0; subst q0_1
 rw [if_pos rfl]
 cases L' with
 | stop h =>
  refine h cx A G nx' hx' ρ₁ s₁ _ _ hpn' R₁ (fun ρ₂ s₂ f av p₂ t₂ R₂ F => ?_) fun _ _ _ _ _ _ _ _ _ _ _ e => by cases e
  cases F
  exact k ρ₂ s₂ av ((p.trans p₁).trans p₂) ((t.trans t₁).trans t₂) R₂
 | next h e r =>
  refine h cx A G nx' hx' ρ₁ s₁ _ _ hpn' R₁ (fun ρ₂ s₂ f av p₂ t₂ R₂ F => ?_) fun _ _ _ _ _ _ _ _ _ _ _ e => by cases e
  cases F
  exact ⟨_, Nat.lt_succ_self _, _, ρ₂, _, r, .inr ⟨av, rfl⟩, .inl e, (p.trans p₁).trans p₂, (t.trans t₁).trans t₂, R₂⟩
 | cont h e r =>
  refine h cx A G nx' hx' ρ₁ s₁ _ _ hpn' R₁ (fun ρ₂ s₂ f av p₂ t₂ R₂ F => ?_) fun _ _ _ _ _ _ _ _ _ _ _ e => by cases e
  cases F
  exact ⟨_, Nat.lt_succ_self _, _, ρ₂, _, r, .inr ⟨av, rfl⟩, .inl e, (p.trans p₁).trans p₂, (t.trans t₁).trans t₂, R₂⟩
end Mine
end
noncomputable section
namespace Mine
open PySem PySem.W PyProof.Rows PySem.Calls
noncomputable def rtOut (cf : Cf) : AV := if cf.q = true then .sstr cf.t else if (cf.t == ("" : Str)) = true then .none else .sstr cf.t
noncomputable def lxOf (wc pc b : Str) (cf : Cf) (tok : AV) : List AObj := lxTab cf.st tok cf.ln wc pc b cf.p (cf.pb.map .sstr)
noncomputable def rtFin (wc pc b : Str) (cf : Cf) (fl : AF) (os : List AObj) : Prop := fl = .ret (rtOut cf) ∧ os = lxOf wc pc b cf (.str "")
theorem rt_sub {cx : Cx} {A : Around} {k : Nat} (G : Gd cx A (k + 4)) {h₀ : Heap} {mt : List Addr} {env : Env} {L : Addr} (C' : CxOk (cx.sub h₀ mt env)) (EO : EnvOk env (scopeOf dRt) L) {wc pc b : Str} (pz : pc.length ≤ sizeLine) (pn : ((pc.length : Int) != 0) = true) (bz : b.length ≤ sizeLine) :
  LxG (cx.sub h₀ mt env) (A.deeper env) wc pc b := by
 have Rm : Room (A.deeper env) (k + 3) := G.Rm.deeper env
 have G1 : Gd (cx.sub h₀ mt env) (A.deeper env) (k + 3) := ⟨C', G.KO, G.hp, Rm⟩
 refine ⟨C', tabM_ok (cx := cx.sub h₀ mt env) (A := A.deeper env) G.KO EO.scope (fun f avs st Qa w => smRt_ok (k := k + 1) G1 w) (fun f i st Qa w => spLex_ok (k := k + 1) ⟨C', G.KO, G.hp, Rm.in1⟩ w), Rm.handled, G.KO.ve, pz, pn, bz⟩
theorem rt_ok {cx : Cx} {A : Around} {k : Nat} (G : Gd cx A (k + 4)) {st : AS} {Qa : PostV} {wc pc b : Str} (pz : pc.length ≤ sizeLine) (pn : ((pc.length : Int) != 0) = true) (bz : b.length ≤ sizeLine) {cf cf' : Cf} {n : Nat}
  (L : Loop wc pc b n { cf with q := false, esc := " " } cf') (ho : st.objs = lxOf wc pc b cf (.sstr cf.t)) (q : Qa (rtOut cf') { st with objs := lxOf wc pc b cf' (.str "") }) : CallOk cx A (.ref 700) [.obj 0] st Qa := by
 intro ρ s vs R R₀ V kv
 have F := G.KO.fRt
 refine enterS G.C (ns := nm ["self"]) (G.hp ▸ F) G.KO.nl (by have := G.Rm.depth; lia) (by decide +kernel) rfl R₀ V fun env s₁ EO C' t₁ R₁ => ?_
 have LG := rt_sub (wc := wc) G C' EO pz pn bz
 obtain ⟨_, exH⟩ := stm_ok LG.C LG.TO LG.hA LG.VE 20
 obtain ⟨_, exT⟩ := stm_ok LG.C LG.TO LG.hA LG.VE 60
 rw [rt_split]
 refine execs_append ?_
 have wh : exsW tRt 20 rtHead { loc := (nm ["self"]).zip [.obj 0], objs := st.objs, dec := [] } (fun fl st' => fl = .next ∧ st' = { loc := rtLoc (.bool false) (.str " ") [], objs := st.objs, dec := [] }) := by rw [rt_head]; exact ⟨rfl, rfl⟩
 refine exH rtHead _ _ wh ρ s₁ _ _ R₁ (fun ρ₂ s₂ f af st₂ p₂ t₂ R₂ F₂ q₂ => ?_) fun _ _ _ _ _ _ _ _ _ _ _ q => by cases q.1
 obtain ⟨rfl, rfl⟩ := q₂
 obtain rfl := FRel.next_inv F₂
 have R₃ : Rel (cx.sub s.heap (foot st.objs ρ) env) ρ₂ (rtA wc pc b { cf with q := false, esc := " " } [] []) s₂ := by
  refine R₂.swap ⟨.cons _ _ _ _ _ (.same _) (.cons _ _ _ _ _ (.bool _) (.cons _ _ _ _ _ (.same _) .nil)), ?_, rfl⟩
  show SmT st.objs _
  rw [ho]; exact .refl _
 refine execs_append ?_
 rw [rtWhile_eq]
 refine wpAny_execs_cons (wpAny_While ?_)
 refine loop_ok LG L (.inl rfl) (.inr rfl) R₃ fun ρ₃ s₃ av p₃ t₃ R₄ => ?_
 refine wpAny_execs_nil ?_
 have T := (t₁.trans t₂).trans t₃
 have P := p₂.trans p₃
 have fin : ∀ ds, exsW tRt 60 rtTail (rtSt cf'.st (.sstr cf'.t) cf'.ln wc pc b cf'.p (cf'.pb.map .sstr) (.sym cf'.q) (.str cf'.esc) [("nextchar", av)] ds) (fun fl st' => rtFin wc pc b cf' fl st'.objs) →
   wpAny (model cx.prog cx.w) (A.deeper env) (execs rtTail env) (fun fl s' => R (.ok (.ret (match fl with | .ret v => v | _ => .none))) s')
    (fun e s' => wpAny (model cx.prog cx.w) (A.deeper env) (leaving env e) (fun _ s'' => R (.error e) s'') (fun e' s'' => R (.error e') s'') s') s₃ := by
  intro ds w
  refine exT rtTail _ _ w ρ₃ s₃ _ _ (R₄.dec) (fun ρ₅ s₅ f af st₅ p₅ t₅ R₅ F₅ q₅ => ?_) fun _ _ _ _ _ _ _ _ _ _ _ q => by cases q.1
  obtain ⟨rfl, e⟩ := q₅
  obtain ⟨_, rfl, _⟩ := FRel.ret_inv F₅
  rename_i v r
  have Rb := backS R₀ (P.trans p₅) (T.trans t₅) R₅
  exact kv ρ₅ s₅ v _ _ (P.trans p₅) (T.trans t₅) (by rw [e] at Rb; exact Rb) r q
 cases hq : cf'.q with
 | true =>
  refine fin [true] ?_
  rw [rt_tail_quoted (P := rtFin wc pc b cf')]
  refine ⟨hq, ?_, rfl⟩
  unfold rtOut; rw [if_pos hq]
 | false =>
  cases ht : (cf'.t == ("" : Str)) with
  | true =>
   refine fin [false, true] ?_
   rw [rt_tail_none (P := rtFin wc pc b cf')]
   refine ⟨hq, ht, ?_, rfl⟩
   unfold rtOut; rw [if_neg (by rw [hq]; decide), if_pos ht]
  | false =>
   refine fin [false, false] ?_
   rw [rt_tail_word (P := rtFin wc pc b cf')]
   refine ⟨hq, ht, ?_, rfl⟩
   unfold rtOut; rw [if_neg (by rw [hq]; decide), if_neg (by rw [ht]; decide)]
end Mine
end
noncomputable section
namespace Mine
open PySem PySem.W PyProof.Rows PySem.Calls
theorem lx_sm {st tok tok' : AV} {ln : Int} {wc pc b : Str} {p : Int} {pb pb' : List AV} (h1 : Sm tok tok') (h2 : SmA pb pb') : SmT (lxTab st tok ln wc pc b p pb) (lxTab st tok' ln wc pc b p pb') := by
 refine .cons _ _ _ _ (.inst _ _ _ ?_) (.cons _ _ _ _ (.refl _) (.cons _ _ _ _ (.refl _) (.cons _ _ _ _ (.refl _) (.cons _ _ _ _ (.deque _ _ h2) .nil))))
 iterate 15 refine .cons _ _ _ _ _ (.same _) ?_
 exact .cons _ _ _ _ _ h1 (.refl _)
theorem rtSt_sm {st tok tok' q q' esc : AV} {ln : Int} {wc pc b : Str} {p : Int} {pb pb' : List AV} {nx : List (Str × AV)} {ds ds' : List Bool} (h1 : Sm tok tok') (h2 : SmA pb pb') (h3 : Sm q q') :
  SmS (rtSt st tok ln wc pc b p pb q esc nx ds) (rtSt st tok' ln wc pc b p pb' q' esc nx ds') :=
 ⟨.cons _ _ _ _ _ (.same _) (.cons _ _ _ _ _ h3 (.refl _)), lx_sm h1 h2, rfl⟩
variable {wc pc b : Str} {cf cf1 : Cf} {c : Str}
theorem tr_sp_eof (N : Nx b cf c cf1) (hs : cf1.st = (.str " ")) (h0 : (c == ("\n" : Str)) = false) (h1 : c.length ≤ sizeLine) (h2 : ((c.length : Int) != 0) = false) :
  TurnSem wc pc b cf .brk { cf1 with st := .none, pb := [] } := by
 refine turn_of N (.same _) (ds := [false, false]) fun P k => ?_
 rw [hs, tn_sp_eof _ _ _ _ _ _ _ _ c]
 exact ⟨h0, h1, h2, k _ (.sstr c) (rtSt_sm (.same _) (.refl _) (.same _))⟩
theorem tr_sp_ws_nl (N : Nx b cf c cf1) (hs : cf1.st = (.str " ")) (h0 : (c == ("\n" : Str)) = true) (h1 : c.length ≤ sizeLine) (h2 : ((c.length : Int) != 0) = true) (h3 : inStr c " \t\r\n" = true) (h4 : cf1.t.length ≤ sizeLine) (h5 : ((cf1.t.length : Int) != 0) = false) (h6 : cf1.q = false) :
  TurnSem wc pc b cf .cont { cf1 with st := (.str " "), ln := cf1.ln + 1, pb := [] } := by
 refine turn_of N (.same _) (ds := [true, true, true, false, false]) fun P k => ?_
 rw [hs, tn_sp_ws_nl _ _ _ _ _ _ _ _ c]
 exact ⟨h0, h1, h2, h3, h4, h5, h6, k _ (.sstr c) (rtSt_sm (.same _) (.refl _) (.same _))⟩
theorem tr_sp_ws (N : Nx b cf c cf1) (hs : cf1.st = (.str " ")) (h0 : (c == ("\n" : Str)) = false) (h1 : c.length ≤ sizeLine) (h2 : ((c.length : Int) != 0) = true) (h3 : inStr c " \t\r\n" = true) (h4 : cf1.t.length ≤ sizeLine) (h5 : ((cf1.t.length : Int) != 0) = false) (h6 : cf1.q = false) :
  TurnSem wc pc b cf .cont { cf1 with st := (.str " "), pb := [] } := by
 refine turn_of N (.same _) (ds := [false, true, true, false, false]) fun P k => ?_
 rw [hs, tn_sp_ws _ _ _ _ _ _ _ _ c]
 exact ⟨h0, h1, h2, h3, h4, h5, h6, k _ (.sstr c) (rtSt_sm (.same _) (.refl _) (.same _))⟩
theorem tr_sp_cm (N : Nx b cf "#" cf1) (hs : cf1.st = (.str " ")) (h0 : b.length ≤ sizeLine) :
  TurnSem wc pc b cf .next { cf1 with st := (.str " "), ln := cf1.ln + 1, p := rlP b cf1.p, pb := [] } := by
 refine turn_of N (.sstr _) (ds := []) fun P k => ?_
 rw [hs, tn_sp_cm _ _ _ _ _ _ _ _ ""]
 exact ⟨h0, fun x => k _ (.str "#") (rtSt_sm (.same _) (.refl _) (.same _))⟩
theorem tr_sp_es (N : Nx b cf "\\" cf1) (hs : cf1.st = (.str " ")) :
  TurnSem wc pc b cf .next { cf1 with st := (.str "\\"), pb := [], esc := "a" } := by
 refine turn_of N (.sstr _) (ds := []) fun P k => ?_
 rw [hs, tn_sp_es _ _ _ _ _ _ _ _ ""]
 exact k _ (.str "\\") (rtSt_sm (.same _) (.refl _) (.same _))
theorem tr_sp_wc (N : Nx b cf c cf1) (hs : cf1.st = (.str " ")) (h0 : (c == ("\n" : Str)) = false) (h1 : c.length ≤ sizeLine) (h2 : ((c.length : Int) != 0) = true) (h3 : inStr c " \t\r\n" = false) (h4 : inStr c "#" = false) (h5 : inStr c "\\" = false) (h6 : inStr c wc = true) :
  TurnSem wc pc b cf .next { cf1 with st := (.str "a"), t := c, pb := [] } := by
 refine turn_of N (.same _) (ds := [false, true, false, false, false, true]) fun P k => ?_
 rw [hs, tn_sp_wc _ _ _ _ _ _ _ _ c]
 exact ⟨h0, h1, h2, h3, h4, h5, h6, k _ (.sstr c) (rtSt_sm (.same _) (.refl _) (.same _))⟩
theorem tr_sp_pc (N : Nx b cf c cf1) (hs : cf1.st = (.str " ")) (h0 : (c == ("\n" : Str)) = false) (h1 : c.length ≤ sizeLine) (h2 : ((c.length : Int) != 0) = true) (h3 : inStr c " \t\r\n" = false) (h4 : inStr c "#" = false) (h5 : inStr c "\\" = false) (h6 : inStr c wc = false) (h7 : inStr c pc = true) :
  TurnSem wc pc b cf .next { cf1 with st := (.str "c"), t := c, pb := [] } := by
 refine turn_of N (.same _) (ds := [false, true, false, false, false, false, true]) fun P k => ?_
 rw [hs, tn_sp_pc _ _ _ _ _ _ _ _ c]
 exact ⟨h0, h1, h2, h3, h4, h5, h6, h7, k _ (.sstr c) (rtSt_sm (.same _) (.refl _) (.same _))⟩
theorem tr_sp_sq (N : Nx b cf "'" cf1) (hs : cf1.st = (.str " ")) (h0 : inStr "'" wc = false) (h1 : inStr "'" pc = false) :
  TurnSem wc pc b cf .next { cf1 with st := (.str "'"), pb := [] } := by
 refine turn_of N (.sstr _) (ds := [false, false]) fun P k => ?_
 rw [hs, tn_sp_sq _ _ _ _ _ _ _ _ ""]
 exact ⟨h0, h1, k _ (.str "'") (rtSt_sm (.same _) (.refl _) (.same _))⟩
theorem tr_sp_dq (N : Nx b cf "\"" cf1) (hs : cf1.st = (.str " ")) (h0 : inStr "\"" wc = false) (h1 : inStr "\"" pc = false) :
  TurnSem wc pc b cf .next { cf1 with st := (.str "\""), pb := [] } := by
 refine turn_of N (.sstr _) (ds := [false, false]) fun P k => ?_
 rw [hs, tn_sp_dq _ _ _ _ _ _ _ _ ""]
 exact ⟨h0, h1, k _ (.str "\"") (rtSt_sm (.same _) (.refl _) (.same _))⟩
theorem tr_a_eof (N : Nx b cf c cf1) (hs : cf1.st = (.str "a")) (h0 : (c == ("\n" : Str)) = false) (h1 : c.length ≤ sizeLine) (h2 : ((c.length : Int) != 0) = false) :
  TurnSem wc pc b cf .brk { cf1 with st := .none, pb := [] } := by
 refine turn_of N (.same _) (ds := [false, false]) fun P k => ?_
 rw [hs, tn_a_eof _ _ _ _ _ _ _ _ c]
 exact ⟨h0, h1, h2, k _ (.sstr c) (rtSt_sm (.same _) (.refl _) (.same _))⟩
theorem tr_a_ws_nl (N : Nx b cf c cf1) (hs : cf1.st = (.str "a")) (h0 : (c == ("\n" : Str)) = true) (h1 : c.length ≤ sizeLine) (h2 : ((c.length : Int) != 0) = true) (h3 : inStr c " \t\r\n" = true) (h4 : cf1.t.length ≤ sizeLine) (h5 : ((cf1.t.length : Int) != 0) = true) :
  TurnSem wc pc b cf .brk { cf1 with st := (.str " "), ln := cf1.ln + 1, pb := [] } := by
 refine turn_of N (.same _) (ds := [true, true, true, true]) fun P k => ?_
 rw [hs, tn_a_ws_nl _ _ _ _ _ _ _ _ c]
 exact ⟨h0, h1, h2, h3, h4, h5, k _ (.sstr c) (rtSt_sm (.same _) (.refl _) (.same _))⟩
theorem tr_a_ws (N : Nx b cf c cf1) (hs : cf1.st = (.str "a")) (h0 : (c == ("\n" : Str)) = false) (h1 : c.length ≤ sizeLine) (h2 : ((c.length : Int) != 0) = true) (h3 : inStr c " \t\r\n" = true) (h4 : cf1.t.length ≤ sizeLine) (h5 : ((cf1.t.length : Int) != 0) = true) :
  TurnSem wc pc b cf .brk { cf1 with st := (.str " "), pb := [] } := by
 refine turn_of N (.same _) (ds := [false, true, true, true]) fun P k => ?_
 rw [hs, tn_a_ws _ _ _ _ _ _ _ _ c]
 exact ⟨h0, h1, h2, h3, h4, h5, k _ (.sstr c) (rtSt_sm (.same _) (.refl _) (.same _))⟩
theorem tr_a_cm (N : Nx b cf "#" cf1) (hs : cf1.st = (.str "a")) (h0 : b.length ≤ sizeLine) (h1 : cf1.t.length ≤ sizeLine) (h2 : ((cf1.t.length : Int) != 0) = true) :
  TurnSem wc pc b cf .brk { cf1 with st := (.str " "), ln := cf1.ln + 1, p := rlP b cf1.p, pb := [] } := by
 refine turn_of N (.sstr _) (ds := [true]) fun P k => ?_
 rw [hs, tn_a_cm _ _ _ _ _ _ _ _ ""]
 exact ⟨h0, fun x => ⟨h1, h2, k _ (.str "#") (rtSt_sm (.same _) (.refl _) (.same _))⟩⟩
theorem tr_a_sq (N : Nx b cf "'" cf1) (hs : cf1.st = (.str "a")) :
  TurnSem wc pc b cf .next { cf1 with st := (.str "'"), pb := [] } := by
 refine turn_of N (.sstr _) (ds := []) fun P k => ?_
 rw [hs, tn_a_sq _ _ _ _ _ _ _ _ ""]
 exact k _ (.str "'") (rtSt_sm (.same _) (.refl _) (.same _))
theorem tr_a_dq (N : Nx b cf "\"" cf1) (hs : cf1.st = (.str "a")) :
  TurnSem wc pc b cf .next { cf1 with st := (.str "\""), pb := [] } := by
 refine turn_of N (.sstr _) (ds := []) fun P k => ?_
 rw [hs, tn_a_dq _ _ _ _ _ _ _ _ ""]
 exact k _ (.str "\"") (rtSt_sm (.same _) (.refl _) (.same _))
theorem tr_a_es (N : Nx b cf "\\" cf1) (hs : cf1.st = (.str "a")) :
  TurnSem wc pc b cf .next { cf1 with st := (.str "\\"), pb := [], esc := "a" } := by
 refine turn_of N (.sstr _) (ds := []) fun P k => ?_
 rw [hs, tn_a_es _ _ _ _ _ _ _ _ ""]
 exact k _ (.str "\\") (rtSt_sm (.same _) (.refl _) (.same _))
theorem tr_a_wc (N : Nx b cf c cf1) (hs : cf1.st = (.str "a")) (h0 : (c == ("\n" : Str)) = false) (h1 : c.length ≤ sizeLine) (h2 : ((c.length : Int) != 0) = true) (h3 : inStr c " \t\r\n" = false) (h4 : inStr c "#" = false) (h5 : inStr c "'\"" = false) (h6 : inStr c "\\" = false) (h7 : inStr c wc = true) (h8 : cf1.t.length + c.length ≤ sizeLine) :
  TurnSem wc pc b cf .next { cf1 with st := (.str "a"), t := cf1.t ++ c, pb := [] } := by
 refine turn_of N (.same _) (ds := [false, true, false, false, false, false, true]) fun P k => ?_
 rw [hs, tn_a_wc _ _ _ _ _ _ _ _ c]
 exact ⟨h0, h1, h2, h3, h4, h5, h6, h7, h8, k _ (.sstr c) (rtSt_sm (.same _) (.refl _) (.same _))⟩
theorem tr_a_pc (N : Nx b cf c cf1) (hs : cf1.st = (.str "a")) (h0 : (c == ("\n" : Str)) = false) (h1 : c.length ≤ sizeLine) (h2 : ((c.length : Int) != 0) = true) (h3 : inStr c " \t\r\n" = false) (h4 : inStr c "#" = false) (h5 : inStr c "'\"" = false) (h6 : inStr c "\\" = false) (h7 : inStr c wc = false) (h8 : inStr c "'\"" = false) (h9 : pc.length ≤ sizeLine) (h10 : ((pc.length : Int) != 0) = true) (h11 : cf1.t.length ≤ sizeLine) (h12 : ((cf1.t.length : Int) != 0) = true) :
  TurnSem wc pc b cf .brk { cf1 with st := (.str " "), pb := [c] } := by
 refine turn_of N (.same _) (ds := [false, true, false, false, false, false, false, false, true, true]) fun P k => ?_
 rw [hs, tn_a_pc _ _ _ _ _ _ _ _ c]
 exact ⟨h0, h1, h2, h3, h4, h5, h6, h7, h8, h9, h10, h11, h12, k _ (.sstr c) (rtSt_sm (.same _) (.refl _) (.same _))⟩
theorem tr_c_eof (N : Nx b cf c cf1) (hs : cf1.st = (.str "c")) (h0 : (c == ("\n" : Str)) = false) (h1 : c.length ≤ sizeLine) (h2 : ((c.length : Int) != 0) = false) :
  TurnSem wc pc b cf .brk { cf1 with st := .none, pb := [] } := by
 refine turn_of N (.same _) (ds := [false, false]) fun P k => ?_
 rw [hs, tn_c_eof _ _ _ _ _ _ _ _ c]
 exact ⟨h0, h1, h2, k _ (.sstr c) (rtSt_sm (.same _) (.refl _) (.same _))⟩
theorem tr_c_ws_nl (N : Nx b cf c cf1) (hs : cf1.st = (.str "c")) (h0 : (c == ("\n" : Str)) = true) (h1 : c.length ≤ sizeLine) (h2 : ((c.length : Int) != 0) = true) (h3 : inStr c " \t\r\n" = true) (h4 : cf1.t.length ≤ sizeLine) (h5 : ((cf1.t.length : Int) != 0) = true) :
  TurnSem wc pc b cf .brk { cf1 with st := (.str " "), ln := cf1.ln + 1, pb := [] } := by
 refine turn_of N (.same _) (ds := [true, true, true, true]) fun P k => ?_
 rw [hs, tn_c_ws_nl _ _ _ _ _ _ _ _ c]
 exact ⟨h0, h1, h2, h3, h4, h5, k _ (.sstr c) (rtSt_sm (.same _) (.refl _) (.same _))⟩
theorem tr_c_ws (N : Nx b cf c cf1) (hs : cf1.st = (.str "c")) (h0 : (c == ("\n" : Str)) = false) (h1 : c.length ≤ sizeLine) (h2 : ((c.length : Int) != 0) = true) (h3 : inStr c " \t\r\n" = true) (h4 : cf1.t.length ≤ sizeLine) (h5 : ((cf1.t.length : Int) != 0) = true) :
  TurnSem wc pc b cf .brk { cf1 with st := (.str " "), pb := [] } := by
 refine turn_of N (.same _) (ds := [false, true, true, true]) fun P k => ?_
 rw [hs, tn_c_ws _ _ _ _ _ _ _ _ c]
 exact ⟨h0, h1, h2, h3, h4, h5, k _ (.sstr c) (rtSt_sm (.same _) (.refl _) (.same _))⟩
theorem tr_c_cm (N : Nx b cf "#" cf1) (hs : cf1.st = (.str "c")) (h0 : b.length ≤ sizeLine) (h1 : cf1.t.length ≤ sizeLine) (h2 : ((cf1.t.length : Int) != 0) = true) :
  TurnSem wc pc b cf .brk { cf1 with st := (.str " "), ln := cf1.ln + 1, p := rlP b cf1.p, pb := [] } := by
 refine turn_of N (.sstr _) (ds := [true]) fun P k => ?_
 rw [hs, tn_c_cm _ _ _ _ _ _ _ _ ""]
 exact ⟨h0, fun x => ⟨h1, h2, k _ (.str "#") (rtSt_sm (.same _) (.refl _) (.same _))⟩⟩
theorem tr_c_pc (N : Nx b cf c cf1) (hs : cf1.st = (.str "c")) (h0 : (c == ("\n" : Str)) = false) (h1 : c.length ≤ sizeLine) (h2 : ((c.length : Int) != 0) = true) (h3 : inStr c " \t\r\n" = false) (h4 : inStr c "#" = false) (h5 : inStr c pc = true) (h6 : cf1.t.length + c.length ≤ sizeLine) :
  TurnSem wc pc b cf .next { cf1 with st := (.str "c"), t := cf1.t ++ c, pb := [] } := by
 refine turn_of N (.same _) (ds := [false, true, false, false, true]) fun P k => ?_
 rw [hs, tn_c_pc _ _ _ _ _ _ _ _ c]
 exact ⟨h0, h1, h2, h3, h4, h5, h6, k _ (.sstr c) (rtSt_sm (.same _) (.refl _) (.same _))⟩
theorem tr_c_wc (N : Nx b cf c cf1) (hs : cf1.st = (.str "c")) (h0 : (c == ("\n" : Str)) = false) (h1 : c.length ≤ sizeLine) (h2 : ((c.length : Int) != 0) = true) (h3 : inStr c " \t\r\n" = false) (h4 : inStr c "#" = false) (h5 : inStr c pc = false) (h6 : (!inStr c " \t\r\n") = true) :
  TurnSem wc pc b cf .brk { cf1 with st := (.str " "), pb := [c] } := by
 refine turn_of N (.same _) (ds := [false, true, false, false, false, true]) fun P k => ?_
 rw [hs, tn_c_wc _ _ _ _ _ _ _ _ c]
 exact ⟨h0, h1, h2, h3, h4, h5, h6, k _ (.sstr c) (rtSt_sm (.same _) (.refl _) (.same _))⟩
theorem tr_c_sq (N : Nx b cf "'" cf1) (hs : cf1.st = (.str "c")) (h0 : inStr "'" pc = false) :
  TurnSem wc pc b cf .brk { cf1 with st := (.str " "), pb := ["'"] } := by
 refine turn_of N (.sstr _) (ds := [false]) fun P k => ?_
 rw [hs, tn_c_sq _ _ _ _ _ _ _ _ ""]
 exact ⟨h0, k _ (.str "'") (rtSt_sm (.same _) (.cons _ _ _ _ (.str _) .nil) (.same _))⟩
theorem tr_c_dq (N : Nx b cf "\"" cf1) (hs : cf1.st = (.str "c")) (h0 : inStr "\"" pc = false) :
  TurnSem wc pc b cf .brk { cf1 with st := (.str " "), pb := ["\""] } := by
 refine turn_of N (.sstr _) (ds := [false]) fun P k => ?_
 rw [hs, tn_c_dq _ _ _ _ _ _ _ _ ""]
 exact ⟨h0, k _ (.str "\"") (rtSt_sm (.same _) (.cons _ _ _ _ (.str _) .nil) (.same _))⟩
theorem tr_c_es (N : Nx b cf "\\" cf1) (hs : cf1.st = (.str "c")) (h0 : inStr "\\" pc = false) :
  TurnSem wc pc b cf .brk { cf1 with st := (.str " "), pb := ["\\"] } := by
 refine turn_of N (.sstr _) (ds := [false]) fun P k => ?_
 rw [hs, tn_c_es _ _ _ _ _ _ _ _ ""]
 exact ⟨h0, k _ (.str "\\") (rtSt_sm (.same _) (.cons _ _ _ _ (.str _) .nil) (.same _))⟩
theorem tr_sq_eof (N : Nx b cf c cf1) (hs : cf1.st = (.str "'")) (h0 : (c == ("\n" : Str)) = false) (h1 : c.length ≤ sizeLine) (h2 : ((c.length : Int) != 0) = false) :
  TurnSem wc pc b cf (.exc "No closing quotation") { cf1 with st := (.str "'"), pb := [], q := true } := by
 refine turn_of N (.same _) (ds := [false, false]) fun P k => ?_
 rw [hs, tn_sq_eof _ _ _ _ _ _ _ _ c]
 exact ⟨h0, h1, h2, k _ (.sstr c) (rtSt_sm (.same _) (.refl _) (.bool _))⟩
theorem tr_sq_in (N : Nx b cf c cf1) (hs : cf1.st = (.str "'")) (h0 : (c == ("\n" : Str)) = false) (h1 : c.length ≤ sizeLine) (h2 : ((c.length : Int) != 0) = true) (h3 : (c == ("'" : Str)) = false) (h4 : inStr c "\\" = false) (h5 : cf1.t.length + c.length ≤ sizeLine) :
  TurnSem wc pc b cf .next { cf1 with st := (.str "'"), t := cf1.t ++ c, pb := [], q := true } := by
 refine turn_of N (.same _) (ds := [false, true, false, false]) fun P k => ?_
 rw [hs, tn_sq_in _ _ _ _ _ _ _ _ c]
 exact ⟨h0, h1, h2, h3, h4, h5, k _ (.sstr c) (rtSt_sm (.same _) (.refl _) (.bool _))⟩
theorem tr_dq_eof (N : Nx b cf c cf1) (hs : cf1.st = (.str "\"")) (h0 : (c == ("\n" : Str)) = false) (h1 : c.length ≤ sizeLine) (h2 : ((c.length : Int) != 0) = false) :
  TurnSem wc pc b cf (.exc "No closing quotation") { cf1 with st := (.str "\""), pb := [], q := true } := by
 refine turn_of N (.same _) (ds := [false, false]) fun P k => ?_
 rw [hs, tn_dq_eof _ _ _ _ _ _ _ _ c]
 exact ⟨h0, h1, h2, k _ (.sstr c) (rtSt_sm (.same _) (.refl _) (.bool _))⟩
theorem tr_dq_in (N : Nx b cf c cf1) (hs : cf1.st = (.str "\"")) (h0 : (c == ("\n" : Str)) = false) (h1 : c.length ≤ sizeLine) (h2 : ((c.length : Int) != 0) = true) (h3 : (c == ("\"" : Str)) = false) (h4 : inStr c "\\" = false) (h5 : cf1.t.length + c.length ≤ sizeLine) :
  TurnSem wc pc b cf .next { cf1 with st := (.str "\""), t := cf1.t ++ c, pb := [], q := true } := by
 refine turn_of N (.same _) (ds := [false, true, false, false]) fun P k => ?_
 rw [hs, tn_dq_in _ _ _ _ _ _ _ _ c]
 exact ⟨h0, h1, h2, h3, h4, h5, k _ (.sstr c) (rtSt_sm (.same _) (.refl _) (.bool _))⟩
theorem tr_sq_end (N : Nx b cf "'" cf1) (hs : cf1.st = (.str "'")) :
  TurnSem wc pc b cf .next { cf1 with st := (.str "a"), pb := [], q := true } := by
 refine turn_of N (.sstr _) (ds := []) fun P k => ?_
 rw [hs, tn_sq_end _ _ _ _ _ _ _ _ ""]
 exact k _ (.str "'") (rtSt_sm (.same _) (.refl _) (.bool _))
theorem tr_dq_end (N : Nx b cf "\"" cf1) (hs : cf1.st = (.str "\"")) :
  TurnSem wc pc b cf .next { cf1 with st := (.str "a"), pb := [], q := true } := by
 refine turn_of N (.sstr _) (ds := []) fun P k => ?_
 rw [hs, tn_dq_end _ _ _ _ _ _ _ _ ""]
 exact k _ (.str "\"") (rtSt_sm (.same _) (.refl _) (.bool _))
theorem tr_es_eof (N : Nx b cf c cf1) (hs : cf1.st = (.str "\\")) (h0 : (c == ("\n" : Str)) = false) (h1 : c.length ≤ sizeLine) (h2 : ((c.length : Int) != 0) = false) :
  TurnSem wc pc b cf (.exc "No escaped character") { cf1 with st := (.str "\\"), pb := [] } := by
 refine turn_of N (.same _) (ds := [false, false]) fun P k => ?_
 rw [hs, tn_es_eof _ _ _ _ _ _ _ _ c]
 exact ⟨h0, h1, h2, k _ (.sstr c) (rtSt_sm (.same _) (.refl _) (.same _))⟩
theorem tr_es_in (N : Nx b cf c cf1) (hs : cf1.st = (.str "\\")) (he : cf1.esc = "a") (h0 : (c == ("\n" : Str)) = false) (h1 : c.length ≤ sizeLine) (h2 : ((c.length : Int) != 0) = true) (h3 : cf1.t.length + c.length ≤ sizeLine) :
  TurnSem wc pc b cf .next { cf1 with st := (.str "a"), t := cf1.t ++ c, pb := [], esc := "a" } := by
 refine turn_of N (.same _) (ds := [false, true]) fun P k => ?_
 rw [hs, he, tn_es_in _ "" _ _ _ _ _ _ c]
 exact ⟨h0, h1, h2, h3, k _ (.sstr c) (rtSt_sm (.same _) (.refl _) (.same _))⟩
theorem tr_none_eof (N : Nx b cf c cf1) (hs : cf1.st = .none) (h0 : (c == ("\n" : Str)) = false) :
  TurnSem wc pc b cf .brk { cf1 with st := .none, t := "", pb := [] } := by
 refine turn_of N (.same _) (ds := [false]) fun P k => ?_
 rw [hs, tn_none_eof _ _ _ _ _ _ _ _ c]
 exact ⟨h0, k _ (.sstr c) (rtSt_sm (.str _) (.refl _) (.same _))⟩
end Mine
end
noncomputable section
namespace Mine
open PySem PySem.W PyProof.Rows PySem.Calls
noncomputable def onceEnd (Qa : PostF) (fl : AF) (st' : AS) : Prop := match fl with
 | .ret av => Qa (.ret av) st'
 | .brk => Qa .next st'
 | _ => False
theorem while_once {cx : Cx} {A : Around} {T : Tab} (C : CxOk cx) (TO : TabOk T cx A) (hA : A.handled = none) (VE : nsIn cx.K mainGlobals "ValueError" = some none ∧ nsIn cx.K builtinsNs "ValueError" = some (some (.type "ValueError"))) {N : Nat} {test : Expr} {body : List Stmt} {pos : Pos} {st : AS} {Qa : PostF}
  (w : trW T N test st fun c st => bch c (exsW T N body st (onceEnd Qa)) (Qa .next st)) {ρ : Rho} {s : Shared} {Q : Flow → Shared → Prop} {E : Value → Shared → Prop} (R : Rel cx ρ st s) (k : KF cx ρ s Qa Q) :
  wpAny (model cx.prog cx.w) A (exec (.While test body [] pos) cx.env) Q E s := by
 refine el0_4 (all_ok C TO N) fun _ _ trO _ => ?_
 refine el0_2 (stm_ok C TO hA VE N) fun _ exO => ?_
 refine wpAny_While (codeAny_whileLoop (fun n s' => s' = s) (fun n s' e => ?_) 0 rfl)
 subst e
 refine trO test st _ w ρ s' _ _ R fun ρ₁ s₁ c st₁ p₁ t₁ R₁ w₁ => ?_
 rcases c with _ | _
 ·
  rw [if_neg (by decide)]
  exact wpAny_execs_nil (k ρ₁ s₁ _ _ _ p₁ t₁ R₁ .next w₁)
 ·
  rw [if_pos rfl]
  refine exO body st₁ _ w₁ ρ₁ s₁ _ _ R₁ (fun ρ₂ s₂ f af st₂ p₂ t₂ R₂ F₂ q₂ => ?_) fun _ _ _ _ _ _ _ _ _ _ _ q => q.elim
  cases F₂ with
  | next => exact q₂.elim
  | cont => exact q₂.elim
  | brk => exact k ρ₂ s₂ _ _ _ (p₁.trans p₂) (t₁.trans t₂) R₂ .next q₂
  | ret av v r => exact k ρ₂ s₂ _ _ _ (p₁.trans p₂) (t₁.trans t₂) R₂ (.ret _ _ r) q₂
end Mine
end
noncomputable section
namespace Mine
open PySem PySem.W PyProof.Rows PySem.Calls
noncomputable def smGt (wc pc b : Str) (cf cf' : Cf) (out : AV) (f : Value) (avs : List AV) (st : AS) (Q : PostV) : Prop := match f with
 | .ref a => (match a == 700, avs with
  | true, [.obj 0] => st.objs = lxOf wc pc b cf (.sstr cf.t) ∧ Q out { st with objs := lxOf wc pc b cf' (.str "") }
  | _, _ => False)
 | f => smBase f avs st Q
noncomputable def tGt (wc pc b : Str) (cf cf' : Cf) (out : AV) : Tab := tabM (scopeOf dGt) (smGt wc pc b cf cf' out) spLex
noncomputable def gtHead : List Stmt := (bodyOf dGt).take 3
noncomputable def gtTail : List Stmt := (bodyOf dGt).drop 4
noncomputable def gtTest : Expr := match (bodyOf dGt).drop 3 with
 | .While t _ _ _ :: _ => t
 | _ => default
noncomputable def gtBody : List Stmt := match (bodyOf dGt).drop 3 with
 | .While _ b _ _ :: _ => b
 | _ => default
noncomputable def gtPos : Pos := match (bodyOf dGt).drop 3 with
 | .While _ _ _ p :: _ => p
 | _ => default
theorem gt_split : bodyOf dGt = gtHead ++ (.While gtTest gtBody [] gtPos :: gtTail) := by kernel_rfl
noncomputable def gtSt (wc pc b : Str) (cf' : Cf) (out : AV) : AS := { loc := (nm ["self", "raw"]).zip [.obj 0, out], objs := lxOf wc pc b cf' (.str ""), dec := [] }
theorem run_gt_head (wc pc b : Str) (cf cf' : Cf) (out : AV) (P : PostF) : exsW (tGt wc pc b cf cf' out) 40 gtHead { loc := (nm ["self"]).zip [.obj 0], objs := lxOf wc pc b cf (.sstr cf.t), dec := [] } P =
  (lxOf wc pc b cf (.sstr cf.t) = lxOf wc pc b cf (.sstr cf.t) ∧ P .next (gtSt wc pc b cf' out)) := by kernel_rfl
theorem run_gt_test1 (wc pc b : Str) (cf cf' : Cf) (t : Str) (P : Bool → AS → Prop) : trW (tGt wc pc b cf cf' (.sstr t)) 40 gtTest (gtSt wc pc b cf' (.sstr t)) P = P false (gtSt wc pc b cf' (.sstr t)) := by kernel_rfl
theorem run_gt_test2 (wc pc b : Str) (cf cf' : Cf) (P : Bool → AS → Prop) : trW (tGt wc pc b cf cf' .none) 40 gtTest (gtSt wc pc b cf' .none) P = P true (gtSt wc pc b cf' .none) := by kernel_rfl
theorem run_gt_body (wc pc b : Str) (cf cf' : Cf) (P : PostF) : exsW (tGt wc pc b cf cf' .none) 40 gtBody (gtSt wc pc b cf' .none) P = P (.ret .none) (gtSt wc pc b cf' .none) := by kernel_rfl
theorem run_gt_tail (wc pc b : Str) (cf cf' : Cf) (t : Str) (P : PostF) : exsW (tGt wc pc b cf cf' (.sstr t)) 40 gtTail (gtSt wc pc b cf' (.sstr t)) P = P (.ret (.sstr t)) (gtSt wc pc b cf' (.sstr t)) := by kernel_rfl
theorem rtOut_cases (cf : Cf) : rtOut cf = .none ∨ rtOut cf = .sstr cf.t := by
 unfold rtOut
 split
 ·exact .inr rfl
 ·split
  ·exact .inl rfl
  ·exact .inr rfl
theorem gt_ok {cx : Cx} {A : Around} {k : Nat} (G : Gd cx A (k + 6)) {st : AS} {Qa : PostV} {wc pc b : Str} (pz : pc.length ≤ sizeLine) (pn : ((pc.length : Int) != 0) = true) (bz : b.length ≤ sizeLine) {cf cf' : Cf} {n : Nat}
  (L : Loop wc pc b n { cf with q := false, esc := " " } cf') (ho : st.objs = lxOf wc pc b cf (.sstr cf.t)) (q : Qa (rtOut cf') { st with objs := lxOf wc pc b cf' (.str "") }) : CallOk cx A (.ref 693) [.obj 0] st Qa := by
 intro ρ s vs R R₀ V kv
 refine enterS G.C (ns := nm ["self"]) (G.hp ▸ G.KO.fGt) G.KO.nl (by have := G.Rm.depth; lia) (by decide +kernel) rfl R₀ V fun env s₁ EO C' t₁ R₁ => ?_
 have Rm : Room (A.deeper env) (k + 5) := G.Rm.deeper env
 have G1 : Gd (cx.sub s.heap (foot st.objs ρ) env) (A.deeper env) (k + 5) := ⟨C', G.KO, G.hp, Rm⟩
 have TO : TabOk (tGt wc pc b cf cf' (rtOut cf')) (cx.sub s.heap (foot st.objs ρ) env) (A.deeper env) := by
  refine tabM_ok (cx := cx.sub s.heap (foot st.objs ρ) env) (A := A.deeper env) G.KO EO.scope (fun f avs st Qa w => ?_) (fun f i st Qa w => spLex_ok (k := k + 3) ⟨C', G.KO, G.hp, Rm.in1⟩ w)
  unfold smGt at w
  split at w
  ·split at w
   ·rename_i e
    rw [eq_of_beq e]
    exact (rt_ok (k := k + 1) G1 pz pn bz L w.1 w.2).sm
   ·exact w.elim
  ·exact smBase_ok w
 have ve := G.KO.ve
 obtain ⟨_, exO⟩ := stm_ok C' TO Rm.handled ve 40
 rw [gt_split]
 refine execs_append ?_
 have wh : exsW (tGt wc pc b cf cf' (rtOut cf')) 40 gtHead { loc := (nm ["self"]).zip [.obj 0], objs := st.objs, dec := [] } (fun fl st' => fl = .next ∧ st' = gtSt wc pc b cf' (rtOut cf')) := by
  rw [ho, run_gt_head]; exact ⟨rfl, rfl, rfl⟩
 refine exO gtHead _ _ wh ρ s₁ _ _ R₁ (fun ρ₂ s₂ f af st₂ p₂ t₂ R₂ F₂ q₂ => ?_) fun _ _ _ _ _ _ _ _ _ _ _ q => by cases q.1
 obtain ⟨rfl, rfl⟩ := q₂
 obtain rfl := FRel.next_inv F₂
 have fin : ∀ ρ₃ s₃ v, PKeep ρ₂ ρ₃ → TKeep s₂.heap s₃.heap → Rel (cx.sub s.heap (foot st.objs ρ) env) ρ₃ (gtSt wc pc b cf' (rtOut cf')) s₃ → VRel s₃.heap ρ₃ (rtOut cf') v → R (.ok (.ret v)) s₃ := by
  intro ρ₃ s₃ v p₃ t₃ R₃ r
  have Rb := backS R₀ (p₂.trans p₃) ((t₁.trans t₂).trans t₃) R₃
  exact kv ρ₃ s₃ v _ _ (p₂.trans p₃) ((t₁.trans t₂).trans t₃) Rb r q
 refine wpAny_execs_cons ?_
 rcases rtOut_cases cf' with ho' | ho'
 ·rw [ho'] at TO R₂ fin
  have w : trW (tGt wc pc b cf cf' .none) 40 gtTest (gtSt wc pc b cf' .none) fun c st => bch c (exsW (tGt wc pc b cf cf' .none) 40 gtBody st (onceEnd fun fl st' => fl = .ret .none ∧ st' = gtSt wc pc b cf' .none)) (False) := by
   rw [run_gt_test2]
   show exsW _ _ _ _ _
   rw [run_gt_body]
   exact ⟨rfl, rfl⟩
  refine while_once C' TO Rm.handled ve (Qa := fun fl st' => fl = .ret .none ∧ st' = gtSt wc pc b cf' .none) (N := 40) ?_ R₂ fun ρ₃ s₃ f af st₃ p₃ t₃ R₃ F₃ q₃ => ?_
  ·rw [run_gt_test2] at w ⊢; exact w
  ·obtain ⟨rfl, rfl⟩ := q₃
   obtain ⟨_, rfl, _⟩ := FRel.ret_inv F₃
   rename_i v r
   exact fin ρ₃ s₃ v p₃ t₃ R₃ r
 ·rw [ho'] at TO R₂ fin
  refine while_once C' TO Rm.handled ve (Qa := fun fl st' => fl = .next ∧ st' = gtSt wc pc b cf' (.sstr cf'.t)) (N := 40) ?_ R₂ fun ρ₃ s₃ f af st₃ p₃ t₃ R₃ F₃ q₃ => ?_
  ·rw [run_gt_test1]; exact ⟨rfl, rfl⟩
  ·obtain ⟨rfl, rfl⟩ := q₃
   obtain rfl := FRel.next_inv F₃
   obtain ⟨_, exT⟩ := stm_ok C' TO Rm.handled ve 40
   have wt : exsW (tGt wc pc b cf cf' (.sstr cf'.t)) 40 gtTail (gtSt wc pc b cf' (.sstr cf'.t)) (fun fl st' => fl = .ret (.sstr cf'.t) ∧ st' = gtSt wc pc b cf' (.sstr cf'.t)) := by
    rw [run_gt_tail]; exact ⟨rfl, rfl⟩
   refine exT gtTail _ _ wt ρ₃ s₃ _ _ R₃ (fun ρ₄ s₄ f af st₄ p₄ t₄ R₄ F₄ q₄ => ?_) fun _ _ _ _ _ _ _ _ _ _ _ q => by cases q.1
   obtain ⟨rfl, rfl⟩ := q₄
   obtain ⟨_, rfl, _⟩ := FRel.ret_inv F₄
   rename_i v r
   exact fin ρ₄ s₄ v (p₃.trans p₄) (t₃.trans t₄) R₄ r
end Mine
end
noncomputable section
namespace Mine
open PySem PySem.W PyProof.Rows PySem.Calls
inductive LoopX (wc pc b : Str) (msg : Str) : Nat → Cf → Cf → Prop
 | stop {cf cf' : Cf} (h : TurnSem wc pc b cf (.exc msg) cf') : LoopX wc pc b msg 1 cf cf'
 | next {n : Nat} {cf cf1 cf' : Cf} (h : TurnSem wc pc b cf .next cf1) (e : cf1.pb = []) (r : LoopX wc pc b msg n cf1 cf') : LoopX wc pc b msg (n + 1) cf cf'
 | cont {n : Nat} {cf cf1 cf' : Cf} (h : TurnSem wc pc b cf .cont cf1) (e : cf1.pb = []) (r : LoopX wc pc b msg n cf1 cf') : LoopX wc pc b msg (n + 1) cf cf'
theorem loopX_ok {wc pc b msg : Str} {cx : Cx} {A : Around} (G : LxG cx A wc pc b) {n : Nat} {cf cf' : Cf} (L : LoopX wc pc b msg n cf cf') {nx : List (Str × AV)} (hx : isNx nx) (hpn : cf.pb = [] ∨ nx = []) {ρ : Rho} {s : Shared} (R : Rel cx ρ (rtA wc pc b cf nx []) s)
  {Rr : Result → Shared → Prop} (k : ∀ ρ' s' h' e t av, PKeep ρ ρ' → TKeep s.heap s'.heap → Rel cx ρ' (rtA wc pc b cf' [("nextchar", av)] []) s' → Heap.MadeExc s'.heap h' e "ValueError" [.str msg t] →
   notedBy (model cx.prog cx.w) A cx.env (fun e s' => Rr (.error e) s') (.ref e) { s' with heap := h' }) :
  codeAny (model cx.prog cx.w) A (.whileLoop tst rtLoop [] cx.env) Rr s := by
 refine codeAny_whileLoop (fun n s' => ∃ cfi ρ' nx', LoopX wc pc b msg n cfi cf' ∧ isNx nx' ∧ (cfi.pb = [] ∨ nx' = []) ∧ PKeep ρ ρ' ∧ TKeep s.heap s'.heap ∧ Rel cx ρ' (rtA wc pc b cfi nx' []) s') (fun n s' hI => ?_) n ⟨cf, ρ, nx, L, hx, hpn, PKeep.refl _, TKeep.refl _, R⟩
 refine el3_6 hI fun cfi ρ' nx' L' hx' hpn' p t R' => ?_
 have tw : trW tRt 10 tst (rtA wc pc b cfi nx' []) (fun c st' => c = true ∧ st' = rtA wc pc b cfi nx' []) := by rw [tst_true]; exact ⟨rfl, rfl⟩
 refine (all_ok G.C G.TO 10).2.2.1 tst _ _ tw ρ' s' _ _ R' fun ρ₁ s₁ c st₁ p₁ t₁ R₁ q => ?_
 obtain ⟨rfl, rfl⟩ := q
 rw [if_pos rfl]
 cases L' with
 | stop h =>
  refine h cx A G nx' hx' ρ₁ s₁ _ _ hpn' R₁ (fun ρ₂ s₂ f av p₂ t₂ R₂ F => nomatch F) fun ρ₂ s₂ h' e m tk av p₂ t₂ R₂ M e1 => ?_
  cases e1
  exact k ρ₂ s₂ h' e tk av ((p.trans p₁).trans p₂) ((t.trans t₁).trans t₂) R₂ M
 | next h e r =>
  refine h cx A G nx' hx' ρ₁ s₁ _ _ hpn' R₁ (fun ρ₂ s₂ f av p₂ t₂ R₂ F => ?_) fun _ _ _ _ _ _ _ _ _ _ _ e => by cases e
  cases F
  exact ⟨_, Nat.lt_succ_self _, _, ρ₂, _, r, .inr ⟨av, rfl⟩, .inl e, (p.trans p₁).trans p₂, (t.trans t₁).trans t₂, R₂⟩
 | cont h e r =>
  refine h cx A G nx' hx' ρ₁ s₁ _ _ hpn' R₁ (fun ρ₂ s₂ f av p₂ t₂ R₂ F => ?_) fun _ _ _ _ _ _ _ _ _ _ _ e => by cases e
  cases F
  exact ⟨_, Nat.lt_succ_self _, _, ρ₂, _, r, .inr ⟨av, rfl⟩, .inl e, (p.trans p₁).trans p₂, (t.trans t₁).trans t₂, R₂⟩
noncomputable def FFr (h : Heap) (ft : List Addr) (outer : List Env) : Prop := ∀ env ∈ outer, env.scope.kind ≠ .module ∧ ∃ L o, env.frame = some L ∧ h.get? L = some o ∧ (∀ vs, o.data ≠ .fields vs) ∧ L ∉ ft
noncomputable def RaiseOk (cx : Cx) (A : Around) (f : Value) (avs : List AV) (st : AS) (msg : Str) (st' : AS) : Prop :=
 ∀ (ρ : Rho) (s : Shared) (vs : List Value) (outer : List Env) (R : Result → Shared → Prop), Rel cx ρ st s → VRels s.heap ρ avs vs → A.frames = some outer → FFr s.heap (foot st.objs ρ) outer →
  (∀ ρ' sR B s' e t tk, PKeep ρ ρ' → TKeep s.heap sR.heap → Rel cx ρ' st' sR → B.StaysIn sR.heap → (∀ b o, sR.heap.get? b = some o → b ∉ outer.filterMap (·.frame) → s.heap.get? b ≠ none → B.get? b = some o) →
   Heap.FlyingW B outer e (.type "ValueError") (.ref t) s'.heap → s'.heap.TupAt t [.str msg tk] → B.get? t = none → sR.heap.UpToSlots s'.heap → s'.gens = #[] → s'.os = cx.os → R (.error (.ref e)) s') →
  codeAny (model cx.prog cx.w) A (.call f ⟨vs, []⟩) R s
section
variable {M : Model} {A : Around} {E : Value → Shared → Prop} {s : Shared}
theorem note_madeW {base h : Heap} {env : Env} {outer : List Env} {L e : Addr} {cls : Value} {args : List Value} {Q : Unit → Shared → Prop}
  (hfr : A.frames = some (env :: outer)) (hf : env.frame = some L) (hkb : base.StaysIn h) (hl : h.FunFrames base (env :: outer)) (hx : Heap.MadeExcOf h s.heap e cls args)
  (hQ : ∀ h' t, Heap.HeldW base (env :: outer) e cls (.ref t) L h' → h'.TupAt t args → base.get? t = none → s.heap.UpToSlots h' → Q () { s with heap := h' }) : wpAny M A (noteFrame (.ref e) env) Q E s := by
 obtain ⟨t, he, htn, ht⟩ := hx.there
 have fresh : ∀ b, h.get? b = none → base.get? b = none := fun b hb => by
  cases hq : base.get? b with
  | none => rfl
  | some o' => have := hkb b o' hq; rw [hb] at this; cases this
 unfold noteFrame
 simp only [hf]
 refine wpAny_bind (wpAny_field he rfl (x := Value.none) rfl ?_)
 rw [if_neg (by decide)]
 refine wpAny_entryW (a0 := .ref t) hfr (hl.of_keeps fun b o hb _ => ⟨o, hx.keeps b o hb, rfl⟩) hf he (fun b o hb => hx.keeps b o (hkb b o hb)) (fresh e hx.new) rfl (by simp) rfl fun h' hL => ?_
 obtain ⟨k1, k2, k3, k4⟩ := hL
 exact hQ h' t ⟨k1, fresh e hx.new, k2, k3⟩ (Heap.TupAt.of_slots ⟨_, _, ht, rfl, rfl⟩ k4) (fresh t htn) k4
theorem came_heldW {base : Heap} {env : Env} {outer : List Env} {L e : Addr} {cls a0 : Value} (hf : env.frame = some L) (hh : Heap.HeldW base (env :: outer) e cls a0 L s.heap)
  (hQ : ∀ h', Heap.HeldW base (env :: outer) e cls a0 L h' → s.heap.UpToSlots h' → E (.ref e) { s with heap := h' }) : cameBackBy M A env E (.ref e) s := by
 obtain ⟨f1, f2, f3, oe, vs, T, oT, ts, he, hcls, hd, h1, hnT, hTe, hT, hdT, h3⟩ := hh
 have hsz3 : 3 < ts.size := (Array.getElem?_eq_some_iff.mp h3).1
 unfold cameBackBy
 refine wpAny_bind (wpAny_field he hd h1 ?_)
 rw [if_neg (show ¬ ((Value.ref T == Value.none) = true) from by simp)]
 unfold setFlight
 show wpAny M A (field (.ref e) 1 >>= fun tb => if tb != .none then setField tb 3 (env.frame.elim .none fun f => rawInt f) else pure ()) _ _ _
 refine wpAny_bind (wpAny_field he hd h1 ?_)
 rw [if_pos (show (Value.ref T != Value.none) = true from by simp), hf]
 have other : ∀ b, b ≠ T → (s.heap.update T (Obj.mapFields (·.setIfInBounds 3 ((some L).elim Value.none fun f => rawInt f)))).get? b = s.heap.get? b :=
  fun b hb => Heap.get?_update_other _ _ (Ne.symm hb)
 have noRecord : ∀ b o, s.heap.get? b = some o → (∀ vs, o.data ≠ .fields vs) → b ≠ T := fun b o hb hnf q => by
  rw [q, hT] at hb; injection hb with hb; subst hb; exact hnf ts hdT
 refine wpAny_setField hT hdT hsz3 (hQ _ ⟨fun b o hbo => (other b fun q => by rw [q, hnT] at hbo; cases hbo).trans (f1 b o hbo), f2,
  f3.of_keeps fun b o hb hnf => ⟨o, (other b (noRecord b o hb hnf)).trans hb, rfl⟩, ?_⟩ fun b o hb hnf => ⟨o.slots, (other b (noRecord b o hb hnf)).trans hb⟩)
 exact ⟨oe, vs, T, _, _, (other e (Ne.symm hTe)).trans he, hcls, hd, h1, hnT, hTe, Heap.get?_update_self _ hT (Obj.isFreed_of_fields (Obj.data_mapFields hdT _)), Obj.data_mapFields hdT _, by simp [hsz3]⟩
theorem leave_heldU {base : Heap} {env : Env} {outer : List Env} {L e : Addr} {cls a0 : Value} {Q : Unit → Shared → Prop} (hf : env.frame = some L)
  (hh : Heap.HeldW base (env :: outer) e cls a0 L s.heap) (hQ : ∀ h', Heap.FlyingW base outer e cls a0 h' → s.heap.UpToSlots h' → Q () { s with heap := h' }) : wpAny M A (leaving env (.ref e)) Q E s := by
 unfold leaving
 refine wpAny_bind (wpAny_noteFrame_againW hf hh.2.2.2 ?_)
 refine wpAny_landsW hh fun h' hfl u => ?_
 obtain ⟨k1, k2, ⟨_, _, k3⟩, k4⟩ := hfl
 exact hQ h' ⟨k1, k2, k3, k4⟩ u
end
theorem madeExc_of {h h' : Heap} {e : Addr} {cls : String} {args : List Value} (x : Heap.MadeExc h h' e cls args) : Heap.MadeExcOf h h' e (.type cls) args := ⟨x.keeps, x.new, x.there⟩
theorem funFrames_of {h : Heap} {ft : List Addr} : ∀ {l : List Env} {as : List Addr}, FFr h ft l → (∀ env ∈ l, ∀ a, env.frame = some a → a ∈ as) → h.FunFrames (hideAll h as) l
 | [], _, _, _ => trivial
 | env :: l, as, F, hin => by
  obtain ⟨hk, L, o, hf, ho, hd, _⟩ := F env (.head _)
  exact ⟨hk, ⟨L, o, hf, hideAll_none _ (hin env (.head _) L hf), ho, hd⟩, funFrames_of (fun e he => F e (.tail _ he)) fun e he => hin e (.tail _ he)⟩
theorem FFr.mono {h h' : Heap} {ft ft' : List Addr} {l : List Env} (F : FFr h ft l) (k : ∀ b o, h.get? b = some o → b ∉ ft → h'.get? b = some o) (k2 : ∀ b o, h.get? b = some o → b ∉ ft → b ∉ ft') : FFr h' ft' l := by
 intro env he
 obtain ⟨hk, L, o, hf, ho, hd, hn⟩ := F env he
 exact ⟨hk, L, o, hf, k L o ho hn, hd, k2 L o ho hn⟩
theorem rt_raise {cx : Cx} {A : Around} {k : Nat} (G : Gd cx A (k + 4)) {st : AS} {wc pc b msg : Str} (pz : pc.length ≤ sizeLine) (pn : ((pc.length : Int) != 0) = true) (bz : b.length ≤ sizeLine) {cf cf' : Cf} {n : Nat}
  (L : LoopX wc pc b msg n { cf with q := false, esc := " " } cf') (ho : st.objs = lxOf wc pc b cf (.sstr cf.t)) : RaiseOk cx A (.ref 700) [.obj 0] st msg { st with objs := lxOf wc pc b cf' (.sstr cf'.t) } := by
 intro ρ s vs outer R R₀ V hfr FF kv
 have F := G.KO.fRt
 refine enterS G.C (ns := nm ["self"]) (G.hp ▸ F) G.KO.nl (by have := G.Rm.depth; lia) (by decide +kernel) rfl R₀ V fun env s₁ EO C' t₁ R₁ => ?_
 have LG := rt_sub (wc := wc) G C' EO pz pn bz
 refine el0_2 (stm_ok LG.C LG.TO LG.hA LG.VE 20) fun _ exH => ?_
 rw [rt_split]
 refine execs_append ?_
 have wh : exsW tRt 20 rtHead { loc := (nm ["self"]).zip [.obj 0], objs := st.objs, dec := [] } (fun fl st' => fl = .next ∧ st' = { loc := rtLoc (.bool false) (.str " ") [], objs := st.objs, dec := [] }) := by rw [rt_head]; exact ⟨rfl, rfl⟩
 refine exH rtHead _ _ wh ρ s₁ _ _ R₁ (fun ρ₂ s₂ f af st₂ p₂ t₂ R₂ F₂ q₂ => ?_) fun _ _ _ _ _ _ _ _ _ _ _ q => by cases q.1
 refine el0_2 q₂ fun q0_0 q0_1 => ?_; subst q0_0; subst q0_1
 obtain rfl := FRel.next_inv F₂
 have R₃ : Rel (cx.sub s.heap (foot st.objs ρ) env) ρ₂ (rtA wc pc b { cf with q := false, esc := " " } [] []) s₂ := by
  refine R₂.swap ⟨.cons _ _ _ _ _ (.same _) (.cons _ _ _ _ _ (.bool _) (.cons _ _ _ _ _ (.same _) .nil)), ?_, rfl⟩
  show SmT st.objs _
  rw [ho]; exact .refl _
 refine execs_append ?_
 rw [rtWhile_eq]
 refine wpAny_execs_cons (wpAny_While ?_)
 refine loopX_ok LG L (.inl rfl) (.inr rfl) R₃ fun ρ₃ s₃ h' e tk av p₃ t₃ R₄ M => ?_
 have T := (t₁.trans t₂).trans t₃
 have P := p₂.trans p₃
 have hfr' : (A.deeper env).frames = some (env :: outer) := Around.frames_deeper hfr
 have hf : env.frame = some s.heap.objs.size := EO.fr
 have Rb := backS R₀ P T R₄
 have kp : ∀ b o, s.heap.get? b = some o → b ∉ foot st.objs ρ → s₃.heap.get? b = some o := fun b o e n => R₄.keep b o e n
 have FF3 : FFr s₃.heap [] outer := FF.mono kp (fun _ _ _ _ => List.not_mem_nil)
 have FF4 : FFr s₃.heap [] (env :: outer) := by
  intro env' he
  rcases List.mem_cons.mp he with rfl | he
  ·refine el1_2 R₄.loc fun m z0_1 _ => ?_; refine el3_3 z0_1 fun o es ep ho hd _ => ?_
   refine ⟨by rw [EO.scope, F.kf]; decide, _, o, hf, ?_, (fun vs q => by rw [hd] at q; cases q), List.not_mem_nil⟩
   have hl : env'.locals = s.heap.objs.size := EO.loc
   rw [← hl]; exact ho
  ·exact FF3 env' he
 have hin : ∀ env' ∈ (env :: outer), ∀ a, env'.frame = some a → a ∈ (env :: outer).filterMap (·.frame) := fun env' he b hb => List.mem_filterMap.mpr ⟨env', he, hb⟩
 refine note_madeW (base := hideAll s₃.heap ((env :: outer).filterMap (·.frame))) (outer := outer) hfr' hf (fun b o q => of_hideAll _ q) (funFrames_of FF4 hin) (madeExc_of M) fun h₁ t hh tu tn u₁ => ?_
 refine came_heldW (outer := outer) hf hh fun h₂ hh₂ u₂ => ?_
 refine leave_heldU (outer := outer) hf hh₂ fun h₃ fl u₃ => ?_
 refine kv ρ₃ s₃ _ _ e t tk P T ?_ (fun b o q => of_hideAll _ q) (fun b o hb hn hs => hideAll_get _ hb fun hm => ?_) fl ((tu.of_slots u₂).of_slots u₃) tn
  ((((Heap.UpToSlots.of_keeps M.keeps).trans u₁).trans u₂).trans u₃) R₄.gens R₄.os
 ·exact Rb
 ·rw [List.filterMap_cons, hf] at hm
  rcases List.mem_cons.mp hm with q | q
  ·subst q; exact hs (no_get _)
  ·exact hn q
end Mine
end
noncomputable section
namespace Mine
open PySem PySem.W PyProof.Rows PySem.Calls
theorem meth_call {cx : Cx} {A : Around} {T : Tab} (C : CxOk cx) (TO : TabOk T cx A) {st : AS} {x name : Str} {i : Nat} {f : Addr} {p2 p3 p4 : Pos} {ρ : Rho} {s : Shared} {Q E : Value → Shared → Prop}
  (hb : (p3.endLine == p4.line) = true) (hn : evW T 5 (.Name x p2) st (fun a st' => a = .obj i ∧ st' = st)) (hm : methW T name (.obj i) st = some (.ref f)) (R : Rel cx ρ st s)
  (k : ∀ s' v, TKeep s.heap s'.heap → Rel cx ρ st s' → VRel s'.heap ρ (.obj i) v → codeAny (model cx.prog cx.w) A (.call (.ref f) ⟨[v], []⟩) (fun r s' => match r with | .ok (.ret v) => Q v s' | .ok _ => False | .error e => E e s') s') :
  wpAny (model cx.prog cx.w) A (eval (.Call (.Attribute (.Name x p2) name p3) [] [] p4) cx.env) Q E s := by
 refine Call_attr rfl hb (by decide) rfl ((all_ok C TO 5).1 _ _ _ hn ρ s _ E R fun ρ₁ s₁ va a st₁ p₁ t₁ R₁ V₁ q => ?_)
 obtain ⟨rfl, rfl⟩ := q
 have hρ : ρ₁ = ρ := by
  have l1 := R.objs.len
  have l2 := R₁.objs.len
  refine List.ext_getElem? fun j => ?_
  by_cases hj : j < ρ.length
  ·rw [p₁ j _ (List.getElem?_eq_getElem hj), List.getElem?_eq_getElem hj]
  ·rw [List.getElem?_eq_none (by omega), List.getElem?_eq_none (by omega)]
 subst hρ
 refine meth_ok C TO hm R₁ V₁ fun kp => ?_
 refine callWith_ok (es := []) rfl kp (Calls.spliced_nil ⟨R₁.kin C, wpAny_call ?_⟩)
 exact k s₁ va t₁ R₁ V₁
noncomputable def gtA : Pos × Pos × Pos × Pos × Pos := match (bodyOf dGt).drop 1 with
 | .Assign [.Name _ p1] (.Call (.Attribute (.Name _ p2) _ p3) _ _ p4) p5 :: _ => (p1, p2, p3, p4, p5)
 | _ => default
noncomputable def gtOne : List Stmt := (bodyOf dGt).take 1
theorem gt_split2 : bodyOf dGt = gtOne ++ (.Assign [.Name "raw" gtA.1] (.Call (.Attribute (.Name "self" gtA.2.1) "read_token" gtA.2.2.1) [] [] gtA.2.2.2.1) gtA.2.2.2.2 :: (bodyOf dGt).drop 2) := by kernel_rfl
noncomputable def tGx : Tab := tabM (scopeOf dGt) smBase spLex
noncomputable def gtSt0 (wc pc b : Str) (cf : Cf) : AS := { loc := (nm ["self"]).zip [.obj 0], objs := lxOf wc pc b cf (.sstr cf.t), dec := [] }
theorem run_gt_one (wc pc b : Str) (cf : Cf) (P : PostF) : exsW tGx 40 gtOne (gtSt0 wc pc b cf) P = P .next (gtSt0 wc pc b cf) := by kernel_rfl
theorem run_gt_self (wc pc b : Str) (cf : Cf) (P : PostV) : evW tGx 5 (.Name "self" gtA.2.1) (gtSt0 wc pc b cf) P = P (.obj 0) (gtSt0 wc pc b cf) := by kernel_rfl
theorem gt_meth (wc pc b : Str) (cf : Cf) : methW tGx "read_token" (.obj 0) (gtSt0 wc pc b cf) = some (.ref 700) := by kernel_rfl
theorem pkeep_eq {ρ ρ' : Rho} (p : PKeep ρ ρ') (l : ρ'.length = ρ.length) : ρ' = ρ := by
 refine List.ext_getElem? fun j => ?_
 by_cases hj : j < ρ.length
 ·rw [p j _ (List.getElem?_eq_getElem hj), List.getElem?_eq_getElem hj]
 ·rw [List.getElem?_eq_none (by lia), List.getElem?_eq_none (by lia)]
theorem lx_foot {wc pc b : Str} {cf cf' : Cf} {t t' : AV} {ρ : Rho} (h : ρ.length = 5) : foot (lxOf wc pc b cf t) ρ = foot (lxOf wc pc b cf' t') ρ := by
 obtain _ | ⟨p0, ρ⟩ := ρ; ·cases h
 obtain _ | ⟨p1, ρ⟩ := ρ; ·cases h
 obtain _ | ⟨p2, ρ⟩ := ρ; ·cases h
 obtain _ | ⟨p3, ρ⟩ := ρ; ·cases h
 obtain _ | ⟨p4, ρ⟩ := ρ; ·cases h
 rfl
theorem gt_raise {cx : Cx} {A : Around} {k : Nat} (G : Gd cx A (k + 6)) {st : AS} {wc pc b msg : Str} (pz : pc.length ≤ sizeLine) (pn : ((pc.length : Int) != 0) = true) (bz : b.length ≤ sizeLine) {cf cf' : Cf} {n : Nat}
  (L : LoopX wc pc b msg n { cf with q := false, esc := " " } cf') (ho : st.objs = lxOf wc pc b cf (.sstr cf.t)) : RaiseOk cx A (.ref 693) [.obj 0] st msg { st with objs := lxOf wc pc b cf' (.sstr cf'.t) } := by
 intro ρ s vs outer R R₀ V hfr FF kv
 have F := G.KO.fGt
 refine enterS G.C (ns := nm ["self"]) (G.hp ▸ F) G.KO.nl (by have := G.Rm.depth; lia) (by decide +kernel) rfl R₀ V fun env s₁ EO C' t₁ R₁ => ?_
 have Rm : Room (A.deeper env) (k + 5) := G.Rm.deeper env
 have G1 : Gd (cx.sub s.heap (foot st.objs ρ) env) (A.deeper env) (k + 5) := ⟨C', G.KO, G.hp, Rm⟩
 have TO : TabOk tGx (cx.sub s.heap (foot st.objs ρ) env) (A.deeper env) :=
  tabM_ok (cx := cx.sub s.heap (foot st.objs ρ) env) (A := A.deeper env) G.KO EO.scope (fun f avs st Qa w => smBase_ok w) (fun f i st Qa w => spLex_ok (k := k + 3) ⟨C', G.KO, G.hp, Rm.in1⟩ w)
 refine el0_2 (stm_ok C' TO Rm.handled G.KO.ve 40) fun _ exO => ?_
 rw [gt_split2]
 refine execs_append ?_
 have hlen : ρ.length = 5 := by simp only [← R₀.objs.len, ho]; rfl
 have R₁' : Rel (cx.sub s.heap (foot st.objs ρ) env) ρ (gtSt0 wc pc b cf) s₁ := by unfold gtSt0; simp only [← ho]; exact R₁
 have wh : exsW tGx 40 gtOne (gtSt0 wc pc b cf) (fun fl st' => fl = .next ∧ st' = gtSt0 wc pc b cf) := by rw [run_gt_one]; exact ⟨rfl, rfl⟩
 refine exO gtOne _ _ wh ρ s₁ _ _ R₁' (fun ρ₂ s₂ f af st₂ p₂ t₂ R₂ F₂ q₂ => ?_) fun _ _ _ _ _ _ _ _ _ _ _ q => by cases q.1
 refine el0_2 q₂ fun q0_0 q0_1 => ?_; subst q0_0; subst q0_1
 obtain rfl := FRel.next_inv F₂
 have hρ : ρ₂ = ρ := pkeep_eq p₂ (by simp only [← R₂.objs.len, hlen]; rfl)
 subst hρ
 refine wpAny_execs_cons (wpAny_Assign_Name ?_ (swaps_no rfl _ _))
 refine meth_call C' TO (i := 0) (f := 700) (by kernel_rfl) (by rw [run_gt_self]; exact ⟨rfl, rfl⟩) (gt_meth wc pc b cf) R₂ fun s₃ v t₃ R₃ V₃ => ?_
 have hfr' : (A.deeper env).frames = some (env :: outer) := Around.frames_deeper hfr
 have hf : env.frame = some s.heap.objs.size := EO.fr
 have kp : ∀ b o, s.heap.get? b = some o → b ∉ foot st.objs ρ₂ → s₃.heap.get? b = some o := fun b o e n => R₃.keep b o e n
 have FF3 : FFr s₃.heap (foot (gtSt0 wc pc b cf).objs ρ₂) (env :: outer) := by
  intro env' he
  rcases List.mem_cons.mp he with rfl | he
  ·refine el1_2 R₃.loc fun m z0_1 _ => ?_; refine el3_3 z0_1 fun o es ep ho hd _ => ?_
   refine ⟨by simp only [EO.scope, F.kf]; decide, _, o, hf, ?_, (fun vs q => by simp only [hd] at q; cases q), ?_⟩
   ·have hl : env'.locals = s.heap.objs.size := EO.loc
    simp only [← hl]; exact ho
   ·have hl : env'.locals = s.heap.objs.size := EO.loc
    simp only [← hl]; exact (List.nodup_cons.mp R₃.nodup).1
  ·refine (FF.mono kp (fun b o _ hn => ?_)) env' he
   show b ∉ foot (lxOf wc pc _ cf (.sstr cf.t)) ρ₂
   simp only [← ho]; exact hn
 refine rt_raise (k := k + 1) G1 pz pn bz L (cf := cf) rfl ρ₂ s₃ [v] (env :: outer) _ R₃ (.cons _ _ _ _ V₃ .nil) hfr' FF3 fun ρ₄ sR B s' e t tk p₄ t₄ R₄ hB hB2 fl tu tn up hg hos => ?_
 have hρ4 : ρ₄ = ρ₂ := pkeep_eq p₄ (by simp only [← R₄.objs.len, hlen]; rfl)
 subst hρ4
 show wpAny _ _ (leaving env (.ref e)) _ _ _
 refine wpAny_leaves_onW hfr' hf fl fun h' fl' u' => ?_
 have Rb := backS R₀ (PKeep.refl _) (((t₁.trans t₂).trans t₃).trans t₄) R₄
 refine kv ρ₄ sR B _ e t tk (PKeep.refl _) (((t₁.trans t₂).trans t₃).trans t₄) Rb hB (fun b o hb hn hs => hB2 b o hb (fun hm => ?_) ?_) fl' (tu.of_slots u') tn (up.trans u') hg hos
 ·simp only [List.filterMap_cons, hf] at hm
  rcases List.mem_cons.mp hm with q | q
  ·subst q; exact hs (no_get _)
  ·exact hn q
 ·intro hz
  by_cases hq : b ∈ foot st.objs ρ₄
  ·simp only [ho] at hq
   refine el1_2 (R₃.objs.here b hq) fun ob hob _ => ?_
   simp only [hz] at hob; exact nS hob
  ·cases hsb : s.heap.get? b with
   | none => exact hs hsb
   | some o' => have := kp b o' hsb hq; simp only [hz] at this; exact nS this
end Mine
end
noncomputable section
namespace Mine
open PySem PySem.W PyProof.Rows PySem.Calls
noncomputable def gL2 : List (Str × Value) := [("_index", .ref 63), ("len", .builtin "len"), ("type", .type "type"), ("int", .type "int"), ("bool", .type "bool"), ("str", .type "str"), ("ValueError", .type "ValueError"), ("isinstance", .builtin "isinstance"),
 ("StringIO", .ref 597), ("deque", .type "collections.deque"), ("dict", .type "dict"), ("enumerate", .type "enumerate"), ("range", .type "range"), ("S_IFMT", .ref 751), ("filemode", .ref 791), ("quote", .ref 744),
 ("_law_mode", .ref 798), ("_law_signs", .ref 805), ("_law_row", .ref 810), ("_law_told", .ref 817), ("_law_call", .ref 824), ("shlex", .ref 732)]
noncomputable def dLc := fnIn "_law_call" topBody
noncomputable def dRow := fnIn "_law_row" topBody
noncomputable def dTold := fnIn "_law_told" topBody
noncomputable def dLaw := fnIn "law" topBody
noncomputable def fmTable : List (Addr × List (Addr × Int × Str)) := [(759, [(752, 40960, "l"), (753, 49152, "s"), (754, 32768, "-"), (755, 24576, "b"), (756, 16384, "d"), (757, 8192, "c"), (758, 4096, "p")]), (761, [(760, 256, "r")]), (763, [(762, 128, "w")]), (767, [(764, 2112, "s"), (765, 2048, "S"), (766, 64, "x")]),
 (769, [(768, 32, "r")]), (771, [(770, 16, "w")]), (775, [(772, 1032, "s"), (773, 1024, "S"), (774, 8, "x")]), (777, [(776, 4, "r")]), (779, [(778, 2, "w")]), (783, [(780, 513, "t"), (781, 512, "T"), (782, 1, "x")])]
noncomputable def sreCode : List Int := [14, 17, 4, 1, 1, 21, 9, 0, 604043296, 1, 0, 0, 0, 0, 0, 8, 4, 0, 13, 14, 21, 9, 0, 604043296, 1, 0, 0, 0, 0, 0, 8, 4, 0, 1]
noncomputable abbrev patObj (t1 t2 t3 t4 : Tok) : Obj := { cls := .type "re.Pattern", data := .fields #[.str "[^\\w@%+=:,./-]" t1, .int 256 t2, .int 0 t3, .none, .none, .ref 48, .int 0 t4] }
noncomputable abbrev bndObj : Obj := { cls := .type "builtin_function_or_method", data := .fields #[.builtin "re.Pattern.search", .ref 49] }
structure KOk2 (w : World) (K : Frag) : Prop extends KOk w K where
 gl2 : ∀ p ∈ gL2, (nsIn K mainGlobals p.1 = some (some p.2) ∨ (nsIn K mainGlobals p.1 = some none ∧ nsIn K builtinsNs p.1 = some (some p.2))) ∧ (∀ a, p.2 = .ref a → keepIn K p.2 = true)
 fLc : FnAt prog0 w K 824 (bodyOf dLc) (scopeOf dLc) 1 (fun vs => (nm ["lexer"]).zip vs)
 fMode : FnAt prog0 w K 798 (bodyOf dMode) (scopeOf dMode) 1 (fun vs => (nm ["number"]).zip vs)
 fSigns : FnAt prog0 w K 805 (bodyOf dSigns) (scopeOf dSigns) 1 (fun vs => (nm ["mode"]).zip vs)
 fFilemode : FnAt prog0 w K 791 (bodyOf dFilemode) (scopeOf dFilemode) 1 (fun vs => (nm ["mode"]).zip vs)
 fIfmt : FnAt prog0 w K 751 (bodyOf dIfmt) (scopeOf dIfmt) 1 (fun vs => (nm ["mode"]).zip vs)
 fQuote : FnAt prog0 w K 744 (bodyOf dQuote) (scopeOf dQuote) 1 (fun vs => (nm ["s"]).zip vs)
 fRow : FnAt prog0 w K 810 (bodyOf dRow) (scopeOf dRow) 1 (fun vs => (nm ["numbers"]).zip vs)
 fTold : FnAt prog0 w K 817 (bodyOf dTold) (scopeOf dTold) 3 (fun vs => (nm ["row", "marks", "end"]).zip vs)
 sre : ∃ t1 t2 t3 t4 cvs, K.lookup 49 = some (patObj t1 t2 t3 t4) ∧ K.lookup 48 = some (tupObj cvs 0) ∧ cvs.map Builtin.Re.reRawOf = sreCode
 bnd : K.lookup 737 = some bndObj
 gUns : nsIn K mainGlobals "_find_unsafe" = some (some (.ref 737))
 gTab : nsIn K mainGlobals "_filemode_table" = some (some (.ref 784))
 tab0 : K.lookup 784 = some (tupObj (fmTable.map fun p => .ref p.1) 0)
 tab1 : ∀ p ∈ fmTable, K.lookup p.1 = some (tupObj (p.2.map fun q => .ref q.1) 0)
 tab2 : ∀ p ∈ fmTable, ∀ q ∈ p.2, ∃ t u, K.lookup q.1 = some (tupObj [.int q.2.1 t, .str q.2.2 u] 0)
noncomputable def tabN (sc : Scope) (bm : List (Nat × Str × String)) (sm : Value → List AV → AS → PostV → Prop) (sp : Addr → Nat → AS → PostV → Prop) : Tab where
 kind x := sc.names.lookup x
 G x := lookG x gL2
 pl := plT
 me C x := look3 C x meL
 pr C x := look3 C x prL
 bm k x := lookBm k x bm
 sm := sm
 sp := sp
theorem tabN_ok {cx : Cx} {A : Around} (KO : KOk2 cx.w cx.K) {sc : Scope} {bm : List (Nat × Str × String)} {sm : Value → List AV → AS → PostV → Prop} {sp : Addr → Nat → AS → PostV → Prop} (e : cx.env.scope = sc) (hb : ∀ p ∈ bm, BmAt p.1 p.2.1 p.2.2)
  (hm : ∀ f avs st Qa, sm f avs st Qa → SmOk cx A f avs st Qa) (hp : ∀ f i st Qa, sp f i st Qa → CallOk cx A.in1 (.ref f) [.obj i] st Qa) : TabOk (tabN sc bm sm sp) cx A where
 kind x := by show sc.names.lookup x = cx.env.scope.names.lookup x; rw [e]
 G x v h := KO.gl2 _ (lookG_mem h)
 pl C x h := by
  change plT C x = true at h
  unfold plT at h
  split at h
  ·rename_i q; rw [eq_of_beq q]; exact KO.pl1 x (List.contains_iff_mem.mp h)
  ·split at h
   ·rename_i q; rw [eq_of_beq q]; exact KO.pl2 x (List.contains_iff_mem.mp h)
   ·cases h
 me C x f h := KO.me _ (look3_mem h)
 pr C x f h := KO.pr _ (look3_mem h)
 bm k x id h := hb _ (lookBm_mem h)
 sm := hm
 sp := hp
structure Gd2 (cx : Cx) (A : Around) (k : Nat) : Prop where
 C : CxOk cx
 KO : KOk2 cx.w cx.K
 hp : cx.prog = prog0
 Rm : Room A k
noncomputable def noTup : AV → Bool
 | .tup _ => false
 | _ => true
noncomputable def noTupL : List (Str × AV) → Bool
 | [] => true
 | (_, a) :: r => noTup a && noTupL r
noncomputable def noTupA : List AV → Bool
 | [] => true
 | a :: r => noTup a && noTupA r
noncomputable def noTupO : AObj → Bool
 | .inst _ m => noTupL m
 | .list xs => noTupA xs
 | .deque xs => noTupA xs
noncomputable def noTupT : List AObj → Bool
 | [] => true
 | o :: r => noTupO o && noTupT r
theorem VRel.any {h h' : Heap} {ρ : Rho} {a : AV} {v : Value} (n : noTup a = true) (r : VRel h ρ a v) : VRel h' ρ a v := by
 cases r <;> first | exact .none | exact .bool _ | exact .sym _ | exact .int _ _ | exact .sint _ _ | exact .str _ _ | exact .sstr _ _ | exact .val _ | (rename_i e; exact .obj _ _ _ e) | cases n
theorem VRels.any {h h' : Heap} {ρ : Rho} : ∀ {l : List AV} {vs : List Value}, noTupA l = true → VRels h ρ l vs → VRels h' ρ l vs := by
 intro l
 induction l with
 | nil => intro vs _ r; obtain rfl := r.nil_inv; exact .nil
 | cons a l ih =>
  intro vs n r
  obtain ⟨v, vs, rfl, r, rs⟩ := r.cons_inv
  have n := Bool.and_eq_true_iff.mp n
  exact .cons _ _ _ _ (r.any n.1) (ih n.2 rs)
theorem ORelV.any {h h' : Heap} {ρ : Rho} {l : List (Str × AV)} (n : noTupL l = true) (x : Str) {v : Option Value} (r : ORelV h ρ (l.lookup x) v) : ORelV h' ρ (l.lookup x) v := by
 induction l with
 | nil => cases v with
  | none => trivial
  | some v => exact r.elim
 | cons p l ih =>
  obtain ⟨y, a⟩ := p
  simp only [noTupL, Bool.and_eq_true] at n
  simp only [List.lookup_cons] at r ⊢
  cases q : (x == y) with
  | true =>
   rw [q] at r
   rcases v with _ | v
   ·exact r.elim
   ·exact VRel.any n.1 r
  | false => rw [q] at r; exact ih n.2 r
theorem ORel.any {h h' : Heap} {ρ : Rho} {o : AObj} {p : Addr × Addr} (n : noTupO o = true) (r : ORel h ρ o p) (k : ∀ a ∈ fp o p, ∀ ob, h.get? a = some ob → h'.get? a = some ob) : ORel h' ρ o p := by
 obtain ⟨a, d⟩ := p
 cases o with
 | inst C m =>
  obtain ⟨h1, m', h2, h3⟩ := r
  exact ⟨k a (by simp [fp]) _ h1, m', h2.keep (k d (by simp [fp])), fun x => (h3 x).any n x⟩
 | list xs =>
  refine el2_2 r fun vs c h1 h2 => ?_
  exact ⟨vs, c, k a (by simp [fp]) _ h1, h2.any n⟩
 | deque xs =>
  refine el2_2 r fun vs c h1 h2 => ?_
  exact ⟨vs, c, k a (by simp [fp]) _ h1, h2.any n⟩
theorem OsRel.any {h h' : Heap} {ρ : Rho} : ∀ {os : List AObj} {ps : Rho}, noTupT os = true → OsRel h ρ os ps → (∀ a ∈ foot os ps, ∀ ob, h.get? a = some ob → h'.get? a = some ob) → OsRel h' ρ os ps
 | [], [], _, _, _ => trivial
 | o :: os, p :: ps, n, r, k => by
  simp only [noTupT, Bool.and_eq_true] at n
  exact ⟨r.1.any n.1 fun a ha => k a (List.mem_append_left _ ha), OsRel.any n.2 r.2 fun a ha => k a (List.mem_append_right _ ha)⟩
 | [], _ :: _, _, r, _ => r.elim
 | _ :: _, [], _, r, _ => r.elim
theorem Rel.slots {cx cx' : Cx} {ρ : Rho} {st : AS} {s s' : Shared} {fr : List Addr} (R : Rel cx ρ st s) (hcx : cx' = { cx with mt := cx'.mt }) (hmt : ∀ a ∈ cx.mt, a ∈ cx'.mt) (nt : noTupL st.loc = true) (nt2 : noTupT st.objs = true) (hg : st.gh = [])
  (k : ∀ b o, s.heap.get? b = some o → b ∉ fr → (cx.h₀.get? b ≠ none ∨ b ∈ foot st.objs ρ) → s'.heap.get? b = some o) (u : s.heap.UpToSlots s'.heap) (hf : ∀ b ∈ fr, b ∉ foot st.objs ρ) (hm : ∀ b ∈ fr, b ∈ cx'.mt ∨ cx.h₀.get? b = none) (g : s'.gens = #[]) (os : s'.os = cx.os) : Rel cx' ρ st s' := by
 have e1 : cx'.h₀ = cx.h₀ := by rw [hcx]
 have e2 : cx'.env = cx.env := by rw [hcx]
 have e3 : cx'.os = cx.os := by rw [hcx]
 have kf : ∀ a ∈ foot st.objs ρ, ∀ ob, s.heap.get? a = some ob → s'.heap.get? a = some ob := fun a ha ob e => k a ob e (fun q => hf a q ha) (.inr ha)
 refine ⟨fun b o e hb => ?_, ?_, OsRel.any nt2 R.objs kf, by rw [e2]; exact R.nodup, ?_, g, by rw [e3]; exact os, (by rw [hg]; exact fun p hp => (nomatch hp)), (by rw [hg]; exact List.nodup_nil)⟩
 ·rw [e1] at e
  refine k b o (R.keep b o e fun q => hb (hmt b q)) (fun q => ?_) (.inl (by rw [e]; simp))
  rcases hm b q with z | z
  ·exact hb z
  ·rw [z] at e; cases e
 ·refine el1_2 R.loc fun m hn hm' => ?_
  exact ⟨m, by rw [e2]; exact u.ns hn, fun x => (hm' x).any nt x⟩
 ·rw [e1, e2]
  intro a ha
  exact (R.own a ha).imp (hmt a) id
end Mine
end
noncomputable section
namespace Mine
open PySem PySem.W PyProof.Rows PySem.Calls
noncomputable def lcP : (List Expr × Pos × Pos) × (Pos × List Expr × Pos × Pos × Pos) × Pos := match bodyOf dLc with
 | [.Try [.Return (some (.List es p1)) p2] [.ExceptHandler (some (.Name _ q1)) _ [.Return (some (.List es2 q2)) q3] q4] _ _ p3] => ((es, p1, p2), (q1, es2, q2, q3, q4), p3)
 | _ => default
noncomputable def lcEs : List Expr := lcP.1.1
noncomputable def lcEs2 : List Expr := lcP.2.1.2.1
theorem lc_body : bodyOf dLc = [.Try [.Return (some (.List lcEs lcP.1.2.1)) lcP.1.2.2] [.ExceptHandler (some (.Name "ValueError" lcP.2.1.1)) (some "error") [.Return (some (.List lcEs2 lcP.2.1.2.2.1)) lcP.2.1.2.2.2.1] lcP.2.1.2.2.2.2] [] [] lcP.2.2] := by kernel_rfl
noncomputable def smLc (wc pc b : Str) (cf cf' : Cf) (out : AV) (f : Value) (avs : List AV) (st : AS) (Q : PostV) : Prop := match f with
 | .ref a => (match a == 693, avs with
  | true, [.obj 0] => st.objs = lxOf wc pc b cf (.sstr cf.t) ∧ Q out { st with objs := lxOf wc pc b cf' (.str "") }
  | _, _ => False)
 | f => False
noncomputable def tLc (wc pc b : Str) (cf cf' : Cf) (out : AV) : Tab := tabN (scopeOf dLc) [] (smLc wc pc b cf cf' out) noSp
noncomputable def lcSt (os : List AObj) : AS := { loc := (nm ["lexer"]).zip [.obj 0], objs := os, dec := [] }
theorem run_lc (wc pc b : Str) (cf cf' : Cf) (out : AV) (P : List AV → AS → Prop) : evsW (tLc wc pc b cf cf' out) 40 lcEs (lcSt (lxOf wc pc b cf (.sstr cf.t))) P =
  (lxOf wc pc b cf (.sstr cf.t) = lxOf wc pc b cf (.sstr cf.t) ∧ P [out, .sint cf'.ln] (lcSt (lxOf wc pc b cf' (.str "")))) := by kernel_rfl
noncomputable def LcOk (cx : Cx) (A : Around) (st : AS) (avs : List AV) (st' : AS) : Prop := ∀ (ρ : Rho) (s : Shared) (vs : List Value) (R : Result → Shared → Prop), Rel cx ρ st s → VRels s.heap ρ [.obj 0] vs →
 (∀ s' a xs, TKeep s.heap s'.heap → Rel cx ρ st' s' → s.heap.get? a = none → s'.heap.get? a = some (lstObj xs 0) → VRels s'.heap ρ avs xs → R (.ok (.ret (.ref a))) s') → codeAny (model cx.prog cx.w) A (.call (.ref 824) ⟨vs, []⟩) R s
theorem push_keep {h : Heap} {o : Obj} : ∀ b ob, h.get? b = some ob → (h.push o).get? b = some ob := fun b ob e => Heap.get?_push_of_some _ e
theorem lc_ok {cx : Cx} {A : Around} {k : Nat} (G : Gd2 cx A (k + 8)) {st : AS} {wc pc b : Str} (pz : pc.length ≤ sizeLine) (pn : ((pc.length : Int) != 0) = true) (bz : b.length ≤ sizeLine) {cf cf' : Cf} {n : Nat}
  (L : Loop wc pc b n { cf with q := false, esc := " " } cf') (ho : st.objs = lxOf wc pc b cf (.sstr cf.t)) : LcOk cx A st [rtOut cf', .sint cf'.ln] { st with objs := lxOf wc pc b cf' (.str "") } := by
 intro ρ s vs R R₀ V kv
 have F := G.KO.fLc
 refine enterS G.C (ns := nm ["lexer"]) (G.hp ▸ F) G.KO.nl (by have := G.Rm.depth; lia) (by decide +kernel) rfl R₀ V fun env s₁ EO C' t₁ R₁ => ?_
 have Rm : Room (A.deeper env) (k + 7) := G.Rm.deeper env
 have G1 : Gd (cx.sub s.heap (foot st.objs ρ) env) (A.deeper env) (k + 7) := ⟨C', G.KO.toKOk, G.hp, Rm⟩
 have TO : TabOk (tLc wc pc b cf cf' (rtOut cf')) (cx.sub s.heap (foot st.objs ρ) env) (A.deeper env) := by
  refine tabN_ok (cx := cx.sub s.heap (foot st.objs ρ) env) (A := A.deeper env) G.KO EO.scope (fun p hp => nomatch hp) (fun f avs st Qa w => ?_) (fun f i st Qa w => w.elim)
  unfold smLc at w
  split at w
  ·split at w
   ·rename_i e
    rw [eq_of_beq e]
    exact (gt_ok (k := k + 1) G1 pz pn bz L w.1 w.2).sm
   ·exact w.elim
  ·exact w.elim
 rw [lc_body]
 refine wpAny_execs_cons (wpAny_Try_except (wpAny_execs_cons (wpAny_Return_some (List_ ?_))))
 have hlen : ρ.length = 5 := by rw [← R₀.objs.len, ho]; rfl
 have R₁' : Rel (cx.sub s.heap (foot st.objs ρ) env) ρ (lcSt (lxOf wc pc b cf (.sstr cf.t))) s₁ := by unfold lcSt; rw [← ho]; exact R₁
 have w : evsW (tLc wc pc b cf cf' (rtOut cf')) 40 lcEs (lcSt (lxOf wc pc b cf (.sstr cf.t))) (fun avs st' => avs = [rtOut cf', .sint cf'.ln] ∧ st' = lcSt (lxOf wc pc b cf' (.str ""))) := by rw [run_lc]; exact ⟨rfl, rfl, rfl⟩
 refine (all_ok C' TO 40).2.1 lcEs _ _ w _ ρ s₁ _ _ R₁' (by kernel_rfl) fun ρ₂ s₂ vs avs st₂ p₂ t₂ R₂ V₂ q₂ => ?_
 obtain ⟨rfl, rfl⟩ := q₂
 have hρ : ρ₂ = ρ := pkeep_eq p₂ (by rw [← R₂.objs.len, hlen]; rfl)
 subst hρ
 have hz : vs.length < 1000 := by rw [← V₂.length]; show 2 < 1000; decide
 refine wpAny_newObj_type ?_ (size_list hz)
 have T : TKeep s.heap (s₂.heap.push (lstObj vs 0)) := (t₁.trans t₂).trans (.of push_keep)
 have R₃ : Rel (cx.sub s.heap (foot st.objs ρ₂) env) ρ₂ (lcSt (lxOf wc pc b cf' (.str ""))) { s₂ with heap := s₂.heap.push (lstObj vs 0) } := R₂.ext push_keep rfl rfl
 refine kv _ _ vs T (backS R₀ (PKeep.refl _) T R₃) ?_ (Heap.get?_push_size _ rfl) (V₂.mono (.of push_keep) (PKeep.refl _))
 cases hq : s.heap.get? s₂.heap.objs.size with
 | none => rfl
 | some o =>
  exfalso
  by_cases hm : s₂.heap.objs.size ∈ foot st.objs ρ₂
  ·rw [ho, lx_foot (cf' := cf') (t' := .str "") hlen] at hm
   obtain ⟨ob, hob, _⟩ := R₂.objs.here _ hm
   exact absurd (Heap.lt_size hob) (Nat.lt_irrefl _)
  ·have := R₂.keep _ o hq hm
   exact absurd (Heap.lt_size this) (Nat.lt_irrefl _)
theorem backU {cx : Cx} {ρ : Rho} {st : AS} {s : Shared} {env : Env} {st' : AS} {s' : Shared} (R₀ : Rel cx ρ st s) (t : TKeep s.heap s'.heap) (R' : Rel (cx.sub s.heap (cx.env.locals :: foot st.objs ρ) env) ρ st' s') (hg : st.gh = [])
  (hl : ∀ m, s.heap.Ns cx.env.locals m → s'.heap.Ns cx.env.locals m) (hf : foot st'.objs ρ = foot st.objs ρ) : Rel cx ρ { st with objs := st'.objs } s' := by
 have k : ∀ b o, s.heap.get? b = some o → b ∉ cx.env.locals :: foot st.objs ρ → s'.heap.get? b = some o := fun b o e n => R'.keep b o e n
 refine ⟨fun b o e hb => k b o (R₀.keep b o e hb) (fun hm => R₀.own_ne hm e hb rfl), ?_, R'.objs, ?_, ?_, R'.gens, R'.os, ?_, ?_⟩
 ·refine el1_2 R₀.loc fun m hn hm => ?_
  exact ⟨m, hl m hn, fun x => (hm x).mono t (PKeep.refl _)⟩
 ·show (cx.env.locals :: foot st'.objs ρ).Nodup
  rw [hf]; exact R₀.nodup
 ·show ∀ a ∈ cx.env.locals :: foot st'.objs ρ, _
  rw [hf]; exact R₀.own
 ·show ∀ p ∈ st.gh, _
  rw [hg]; exact fun p hp => (nomatch hp)
 ·show (st.gh.map (·.1)).Nodup
  rw [hg]; exact List.nodup_nil
end Mine
end
noncomputable section
namespace Mine
open PySem PySem.W PyProof.Rows PySem.Calls
noncomputable def tLy : Tab := tabN (scopeOf dLc) [] (fun _ _ _ _ => False) noSp
noncomputable def lcA : Pos × Pos × Pos × List Expr := match lcEs with
 | .Call (.Attribute (.Name _ p2) _ p3) _ _ p4 :: r => (p2, p3, p4, r)
 | _ => default
theorem lcEs_eq : lcEs = .Call (.Attribute (.Name "lexer" lcA.1) "get_token" lcA.2.1) [] [] lcA.2.2.1 :: lcA.2.2.2 := by kernel_rfl
theorem lc_star (env : Env) : starEach (.Call (.Attribute (.Name "lexer" lcA.1) "get_token" lcA.2.1) [] [] lcA.2.2.1 :: lcA.2.2.2) env = (false, eval (.Call (.Attribute (.Name "lexer" lcA.1) "get_token" lcA.2.1) [] [] lcA.2.2.1) env) :: starEach lcA.2.2.2 env := rfl
noncomputable def lcB : Pos × Pos × Pos := match lcEs2 with
 | .Call (.Name _ p2) [.Name _ p3] _ p4 :: r => (p2, p3, p4)
 | _ => default
noncomputable def lcR : List Expr := lcEs2.drop 1
theorem lcEs2_eq : lcEs2 = .Call (.Name "str" lcB.1) [.Name "error" lcB.2.1] [] lcB.2.2 :: lcR := by kernel_rfl
theorem run_ly_self (os : List AObj) (P : PostV) : evW tLy 5 (.Name "lexer" lcA.1) (lcSt os) P = P (.obj 0) (lcSt os) := by kernel_rfl
theorem ly_meth (wc pc b : Str) (cf : Cf) : methW tLy "get_token" (.obj 0) (lcSt (lxOf wc pc b cf (.sstr cf.t))) = some (.ref 693) := by kernel_rfl
noncomputable def lySt (e : Addr) (sx t : Str) (ln : Int) (wc pc b : Str) (p : Int) (pb : List AV) (g : Gh) : AS := { loc := (nm ["lexer", "error"]).zip [.obj 0, .val (.ref e)], objs := lxTab (.str sx) (.sstr t) ln wc pc b p pb, dec := [], gh := g }
theorem run_ly (e : Addr) (sx t : Str) (ln : Int) (wc pc b : Str) (p : Int) (pb : List AV) (g : Gh) (P : List AV → AS → Prop) : evsW tLy 20 lcR (lySt e sx t ln wc pc b p pb g) P = P [.sint ln, .str sx, .sstr t] (lySt e sx t ln wc pc b p pb g) := by kernel_rfl
theorem ly_kind_error : tLy.kind "error" = some .local := by kernel_rfl
theorem ly_kind_ve : tLy.kind "ValueError" = some .globalImplicit := by kernel_rfl
theorem ly_kind_str : tLy.kind "str" = some .globalImplicit := by kernel_rfl
theorem global_name {cx : Cx} {A : Around} (C : CxOk cx) {E Q : Value → Shared → Prop} {ρ : Rho} {st : AS} {s : Shared} (R : Rel cx ρ st s) {x : Str} {v : Value} {p : Pos} (hk : cx.env.kindOf x = some .globalImplicit) (hd : (x == ("__debug__" : Str)) = false)
  (g : nsIn cx.K mainGlobals x = some (some v) ∨ (nsIn cx.K mainGlobals x = some none ∧ nsIn cx.K builtinsNs x = some (some v))) (q : Q v s) : wpAny (model cx.prog cx.w) A (eval (.Name x p) cx.env) Q E s := by
 refine Name_function_global C.kf hk ?_ hd
 unfold loadGlobal
 rw [C.gl, C.bi]
 have X := R.kin C
 rcases g with g | ⟨g1, g2⟩
 ·exact wpAny_bind ((looks_nsIn X g).here (wpAny_pure q))
 ·exact wpAny_bind ((looks_nsIn X g1).here (wpAny_bind ((looks_nsIn X g2).here (wpAny_pure q))))
theorem local_name {cx : Cx} {A : Around} (C : CxOk cx) {E Q : Value → Shared → Prop} {ρ : Rho} {st : AS} {s : Shared} (R : Rel cx ρ st s) {x : Str} {av : AV} {p : Pos} (hk : cx.env.kindOf x = some .local) (hd : (x == ("__debug__" : Str)) = false)
  (l : st.loc.lookup x = some av) (q : ∀ v, VRel s.heap ρ av v → Q v s) : wpAny (model cx.prog cx.w) A (eval (.Name x p) cx.env) Q E s := by
 refine el1_2 R.loc fun m hn hm => ?_
 refine el1_2 ((hm x).some_of l) fun v hv rv => ?_
 exact wpAny_Name (wpAny_loadName_local C.kf hk hn hv (q v rv)) hd
theorem Rel.reloc {cx : Cx} {ρ : Rho} {st : AS} {s s' : Shared} (R : Rel cx ρ st s) {loc' : List (Str × AV)} {m : Str → Option Value} (hn : s'.heap.Ns cx.env.locals m) (hm : TKeep s.heap s'.heap → ∀ y, ORelV s'.heap ρ (loc'.lookup y) (m y))
  (hs : Heap.ExtBut cx.env.locals s.heap s'.heap) (g : s'.gens = s.gens) (os : s'.os = s.os) : Rel cx ρ { st with loc := loc' } s' := by
 refine el1_2 R.locHere fun ob hob hnt => ?_
 have T : TKeep s.heap s'.heap := .but hs fun vs n e => hnt vs n (Option.some.inj (hob.symm.trans e))
 refine ⟨fun b o e hb => hs b o (R.own_ne (.head _) e hb) (R.keep b o e hb), ⟨_, hn, hm T⟩, OsRel.keeps T (PKeep.refl _) R.objs fun a ha ob => hs a ob ?_, R.nodup, R.own, g.trans R.gens, os.trans R.os, fun p hp => ⟨let ⟨o, a, b⟩ := (R.gho p hp).1; ⟨o, hs _ _ (fun z => (R.gho p hp).2.1 (z ▸ .head _)) a, b⟩, (R.gho p hp).2⟩, R.ghn⟩
 rintro rfl
 exact (List.nodup_cons.mp R.nodup).1 ha
theorem Rel.tkeep {cx : Cx} {ρ : Rho} {st : AS} {s : Shared} (R : Rel cx ρ st s) (h : ∀ a ∈ cx.mt, ∀ vs n, cx.h₀.get? a ≠ some (tupObj vs n)) : TKeep cx.h₀ s.heap := fun a vs n e => R.keep a _ e fun hm => h a hm vs n e
theorem noTup_lx (sx t : Str) (ln : Int) (wc pc b : Str) (p : Int) : ∀ pb : List Str, noTupT (lxTab (.str sx) (.sstr t) ln wc pc b p (pb.map .sstr)) = true := by
 intro pb
 have : noTupA (pb.map AV.sstr) = true := by
  induction pb with
  | nil => rfl
  | cons x l ih => simp only [List.map_cons, noTupA, noTup, ih, Bool.and_self]
 show (true && (true && (true && (true && (noTupA (pb.map AV.sstr) && true))))) = true
 rw [this]; rfl
theorem lc_raise {cx : Cx} {A : Around} {k : Nat} (G : Gd2 cx A (k + 8)) (hfr : A.frames = some [cx.env]) (hef : cx.env.frame = some cx.env.locals) {st : AS} (hgh : st.gh = []) {wc pc b msg sx : Str} (pz : pc.length ≤ sizeLine) (pn : ((pc.length : Int) != 0) = true) (bz : b.length ≤ sizeLine) {cf cf' : Cf} {n : Nat}
  (L : LoopX wc pc b msg n { cf with q := false, esc := " " } cf') (hsx : cf'.st = .str sx) (ho : st.objs = lxOf wc pc b cf (.sstr cf.t)) : LcOk cx A st [.str msg, .sint cf'.ln, .str sx, .sstr cf'.t] { st with objs := lxOf wc pc b cf' (.sstr cf'.t) } := by
 intro ρ s vs R R₀ V kv
 have F := G.KO.fLc
 refine enterS G.C (ns := nm ["lexer"]) (G.hp ▸ F) G.KO.nl (by have := G.Rm.depth; lia) (by decide +kernel) rfl R₀ V fun env s₁ EO C' t₁ R₁ => ?_
 have Rm : Room (A.deeper env) (k + 7) := G.Rm.deeper env
 have G1 : Gd (cx.sub s.heap (foot st.objs ρ) env) (A.deeper env) (k + 7) := ⟨C', G.KO.toKOk, G.hp, Rm⟩
 have TO : ∀ h₀ mt A', TabOk tLy (cx.sub h₀ mt env) A' := fun h₀ mt A' =>
  tabN_ok (cx := cx.sub h₀ mt env) (A := A') G.KO EO.scope (fun p hp => nomatch hp) (fun f avs st Qa w => w.elim) (fun f i st Qa w => w.elim)
 simp only [lc_body]
 refine wpAny_execs_cons (wpAny_Try_except (wpAny_execs_cons (wpAny_Return_some (List_ ?_))))
 have hlen : ρ.length = 5 := by simp only [← R₀.objs.len, ho]; rfl
 have R₁' : Rel (cx.sub s.heap (foot st.objs ρ) env) ρ (lcSt (lxOf wc pc b cf (.sstr cf.t))) s₁ := by unfold lcSt; simp only [← ho]; exact R₁
 have hloc : env.locals = s.heap.objs.size := EO.loc
 have hfe : env.frame = some s.heap.objs.size := EO.fr
 simp only [lcEs_eq]
 refine spliced_more ?_ (lc_star env)
 refine meth_call C' (TO _ _ _) (i := 0) (f := 693) (by kernel_rfl) (by rw [run_ly_self]; exact ⟨rfl, rfl⟩) (ly_meth wc pc b cf) R₁' fun s₂ v t₂ R₂ V₂ => ?_
 have hfr' : (A.deeper env).frames = some [env, cx.env] := Around.frames_deeper hfr
 have kp : ∀ b o, s.heap.get? b = some o → b ∉ foot st.objs ρ → s₂.heap.get? b = some o := fun b o e n => R₂.keep b o e n
 have ft : foot (lcSt (lxOf wc pc b cf (.sstr cf.t))).objs ρ = foot st.objs ρ := by show foot (lxOf wc pc b cf (.sstr cf.t)) ρ = _; simp only [ho]
 have lawL : cx.env.locals ∉ foot st.objs ρ := (List.nodup_cons.mp R₀.nodup).1
 refine el1_2 R₀.locHere fun lob hlob _ => ?_
 have FF2 : FFr s₂.heap (foot (lcSt (lxOf wc pc b cf (.sstr cf.t))).objs ρ) [env, cx.env] := by
  simp only [ft]
  intro env' he
  rcases List.mem_cons.mp he with rfl | he
  ·refine el1_2 R₂.loc fun m z0_1 _ => ?_; refine el3_3 z0_1 fun o es ep hoo hd _ => ?_
   refine ⟨by simp only [EO.scope, F.kf]; decide, _, o, hfe, ?_, (fun vs q => by simp only [hd] at q; cases q), ?_⟩
   ·simp only [← hloc]; exact hoo
   ·simp only [← hloc, ← ft]; exact (List.nodup_cons.mp R₂.nodup).1
  ·rcases List.mem_cons.mp he with rfl | he
   ·refine el1_2 R₀.loc fun m z0_1 _ => ?_; refine el3_3 z0_1 fun o es ep hoo hd _ => ?_
    exact ⟨by simp only [G.C.kf]; decide, _, o, hef, kp _ _ hoo lawL, (fun vs q => by simp only [hd] at q; cases q), lawL⟩
   ·cases he
 refine gt_raise (k := k + 1) G1 pz pn bz L (cf := cf) rfl ρ s₂ [v] [env, cx.env] _ R₂ (.cons _ _ _ _ V₂ .nil) hfr' FF2 fun ρ₃ sR B s' e t tk p₃ t₃ R₃ hB hB2 fl tu tn up hg hos => ?_
 have hρ : ρ₃ = ρ := pkeep_eq p₃ (by simp only [← R₃.objs.len, hlen]; rfl)
 subst hρ
 show wpAny _ _ (noteFrame (.ref e) env) _ _ _
 have fte : foot (lxOf wc pc b cf' (.sstr cf'.t)) ρ₃ = foot st.objs ρ₃ := by simp only [ho]; exact lx_foot hlen
 have hlx : lxOf wc pc b cf' (.sstr cf'.t) = lxTab (.str sx) (.sstr cf'.t) cf'.ln wc pc b cf'.p (cf'.pb.map .sstr) := by unfold lxOf; simp only [hsx]
 -- the state at a heap behind the raise
 have rel_at : ∀ h6, B.StaysIn h6 → sR.heap.UpToSlots h6 → Rel (cx.sub s.heap (cx.env.locals :: foot st.objs ρ₃) env) ρ₃ (lcSt (lxOf wc pc b cf' (.sstr cf'.t))) { s' with heap := h6 } := by
  intro h6 hst hu
  have R₃' : Rel (cx.sub s.heap (foot st.objs ρ₃) env) ρ₃ (lcSt (lxOf wc pc b cf' (.sstr cf'.t))) sR := R₃
  refine R₃'.slots (cx' := cx.sub s.heap (cx.env.locals :: foot st.objs ρ₃) env) (fr := [env.locals, cx.env.locals]) rfl (fun a ha => .tail _ ha) rfl (by show noTupT (lxOf wc pc b cf' (.sstr cf'.t)) = true; simp only [hlx]; exact noTup_lx ..) rfl ?_ hu ?_ ?_ hg hos
  ·intro b' o hb hn hx
   refine hst b' o (hB2 b' o hb (fun hm => hn ?_) ?_)
   ·have e1 : [env, cx.env].filterMap (·.frame) = [env.locals, cx.env.locals] := by simp only [List.filterMap_cons, hfe, hef, List.filterMap_nil, hloc]
    simp only [e1] at hm; exact hm
   ·intro hz
    rcases hx with hx | hx
    ·by_cases hq : b' ∈ foot st.objs ρ₃
     ·simp only [← ft] at hq
      refine el1_2 (R₂.objs.here b' hq) fun ob hob _ => ?_
      simp only [hz] at hob; cases hob
     ·cases hsb : s.heap.get? b' with
      | none => exact hx hsb
      | some o' => have := kp b' o' hsb hq; simp only [hz] at this; cases this
    ·have hq : b' ∈ foot (lcSt (lxOf wc pc b cf (.sstr cf.t))).objs ρ₃ := by
      simp only [ft, ← fte]; exact hx
     refine el1_2 (R₂.objs.here b' hq) fun ob hob _ => ?_
     simp only [hz] at hob; cases hob
  ·intro b' hb'
   show b' ∉ foot (lxOf wc pc b cf' (.sstr cf'.t)) ρ₃
   rcases List.mem_cons.mp hb' with rfl | hb'
   ·exact (List.nodup_cons.mp R₃.nodup).1
   ·simp only [fte, List.mem_singleton.mp hb']; exact lawL
  ·intro b' hb'
   rcases List.mem_cons.mp hb' with rfl | hb'
   ·right; show s.heap.get? env.locals = none; simp only [hloc]; exact no_get _
   ·left; simp only [List.mem_singleton.mp hb']; exact .head _
 have C1 : CxOk (cx.sub s.heap (cx.env.locals :: foot st.objs ρ₃) env) := by
  refine ⟨C'.kf, C'.gl, C'.bi, C'.kin, C'.sub, fun a ha => ?_⟩
  rcases List.mem_cons.mp ha with rfl | ha
  ·rcases R₀.own _ (.head _) with q | q
   ·exact G.C.fresh _ q
   ·cases z : cx.base.get? cx.env.locals with
    | none => rfl
    | some o => simp only [G.C.sub _ _ z] at q; cases q
  ·exact foot_fresh G.C R₀ a ha
 refine wpAny_looks_onW hfr' hfe fl fun h₄ hh₄ u₄ => ?_
 refine wpAny_landsW hh₄ fun h₅ fl₅ u₅ => ?_
 have U₅ := (up.trans u₄).trans u₅
 have R₅ := rel_at h₅ fl₅.1 U₅
 refine el1_2 fl₅.there fun ob5 hob5 hcls5 => ?_
 refine wpAny_handleBy_builtin_as (X := "ValueError") (T := "ValueError") (b := true) PySem.F.isExc_ValueError PySem.F.notTuple_ValueError (by simp only [isSubtype_type]; kernel_rfl) ?_
 have TO1 := TO s.heap (cx.env.locals :: foot st.objs ρ₃) (A.deeper env)
 have kE : env.kindOf "error" = some .local := (TO1.kind "error").symm.trans ly_kind_error
 have kV : env.kindOf "ValueError" = some .globalImplicit := (TO1.kind "ValueError").symm.trans ly_kind_ve
 have kS : env.kindOf "str" = some .globalImplicit := (TO1.kind "str").symm.trans ly_kind_str
 refine global_name C1 R₅ kV (by decide +kernel) (.inr G.KO.ve) ⟨rfl, ⟨ob5, hob5, hcls5⟩, ?_⟩
 simp only [if_pos rfl]
 refine lands_againW fl₅ fun h₆ fl₆ u₆ => ?_
 have U₆ := U₅.trans u₆
 have R₆ := rel_at h₆ fl₆.1 U₆
 have tu₆ := (((tu.of_slots u₄).of_slots u₅).of_slots u₆)
 refine el2_4 fl₆.first fun oe ws hoe hoec hoed hoe0 => ?_
 -- the caller's frame as a ghost
 refine el1_2 R₀.loc fun m0 z0_1 hm0 => ?_; refine el3_3 z0_1 fun o0 es0 ep0 ho0 hd0 hk0 => ?_
 have hsR : sR.heap.get? cx.env.locals = some o0 := R₃.keep _ _ ho0 lawL
 obtain ⟨sl0, hg0⟩ := U₆ _ o0 hsR (fun vs q => by simp only [hd0] at q; cases q)
 have neL : cx.env.locals ≠ env.locals := fun q => by simp only [hloc] at q; simp only [q, no_get] at ho0; cases ho0
 have R₆g : Rel (cx.sub s.heap (cx.env.locals :: foot st.objs ρ₃) env) ρ₃ { lcSt (lxOf wc pc b cf' (.sstr cf'.t)) with gh := [(cx.env.locals, fun o => o.data = o0.data)] } { s' with heap := h₆ } := by
  refine ⟨R₆.keep, R₆.loc, R₆.objs, R₆.nodup, R₆.own, R₆.gens, R₆.os, fun p hp => ?_, by simp⟩
  simp only [List.mem_singleton.mp hp]
  refine ⟨⟨_, hg0, rfl, fun vs n q => by have h1 := congrArg Obj.data q; change o0.data = _ at h1; simp only [hd0] at h1; cases h1⟩, fun hm => ?_, .inl (.head _)⟩
  rcases List.mem_cons.mp hm with q | q
  ·exact neL q
  ·have q : cx.env.locals ∈ foot (lxOf wc pc b cf' (.sstr cf'.t)) ρ₃ := q
   simp only [fte] at q; exact lawL q
 refine el1_2 R₆g.loc fun m6 hn6 hm6 => ?_
 refine el3_3 (id hn6) fun ol esl epl hol hdl _ => ?_
 refine wpAny_storeName_local (env := env) kE hn6 (fun h₇ hn7 sb => ?_) (noClass C1)
 have neE : e ≠ env.locals := fun q => by
  have h1 : h₆.get? env.locals = some ol := hol
  simp only [← q, hoe] at h1; cases h1; simp only [hoed] at hdl; cases hdl
 have neT : t ≠ env.locals := fun q => by
  refine el2_3 tu₆ fun ot nt hot _ hotd => ?_
  have h1 : h₆.get? env.locals = some ol := hol
  simp only [← q, hot] at h1; cases h1; simp only [hotd] at hdl; cases hdl
 have R₇ : Rel (cx.sub s.heap (cx.env.locals :: foot st.objs ρ₃) env) ρ₃ (lySt e sx cf'.t cf'.ln wc pc b cf'.p (cf'.pb.map .sstr) [(cx.env.locals, fun o => o.data = o0.data)]) { s' with heap := h₇, toks := s'.toks + 1 } := by
  have := R₆g.store (x := "error") (av := .val (.ref e)) (s' := { s' with heap := h₇, toks := s'.toks + 1 }) (.val _) hm6 hn7 sb.extBut rfl rfl
  unfold lySt
  simp only [← hlx]
  exact this
 have X7 : h₇.ExcAt e "ValueError" (.ref t) := ⟨oe, ws, (sb.2 e neE).trans hoe, hoec, hoed, hoe0⟩
 have T7 : h₇.TupAt t [.str msg tk] := by
  refine el2_3 tu₆ fun ot nt hot hotc hotd => ?_
  exact ⟨ot, nt, (sb.2 t neT).trans hot, hotc, hotd⟩
 refine wpAny_execs_cons (wpAny_Return_some (List_ ?_))
 simp only [lcEs2_eq]
 refine spliced_more (Call_name (global_name C1 R₇ kS (by decide +kernel) (G.KO.gl2 ("str", .type "str") (by decide +kernel)).1 ?_)) rfl
 refine callWith_ok (K := cx.K) (es := [_]) rfl (fun h _ => keeper_plain (fun a q => by cases q) h) ?_
 refine spliced_more (local_name C1 R₇ kE (by decide +kernel) (av := .val (.ref e)) (by kernel_rfl) fun v₈ r₈ => ?_) rfl
 w_dflts r₈
 refine Calls.spliced_nil ⟨Rel.kin (cx := cx.sub s.heap (cx.env.locals :: foot st.objs ρ₃) env) C1 R₇, ?_⟩
 refine P.str_of_exc_one PySem.F.excStr_ValueError (by have := Rm.units; show (A.deeper env).units + 2 < cLine; lia) X7 T7 ?_
 refine (all_ok C1 (TO _ _ _) 20).2.1 lcR _ (fun avs st' => avs = [.sint cf'.ln, .str sx, .sstr cf'.t] ∧ st' = lySt e sx cf'.t cf'.ln wc pc b cf'.p (cf'.pb.map .sstr) [(cx.env.locals, fun o => o.data = o0.data)]) (by rw [run_ly]; exact ⟨rfl, rfl⟩) _ ρ₃ _ _ _ R₇ (by kernel_rfl) fun ρ₈ s₈ us avs st₈ p₈ t₈ R₈ V₈ q₈ => ?_
 refine el0_2 q₈ fun q0_0 q0_1 => ?_; subst q0_0; subst q0_1
 have hρ8 : ρ₈ = ρ₃ := pkeep_eq p₈ (by simp only [← R₈.objs.len, hlen]; rfl)
 subst hρ8
 have hz : (Value.str msg tk :: us).length < 1000 := by
  have := V₈.length
  simp only [List.length_cons, List.length_nil] at this ⊢
  lia
 refine wpAny_newObj_type ?_ (size_list hz)
 have R₉ : Rel (cx.sub s.heap (cx.env.locals :: foot st.objs ρ₈) env) ρ₈ (lySt e sx cf'.t cf'.ln wc pc b cf'.p (cf'.pb.map .sstr) [(cx.env.locals, fun o => o.data = o0.data)]) { s₈ with heap := s₈.heap.push (lstObj (Value.str msg tk :: us) 0) } := R₈.ext push_keep rfl rfl
 refine el1_2 R₉.loc fun m9 hn9 hm9 => ?_
 refine wpAny_nameGoes_keeps (env := env) (n := "error") kE hn9 (noClass C1) fun h₁₀ vo hn10 sb10 => ?_
 have Vl : VRels s₈.heap ρ₈ [.str msg, .sint cf'.ln, .str sx, .sstr cf'.t] (Value.str msg tk :: us) := .cons _ _ _ _ (.str _ _) V₈
 have hnotup : ∀ a ∈ cx.env.locals :: foot st.objs ρ₈, ∀ vs n, s.heap.get? a ≠ some (tupObj vs n) := by
  intro a ha vs n q
  rcases List.mem_cons.mp ha with rfl | ha
  ·refine el1_2 R₀.locHere fun ob hob hnt => ?_
   exact hnt vs n (Option.some.inj (hob.symm.trans q))
  ·refine el1_2 (R₀.objs.here a ha) fun ob hob hnt => ?_
   exact hnt vs n (Option.some.inj (hob.symm.trans q))
 have R₁₀ : ∃ loc', Rel (cx.sub s.heap (cx.env.locals :: foot st.objs ρ₈) env) ρ₈ { lySt e sx cf'.t cf'.ln wc pc b cf'.p (cf'.pb.map .sstr) [(cx.env.locals, fun o => o.data = o0.data)] with loc := loc' } { s₈ with heap := h₁₀, toks := s₈.toks + 1 } := by
  rcases vo with _ | u
  ·
   refine ⟨(nm ["lexer"]).zip [.obj 0], R₉.reloc (s' := { s₈ with heap := h₁₀, toks := s₈.toks + 1 }) hn10 (fun T y => ?_) sb10.extBut rfl rfl⟩
   by_cases hy : y = ("error" : Str)
   ·simp only [if_pos hy, hy]
    have : ((nm ["lexer"]).zip [AV.obj 0]).lookup ("error" : Str) = none := by kernel_rfl
    simp only [this]; trivial
   ·simp only [if_neg hy]
    have e1 : ((nm ["lexer"]).zip [AV.obj 0]).lookup y = ((nm ["lexer", "error"]).zip [AV.obj 0, .val (.ref e)]).lookup y := by
     show List.lookup y [(_, _)] = List.lookup y [(_, _), (_, _)]
     simp only [List.lookup_cons, List.lookup_nil]
     have : (y == ("error" : Str)) = false := by simpa using hy
     simp only [this]
    simp only [e1]
    exact (hm9 y).mono T (PKeep.refl _)
  ·
   refine ⟨_, R₉.store (x := "error") (av := .val u) (s' := { s₈ with heap := h₁₀, toks := s₈.toks + 1 }) (.val _) hm9 hn10 sb10.extBut rfl rfl⟩
 refine el1_1 R₁₀ fun loc' R₁₀ => ?_
 have T10 : TKeep s.heap h₁₀ := R₁₀.tkeep hnotup
 refine el0_2 (R₁₀.gho _ (.head _)) fun z0_0 _ => ?_; refine el1_3 z0_0 fun og hog hogd _ => ?_
 have Rfin := backU (st' := { lySt e sx cf'.t cf'.ln wc pc b cf'.p (cf'.pb.map .sstr) [(cx.env.locals, fun o => o.data = o0.data)] with loc := loc' }) R₀ T10 R₁₀ hgh (fun m hm => ?_) (by show foot (lxTab _ _ _ _ _ _ _ _) ρ₈ = _; simp only [← hlx]; exact fte)
 ·refine kv _ s₈.heap.objs.size (Value.str msg tk :: us) T10 ?_ ?_ ?_ (Vl.mono ?_ (PKeep.refl _))
  ·show Rel cx ρ₈ { st with objs := lxOf wc pc b cf' (.sstr cf'.t) } _
   simp only [hlx]; exact Rfin
  ·cases hq : s.heap.get? s₈.heap.objs.size with
   | none => rfl
   | some o =>
    exfalso
    by_cases hm : s₈.heap.objs.size ∈ cx.env.locals :: foot st.objs ρ₈
    ·rcases List.mem_cons.mp hm with q | q
     ·refine el0_2 (R₈.gho _ (.head _)) fun z0_0 _ => ?_; refine el1_2 z0_0 fun og hog _ => ?_
      have hog : s₈.heap.get? cx.env.locals = some og := hog
      simp only [← q] at hog
      exact absurd (Heap.lt_size hog) (Nat.lt_irrefl _)
     ·have q' : s₈.heap.objs.size ∈ foot (lySt e sx cf'.t cf'.ln wc pc b cf'.p (cf'.pb.map .sstr) [(cx.env.locals, fun o => o.data = o0.data)]).objs ρ₈ := by
       show _ ∈ foot (lxTab _ _ _ _ _ _ _ _) ρ₈
       simp only [← hlx, fte]; exact q
      refine el1_2 (R₈.objs.here _ q') fun ob hob _ => ?_
      exact absurd (Heap.lt_size hob) (Nat.lt_irrefl _)
    ·have := R₈.keep _ o hq hm
     exact absurd (Heap.lt_size this) (Nat.lt_irrefl _)
  ·have ne : s₈.heap.objs.size ≠ env.locals := fun q => by
    refine el1_2 R₈.locHere fun ob hob _ => ?_
    have hob : s₈.heap.get? env.locals = some ob := hob
    simp only [← q] at hob
    exact absurd (Heap.lt_size hob) (Nat.lt_irrefl _)
   exact (sb10.2 _ ne).trans (Heap.get?_push_size _ rfl)
  ·have tk9 : TKeep (s₈.heap.push (lstObj (Value.str msg tk :: us) 0)) h₁₀ := .but sb10.extBut fun vs n q => by
    refine el1_2 R₉.locHere fun ob hob hnt => ?_
    exact hnt vs n (Option.some.inj (hob.symm.trans q))
   exact (TKeep.of push_keep).trans tk9
 ·refine el3_3 hm fun o1 es1 ep1 ho1 hd1 hk1 => ?_
  simp only [ho0] at ho1; cases ho1
  exact ⟨og, es1, ep1, hog, hogd.trans hd1, hk1⟩
end Mine
end
noncomputable section
namespace Mine
open PySem PySem.W PyProof.Rows PySem.Calls
section
variable {cx : Cx} {A : Around}
noncomputable abbrev Cx.now (cx : Cx) (h : Heap) (os : List AObj) (ρ : Rho) : Cx := cx.sub h (cx.env.locals :: foot os ρ) cx.env
theorem own_fresh (C : CxOk cx) {ρ : Rho} {st : AS} {s : Shared} (R : Rel cx ρ st s) : ∀ a ∈ cx.env.locals :: foot st.objs ρ, cx.base.get? a = none := by
 intro a ha
 rcases R.own a ha with q | q
 ·exact C.fresh a q
 ·cases z : cx.base.get? a with
  | none => rfl
  | some o => rw [C.sub _ _ z] at q; cases q
theorem CxOk.now (C : CxOk cx) {ρ : Rho} {st : AS} {s : Shared} (R : Rel cx ρ st s) : CxOk (cx.now s.heap st.objs ρ) :=
 ⟨C.kf, C.gl, C.bi, C.kin, fun b o e => R.base C b o e, fun a ha => own_fresh C R a ha⟩
theorem Rel.now {ρ : Rho} {st : AS} {s : Shared} (R : Rel cx ρ st s) (hg : st.gh = []) : Rel (cx.now s.heap st.objs ρ) ρ st s :=
 ⟨fun b o e _ => e, R.loc, R.objs, R.nodup, fun a ha => .inl ha, R.gens, R.os, by rw [hg]; exact fun p hp => (nomatch hp), by rw [hg]; exact List.nodup_nil⟩
theorem own_notup {ρ : Rho} {st : AS} {s : Shared} (R : Rel cx ρ st s) : ∀ a ∈ cx.env.locals :: foot st.objs ρ, ∀ vs n, s.heap.get? a ≠ some (tupObj vs n) := by
 intro a ha vs n q
 rcases List.mem_cons.mp ha with rfl | ha
 ·refine el1_2 R.locHere fun ob hob hnt => ?_
  exact hnt vs n (Option.some.inj (hob.symm.trans q))
 ·refine el1_2 (R.objs.here a ha) fun ob hob hnt => ?_
  exact hnt vs n (Option.some.inj (hob.symm.trans q))
theorem now_tkeep {ρ ρ' : Rho} {st st' : AS} {s s' : Shared} (R : Rel cx ρ st s) (R' : Rel (cx.now s.heap st.objs ρ) ρ' st' s') : TKeep s.heap s'.heap := R'.tkeep (own_notup R)
theorem Rel.then {ρ ρ' : Rho} {st st' : AS} {s s' : Shared} (R : Rel cx ρ st s) (R' : Rel (cx.now s.heap st.objs ρ) ρ' st' s') (hg : st'.gh = []) : Rel cx ρ' st' s' := by
 refine ⟨fun b o e hb => R'.keep b o (R.keep b o e hb) (fun hm => R.own_ne hm e hb rfl), R'.loc, R'.objs, R'.nodup, fun a ha => ?_, R'.gens, R'.os, by rw [hg]; exact fun p hp => (nomatch hp), by rw [hg]; exact List.nodup_nil⟩
 rcases R'.own a ha with q | q
 ·exact R.own a q
 ·by_cases z : a ∈ cx.mt
  ·exact .inl z
  ·refine .inr ?_
   cases y : cx.h₀.get? a with
   | none => rfl
   | some o => have q : s.heap.get? a = none := q; have := R.keep _ _ y z; rw [q] at this; cases this
theorem Rel.aside {ρ : Rho} {st : AS} {s s' : Shared} {wr : List Addr} (R : Rel cx ρ st s) (hg : st.gh = []) (k : ∀ b o, b ∉ wr → s.heap.get? b = some o → s'.heap.get? b = some o) (hw : ∀ b ∈ wr, b ∉ cx.env.locals :: foot st.objs ρ) (hw2 : ∀ b ∈ wr, b ∈ cx.mt ∨ cx.h₀.get? b = none)
  (hnt : ∀ b ∈ wr, ∀ vs n, s.heap.get? b ≠ some (tupObj vs n)) (g : s'.gens = s.gens) (os : s'.os = s.os) : Rel cx ρ st s' := by
 have T : TKeep s.heap s'.heap := fun a vs n e => k a _ (fun hm => hnt a hm vs n e) e
 refine ⟨fun b o e hb => k b o (fun hm => ?_) (R.keep b o e hb), ?_, OsRel.keeps T (PKeep.refl _) R.objs fun a ha ob => k a ob fun hm => hw a hm (.tail _ ha), R.nodup, R.own, g.trans R.gens, os.trans R.os, by rw [hg]; exact fun p hp => (nomatch hp), by rw [hg]; exact List.nodup_nil⟩
 ·rcases hw2 b hm with q | q
  ·exact hb q
  ·rw [q] at e; cases e
 ·refine el1_2 R.loc fun m hn hm => ?_
  exact ⟨m, hn.at' fun o e => k _ o (fun hm => hw _ hm (.head _)) e, fun x => (hm x).mono T (PKeep.refl _)⟩
end
noncomputable def BodyEnd (cx' : Cx) (Next Brk : Rho → AS → Prop) (f : Flow) (s' : Shared) : Prop := match f with
 | .next => ∃ ρ' st', Rel cx' ρ' st' s' ∧ st'.gh = [] ∧ Next ρ' st'
 | .cont => ∃ ρ' st', Rel cx' ρ' st' s' ∧ st'.gh = [] ∧ Next ρ' st'
 | .brk => ∃ ρ' st', Rel cx' ρ' st' s' ∧ st'.gh = [] ∧ Brk ρ' st'
 | .ret _ => False
structure Wr (wr : List Addr) (Md : Nat → Value → Heap → Prop) (St : Nat → Heap → Prop) : Prop where
 st : ∀ i h, St i h → ∀ b ∈ wr, ∀ vs n, h.get? b ≠ some (tupObj vs n)
 md : ∀ i v h, Md i v h → ∀ b ∈ wr, ∀ vs n, h.get? b ≠ some (tupObj vs n)
 live : ∀ i h, St i h → ∀ b ∈ wr, h.get? b ≠ none
theorem forK {cx : Cx} {A : Around} (C : CxOk cx) {target : Expr} {I : Addr} {fp wr : List Addr} {n : Nat} {P Md : Nat → Value → Heap → Prop} {St : Nat → Heap → Prop} (W : KTurns cx.prog cx.w A target I fp wr n P Md St) (Ww : Wr wr Md St)
  {body orelse : List Stmt} (Inv : Nat → Rho → AS → Prop) (Out : Rho → AS → Prop)
  {s₀ : Shared} (turn : ∀ i v ρ st s (E : Value → Shared → Prop), i < n → TKeep s₀.heap s.heap → P i v s.heap → Inv i ρ st → CxOk (cx.now s.heap st.objs ρ) → Rel (cx.now s.heap st.objs ρ) ρ st s → st.gh = [] →
   wpAny (model cx.prog cx.w) A (assign target cx.env v) (fun _ s₂ => wpAny (model cx.prog cx.w) A (execs body cx.env) (BodyEnd (cx.now s.heap st.objs ρ) (Inv (i + 1)) Out) E s₂) E s)
  (fin : ∀ ρ st s (E : Value → Shared → Prop), Inv n ρ st → CxOk (cx.now s.heap st.objs ρ) → Rel (cx.now s.heap st.objs ρ) ρ st s → st.gh = [] → wpAny (model cx.prog cx.w) A (execs orelse cx.env) (fun f s' => f = .next ∧ ∃ ρ' st', Rel (cx.now s.heap st.objs ρ) ρ' st' s' ∧ st'.gh = [] ∧ Out ρ' st') E s)
  {ρ : Rho} {st : AS} {Q : Flow → Shared → Prop} {EE : Value → Shared → Prop} (h0 : Inv 0 ρ st) (hg : st.gh = []) (R : Rel cx ρ st s₀) (hst : St 0 s₀.heap) (hfp : ∀ b ∈ fp, b ∉ cx.env.locals :: foot st.objs ρ ∧ s₀.heap.get? b ≠ none) (hwr : ∀ b ∈ wr, b ∈ cx.mt ∨ cx.h₀.get? b = none)
  (k : ∀ ρ' st' s', TKeep s₀.heap s'.heap → Rel cx ρ' st' s' → st'.gh = [] → Out ρ' st' → Q .next s') :
  codeAny (model cx.prog cx.w) A (.forLoop target (.ref I) body orelse cx.env) (fun r s' => match r with | .ok f => Q f s' | .error e => EE e s') s₀ := by
 refine codeAny_forLoop_any (fun m s' => ∃ i ρ' st', i + m = n ∧ TKeep s₀.heap s'.heap ∧ Rel cx ρ' st' s' ∧ st'.gh = [] ∧ Inv i ρ' st' ∧ St i s'.heap ∧ ∀ b ∈ fp, b ∉ cx.env.locals :: foot st'.objs ρ' ∧ s'.heap.get? b ≠ none) (fun m s' hI => ?_) n ⟨0, ρ, st, by lia, TKeep.refl _, R, hg, h0, hst, hfp⟩
 obtain ⟨i, ρ', st', him, t, R', hg', hi, hst', hfp'⟩ := hI
 have back : ∀ {s₁ : Shared} {R₁ : Rel cx ρ' st' s₁} {ρ₃ : Rho} {st₃ : AS} {s₃ : Shared}, (∀ b ∈ fp, s₁.heap.get? b ≠ none) → Rel (cx.now s₁.heap st'.objs ρ') ρ₃ st₃ s₃ → ∀ b ∈ fp, b ∉ cx.env.locals :: foot st₃.objs ρ₃ ∧ s₃.heap.get? b ≠ none ∧ ∀ o, s₁.heap.get? b = some o → s₃.heap.get? b = some o := by
  intro s₁ R₁ ρ₃ st₃ s₃ hx R₃ b hb
  have kk : ∀ o, s₁.heap.get? b = some o → s₃.heap.get? b = some o := fun o e => R₃.keep b o e (hfp' b hb).1
  refine ⟨fun hm => ?_, ?_, kk⟩
  ·rcases R₃.own b hm with q | q
   ·exact (hfp' b hb).1 q
   ·exact hx b hb q
  ·intro hz
   cases hq : s₁.heap.get? b with
   | none => exact hx b hb hq
   | some o => have := kk o hq; rw [hz] at this; cases this
 have wrf : ∀ b ∈ wr, b ∉ cx.env.locals :: foot st'.objs ρ' := fun b hb => (hfp' b (W.sub b hb)).1
 by_cases hlt : i < n
 ·refine W.item i s' _ _ hlt hst' fun v h₁ tk₁ hMd hk₁ => ?_
  have R₁ : Rel cx ρ' st' { s' with heap := h₁, toks := tk₁ } := R'.aside (s' := { s' with heap := h₁, toks := tk₁ }) hg' hk₁ wrf hwr (Ww.st i _ hst') rfl rfl
  have T₁ : TKeep s'.heap h₁ := fun a vs c e => hk₁ a _ (fun hm => Ww.st i _ hst' a hm vs c e) e
  refine W.go i v { s' with heap := h₁, toks := tk₁ } _ _ hMd fun h₂ hP hst₂ hk₂ => ?_
  have R₂ : Rel cx ρ' st' { s' with heap := h₂, toks := tk₁ } := R₁.aside (s' := { s' with heap := h₂, toks := tk₁ }) hg' hk₂ wrf hwr (Ww.md i v _ hMd) rfl rfl
  have T₂ : TKeep h₁ h₂ := fun a vs c e => hk₂ a _ (fun hm => Ww.md i v _ hMd a hm vs c e) e
  have hx₂ : ∀ b ∈ fp, h₂.get? b ≠ none := by
   intro b hb hz
   by_cases hw : b ∈ wr
   ·exact Ww.live _ _ hst₂ b hw hz
   ·cases hq : s'.heap.get? b with
    | none => exact (hfp' b hb).2 hq
    | some o => have := hk₂ b o hw (hk₁ b o hw hq); rw [hz] at this; cases this
  refine wpAny_mono (turn i v ρ' st' { s' with heap := h₂, toks := tk₁ } _ hlt ((t.trans T₁).trans T₂) hP hi (C.now R₂) (R₂.now hg') hg') (fun _ s₂ h₂' => wpAny_mono h₂' (fun f s₃ h₃ => ?_) fun _ _ e => e) fun _ _ e => e
  cases f with
  | ret v => exact h₃.elim
  | brk =>
   refine el2_3 h₃ fun ρ₃ st₃ R₃ g₃ o₃ => ?_
   exact k ρ₃ st₃ s₃ (((t.trans T₁).trans T₂).trans (now_tkeep R₂ R₃)) (R₂.then R₃ g₃) g₃ o₃
  | next =>
   refine el2_3 h₃ fun ρ₃ st₃ R₃ g₃ o₃ => ?_
   have B := back (R₁ := R₂) hx₂ R₃
   exact ⟨m - 1, by lia, i + 1, ρ₃, st₃, by lia, ((t.trans T₁).trans T₂).trans (now_tkeep R₂ R₃), R₂.then R₃ g₃, g₃, o₃, W.frame _ _ _ hst₂ fun b hb o e => (B b hb).2.2 o e, fun b hb => ⟨(B b hb).1, (B b hb).2.1⟩⟩
  | cont =>
   refine el2_3 h₃ fun ρ₃ st₃ R₃ g₃ o₃ => ?_
   have B := back (R₁ := R₂) hx₂ R₃
   exact ⟨m - 1, by lia, i + 1, ρ₃, st₃, by lia, ((t.trans T₁).trans T₂).trans (now_tkeep R₂ R₃), R₂.then R₃ g₃, g₃, o₃, W.frame _ _ _ hst₂ fun b hb o e => (B b hb).2.2 o e, fun b hb => ⟨(B b hb).1, (B b hb).2.1⟩⟩
 ·have hin : i = n := by lia
  subst hin
  refine W.done s' _ _ hst' fun h₁ tk₁ hk₁ => ?_
  have R₁ : Rel cx ρ' st' { s' with heap := h₁, toks := tk₁ } := R'.aside (s' := { s' with heap := h₁, toks := tk₁ }) hg' hk₁ wrf hwr (Ww.st i _ hst') rfl rfl
  have T₁ : TKeep s'.heap h₁ := fun a vs c e => hk₁ a _ (fun hm => Ww.st i _ hst' a hm vs c e) e
  refine wpAny_mono (fin ρ' st' { s' with heap := h₁, toks := tk₁ } _ hi (C.now R₁) (R₁.now hg') hg') (fun f s₃ h₃ => ?_) fun _ _ e => e
  obtain ⟨rfl, ρ₃, st₃, R₃, g₃, o₃⟩ := h₃
  exact k ρ₃ st₃ s₃ ((t.trans T₁).trans (now_tkeep R₁ R₃)) (R₁.then R₃ g₃) g₃ o₃
end Mine
end
noncomputable section
namespace Mine
open PySem PySem.W PyProof.Rows PySem.Calls
noncomputable def TurnW (Next Out : AS → Prop) (fl : AF) (st' : AS) : Prop := st'.gh = [] ∧ (match fl with
 | .next => Next st'
 | .cont => Next st'
 | .brk => Out st'
 | _ => False)
noncomputable abbrev TabAll (T : Tab) (cx : Cx) (A : Around) : Prop := ∀ h mt, CxOk (cx.sub h mt cx.env) → TabOk T (cx.sub h mt cx.env) A
noncomputable abbrev VErr (cx : Cx) : Prop := nsIn cx.K mainGlobals "ValueError" = some none ∧ nsIn cx.K builtinsNs "ValueError" = some (some (.type "ValueError"))
theorem forW {cx : Cx} {A : Around} {T : Tab} (C : CxOk cx) (TOa : TabAll T cx A) (hA : A.handled = none) (VE : VErr cx)
  {target : Expr} {I : Addr} {fp wr : List Addr} {n : Nat} {P Md : Nat → Value → Heap → Prop} {St : Nat → Heap → Prop} (W : KTurns cx.prog cx.w A target I fp wr n P Md St) (Ww : Wr wr Md St)
  (x : Nat → AV) (hx : ∀ i v h, P i v h → cx.K.In h → ∀ ρ, VRel h ρ (x i) v) {N : Nat} {body orelse : List Stmt} (Inv : Nat → AS → Prop) (Out : AS → Prop)
  (turn : ∀ i st, i < n → Inv i st → st.gh = [] → ∃ ds, asgW T target (x i) { st with dec := ds } fun st => exsW T N body st (TurnW (Inv (i + 1)) Out))
  (fin : ∀ st, Inv n st → st.gh = [] → ∃ ds, exsW T N orelse { st with dec := ds } fun fl st' => fl = .next ∧ st'.gh = [] ∧ Out st')
  {ρ : Rho} {s : Shared} {st : AS} {Q : Flow → Shared → Prop} {EE : Value → Shared → Prop} (h0 : Inv 0 st) (hg : st.gh = []) (R : Rel cx ρ st s) (hst : St 0 s.heap) (hfp : ∀ b ∈ fp, b ∉ cx.env.locals :: foot st.objs ρ ∧ s.heap.get? b ≠ none) (hwr : ∀ b ∈ wr, b ∈ cx.mt ∨ cx.h₀.get? b = none)
  (k : ∀ ρ' st' s', PKeep ρ ρ' → TKeep s.heap s'.heap → Rel cx ρ' st' s' → st'.gh = [] → Out st' → Q .next s') :
  codeAny (model cx.prog cx.w) A (.forLoop target (.ref I) body orelse cx.env) (fun r s' => match r with | .ok f => Q f s' | .error e => EE e s') s := by
 refine forK C W Ww (fun i ρ' st' => PKeep ρ ρ' ∧ Inv i st') (fun ρ' st' => PKeep ρ ρ' ∧ Out st') (fun i v ρ' st' s' E hi _ hP hI C' R' hg' => ?_) (fun ρ' st' s' E hI C' R' hg' => ?_) ⟨PKeep.refl _, h0⟩ hg R hst hfp hwr fun ρ' st' s' t R' g o => k ρ' st' s' o.1 t R' g o.2
 ·obtain ⟨p, hI⟩ := hI
  obtain ⟨ds, w⟩ := turn i st' hi hI hg'
  have TO := TOa s'.heap (cx.env.locals :: foot st'.objs ρ') C'
  obtain ⟨_, exO⟩ := stm_ok C' TO hA VE N
  refine asgW_ok (cx := cx.now s'.heap st'.objs ρ') C' TO hA w R'.dec (hx i v _ hP (Rel.kin (cx := cx.now s'.heap st'.objs ρ') C' R') ρ') fun s₂ st₂ t₂ R₂ w₂ => ?_
  refine exO body _ _ w₂ ρ' s₂ _ _ R₂ (fun ρ₃ s₃ f af st₃ p₃ t₃ R₃ F₃ q₃ => ?_) fun _ _ _ _ _ _ _ _ _ _ _ q => q.2.elim
  obtain ⟨g₃, q₃⟩ := q₃
  cases F₃ with
  | next => exact ⟨ρ₃, st₃, R₃, g₃, p.trans p₃, q₃⟩
  | cont => exact ⟨ρ₃, st₃, R₃, g₃, p.trans p₃, q₃⟩
  | brk => exact ⟨ρ₃, st₃, R₃, g₃, p.trans p₃, q₃⟩
  | ret av v r => exact q₃.elim
 ·obtain ⟨p, hI⟩ := hI
  obtain ⟨ds, w⟩ := fin st' hI hg'
  have TO := TOa s'.heap (cx.env.locals :: foot st'.objs ρ') C'
  obtain ⟨_, exO⟩ := stm_ok C' TO hA VE N
  refine exO orelse _ _ w ρ' s' _ _ R'.dec (fun ρ₃ s₃ f af st₃ p₃ t₃ R₃ F₃ q₃ => ?_) fun _ _ _ _ _ _ _ _ _ _ _ q => by cases q.1
  obtain ⟨rfl, g₃, q₃⟩ := q₃
  obtain rfl := FRel.next_inv F₃
  exact ⟨rfl, ρ₃, st₃, R₃, g₃, p.trans p₃, q₃⟩
theorem rangeSize_one {n : Nat} (h : n < 1000) : Builtin.Range.rangeSize 0 n 1 = n := by
 unfold Builtin.Range.rangeSize
 split <;> simp_all <;> omega
theorem fitsLong {i : Int} (h1 : -1000000 ≤ i) (h2 : i ≤ 1000000) : Builtin.Range.rangeFitsLong i = true := by
 unfold Builtin.Range.rangeFitsLong
 simp only [Bool.and_eq_true, decide_eq_true_eq]
 lia
theorem range_small {n : Nat} (h : n < 1000) : Builtin.Range.small 0 n 1 = true := by
 unfold Builtin.Range.small
 rw [rangeSize_one h, fitsLong (by lia) (by lia), fitsLong (by lia) (by lia), fitsLong (by lia) (by lia)]
 simp only [Bool.true_and, Bool.or_eq_true]
 right
 rw [if_pos (by lia)]
 exact fitsLong (by lia) (by lia)
theorem wr_range {I : Addr} {n : Nat} : Wr [I] (fun i v h => (∃ t, v = .int (0 + (i : Int) * 1) t) ∧ IsRangeIter h I (0 + ((i + 1 : Nat) : Int) * 1) ((n : Int) - ((i + 1 : Nat) : Int)) 1) (fun i h => IsRangeIter h I (0 + ((i : Nat) : Int) * 1) ((n : Int) - (i : Nat)) 1) where
 st i h st b hb vs n' q := by
  rw [List.mem_singleton.mp hb] at q
  rw [st] at q
  have := congrArg (Option.map Obj.data) q
  simp [tupObj] at this
 md i v h m b hb vs n' q := by
  rw [List.mem_singleton.mp hb] at q
  rw [m.2] at q
  have := congrArg (Option.map Obj.data) q
  simp [tupObj] at this
 live i h st b hb q := by
  rw [List.mem_singleton.mp hb] at q
  rw [st] at q; cases q
theorem name_go {x : Str} {p : Pos} {it v : Value} : letOwnedTupleGo (.Name x p) it v = pure () := rfl
theorem for_range {cx : Cx} {A : Around} {T : Tab} (C : CxOk cx) (TOa : TabAll T cx A) (hA : A.handled = none) (VE : VErr cx) {y : Str} {yp rp ap pos : Pos} {n : Nat} {N : Nat} {body orelse : List Stmt} {e : Expr}
  (hn : n < 1000) (hk : cx.env.kindOf "range" = some .globalImplicit) (hgr : (nsIn cx.K mainGlobals "range" = some (some (.type "range")) ∨ (nsIn cx.K mainGlobals "range" = some none ∧ nsIn cx.K builtinsNs "range" = some (some (.type "range")))))
  (Inv : Nat → AS → Prop) (Out : AS → Prop) {ρ : Rho} {s : Shared} {st : AS} {Q : Flow → Shared → Prop} {E : Value → Shared → Prop} (ns : noStar [e] = true)
  (he : ∃ ds, evW T N e { st with dec := ds } fun a st' => (a = .int n ∨ a = .sint n) ∧ Inv 0 st' ∧ st'.gh = [])
  (turn : ∀ i st, i < n → Inv i st → st.gh = [] → ∃ ds, asgW T (.Name y yp) (.int i) { st with dec := ds } fun st => exsW T N body st (TurnW (Inv (i + 1)) Out))
  (fin : ∀ st, Inv n st → st.gh = [] → ∃ ds, exsW T N orelse { st with dec := ds } fun fl st' => fl = .next ∧ st'.gh = [] ∧ Out st')
  (hg : st.gh = []) (R : Rel cx ρ st s)
  (k : ∀ ρ' st' s', PKeep ρ ρ' → TKeep s.heap s'.heap → Rel cx ρ' st' s' → st'.gh = [] → Out st' → Q .next s') :
  wpAny (model cx.prog cx.w) A (exec (.For (.Name y yp) (.Call (.Name "range" rp) [e] [] ap) body orelse pos) cx.env) Q E s := by
 refine wpAny_For ?_ (fun _ => rfl)
 refine Call_name (global_name C R hk (by decide +kernel) hgr ?_)
 refine callWith_ok (K := cx.K) (es := [e]) ns (fun h _ => keeper_plain (fun a q => by cases q) h) ?_
 refine el1_1 he fun ds w => ?_
 have TO : TabOk T cx A := by
  obtain ⟨p1, p2, p3, p4, p5, p6, p7, p8⟩ := cx
  exact TOa p5 p6 C
 refine spliced_more ((all_ok C TO N).1 _ _ _ w ρ s _ _ R.dec fun ρ₁ s₁ v a st₁ p₁ t₁ R₁ V₁ q₁ => ?_) (star_cons (env := cx.env) ns).1
 refine el0_3 q₁ fun ha hI g₁ => ?_
 have hv : ∃ t, v = .int n t := by
  rcases ha with rfl | rfl
  ·w_dflts V₁; exact ⟨_, rfl⟩
  ·w_dflts V₁; exact ⟨_, rfl⟩
 refine el1_1 hv fun tv q0_1 => ?_; subst q0_1
 refine Calls.spliced_nil ⟨R₁.kin C, ?_⟩
 refine call_range_1 ?_
 have k₂ : ∀ b o, s₁.heap.get? b = some o → (s₁.heap.push { cls := .type "range", data := .fields #[.int 0 s₁.toks, .int n tv, .int 1 (s₁.toks + 1)] }).get? b = some o := push_keep
 have R₂ : Rel cx ρ₁ st₁ { s₁ with heap := s₁.heap.push { cls := .type "range", data := .fields #[.int 0 s₁.toks, .int n tv, .int 1 (s₁.toks + 1)] }, toks := s₁.toks + 1 + 1 } := R₁.ext k₂ rfl rfl
 generalize hs₂ : ({ s₁ with heap := s₁.heap.push { cls := .type "range", data := .fields #[.int 0 s₁.toks, .int n tv, .int 1 (s₁.toks + 1)] }, toks := s₁.toks + 1 + 1 } : Shared) = s₂ at R₂
 have hh : s₂.heap = s₁.heap.push { cls := .type "range", data := .fields #[.int 0 s₁.toks, .int n tv, .int 1 (s₁.toks + 1)] } := by rw [← hs₂]
 refine wpAny_pyIter_range (s := s₂) (a := 0) (b := n) (c := 1) (t := s₁.toks) (u := tv) (v := s₁.toks + 1) (by rw [hh]; exact IsRange.new ..) (range_small hn) ?_
 rw [rangeSize_one hn]
 have R₃ : Rel cx ρ₁ st₁ { s₂ with heap := s₂.heap.push { cls := .type "range_iterator", data := .fields #[rawInt 0, rawInt n, rawInt 1] } } := R₂.ext push_keep rfl rfl
 have none₂ := no_get s₂.heap
 have T3 : TKeep s.heap (s₂.heap.push { cls := .type "range_iterator", data := .fields #[rawInt 0, rawInt n, rawInt 1] }) := t₁.trans ((TKeep.of (by rw [hh]; exact k₂)).trans (.of push_keep))
 refine forW C TOa hA VE (KTurns.ofWalks (Walks.range hA s₂.heap.objs.size 0 1 n) fun i v s Q E st q => by rw [name_go]; exact wpAny_pure q) wr_range (fun i => .int i) (fun i v h hP _ ρ => ?_) (N := N) Inv Out turn fin hI g₁ R₃ ?_ ?_ ?_ fun ρ' st' s' p' t' R' g' o' => k ρ' st' s' (p₁.trans p') (T3.trans t') R' g' o'
 ·refine el1_1 hP fun t q0_1 => ?_; subst q0_1
  have e : (0 + (i : Int) * 1) = i := by lia
  rw [e]; exact .int _ _
 ·show Heap.get? _ _ = _
  have e1 : (0 + ((0 : Nat) : Int) * 1) = 0 := by lia
  have e2 : ((n : Int) - ((0 : Nat) : Int)) = n := by lia
  rw [e1, e2]
  exact Heap.get?_push_size _ rfl
 ·intro b hb
  rw [List.mem_singleton.mp hb]
  refine ⟨fun hm => ?_, by rw [Heap.get?_push_size _ rfl]; simp⟩
  rcases List.mem_cons.mp hm with q | q
  ·refine el1_2 R₂.locHere fun ob hob _ => ?_
   rw [← q, none₂] at hob; exact nS hob
  ·refine el1_2 (R₂.objs.here _ q) fun ob hob _ => ?_
   rw [none₂] at hob; exact nS hob
 ·intro b hb
  rw [List.mem_singleton.mp hb]
  by_cases q : s₂.heap.objs.size ∈ cx.mt
  ·exact .inl q
  ·refine .inr ?_
   cases z : cx.h₀.get? s₂.heap.objs.size with
   | none => rfl
   | some o => have := R₂.keep _ _ z q; rw [none₂] at this; exact nS this
end Mine
end
noncomputable section
namespace Mine
open PySem PySem.W PyProof.Rows PySem.Calls
noncomputable def PureEnd (cx' : Cx) (st : AS) (Qa : PostV) (fl : Flow) (s' : Shared) : Prop :=
 ∃ ρ' st' av av' v, Rel cx' ρ' st' s' ∧ plainA av = true ∧ fl = .ret v ∧ VRel s'.heap ρ' av v ∧ Weak av av' ∧ Qa av' st
theorem pureE {cx : Cx} {A : Around} {k : Nat} (C : CxOk cx) (KO : KBase cx.K) (hp : cx.prog = prog0) (Rm : Room A (k + 1)) {f : Addr} {body : List Stmt} {scope : Scope} {ns : List Str} {avs avs' : List AV} {st : AS} {Qa : PostV}
  (F : FnAt prog0 cx.w cx.K f body scope ns.length fun vs => ns.zip vs) (nd : ns.Nodup)
  (ha : ∀ h ρ vs, VRels h ρ avs vs → VRels h [] avs' vs) (hl' : ns.length = avs'.length)
  (w : ∀ (s : Shared) env s₁ (E : Value → Shared → Prop), EnvOk env scope s.heap.objs.size → CxOk (cx.sub s.heap [] env) → Room (A.deeper env) k → Rel (cx.sub s.heap [] env) [] { loc := ns.zip avs', objs := [], dec := [] } s₁ →
   wpAny (model cx.prog cx.w) (A.deeper env) (execs body env) (PureEnd (cx.sub s.heap [] env) st Qa) E s₁) :
  CallOk cx A (.ref f) avs st Qa := by
 intro ρ s vs R R₀ V kv
 refine enterP C (hp ▸ F) KO.nl (by have := Rm.depth; lia) nd hl' R₀ (ha _ _ _ V) fun env s₁ EO C' R₁ => ?_
 refine wpAny_mono (w s env s₁ _ EO C' (Rm.deeper env) R₁) (fun fl s' q => ?_) fun _ _ x => x
 obtain ⟨ρ', st', av, av', v, R', pa, rfl, r, wk, q⟩ := q
 refine el0_2 (backP R₀ R') fun Rb kb => ?_
 refine kv ρ s' v av' st (PKeep.refl _) (.of kb) Rb (wk.rel ?_) q
 cases r <;> first | exact .none | exact .bool _ | exact .sym _ | exact .int _ _ | exact .sint _ _ | exact .str _ _ | exact .sstr _ _ | cases pa
theorem plainOne {a c : AV} (ha : Weak a c) (pc : plainA c = true) : ∀ (h : Heap) (ρ : Rho) (vs : List Value), VRels h ρ [a] vs → VRels h [] [c] vs := by
 intro h ρ vs V
 refine el2_3 V.cons_inv fun v _ q0_2 r rs => ?_; subst q0_2
 w_dflts rs
 refine .cons _ _ _ _ ?_ .nil
 have := ha.rel r
 cases this <;> first | exact .none | exact .bool _ | exact .sym _ | exact .int _ _ | exact .sint _ _ | exact .str _ _ | exact .sstr _ _ | cases pc
theorem inStr_of {x : Str} {i : Int} (h1 : 0 ≤ i) (h2 : i < x.length) (h3 : x.length < 1000) : InStr x i := by
 refine ⟨by lia, by lia, ?_⟩
 have : seqIndex? i x.length = some i.toNat := by
  unfold seqIndex?
  have hn : ¬ i < 0 := by lia
  simp only [hn, if_false]
  rw [if_pos (by simp only [Bool.and_eq_true, decide_eq_true_eq]; lia)]
 rw [this]
 show (x.cps[i.toNat]?).isSome = true
 have : i.toNat < x.cps.size := by have : x.length = x.cps.size := rfl; lia
 rw [Array.getElem?_eq_getElem this]; rfl
theorem chrAt_len (x : Str) (i : Int) : (chrAt x i).length = 1 := rfl
theorem mul_ok {a b : Int} (h : Builtin.Int.intBits b ≤ 64) : IntMulOk a b := IntMulOk.of_right h
theorem sz_le {n : Nat} (h : n ≤ 1000000) : n ≤ sizeLine := by rw [sizeLine_eq]; lia
noncomputable def smNone (_ : Value) (_ : List AV) (_ : AS) (_ : PostV) : Prop := False
noncomputable def tSg : Tab := tabN (scopeOf dSigns) [] smNone noSp
noncomputable def sgFor : Expr × List Stmt × Pos × Pos × Pos × Pos := match (bodyOf dSigns).drop 1 with
 | .For (.Name _ p0) (.Call (.Name _ p1) [e] _ p2) b _ p3 :: _ => (e, b, p0, p1, p2, p3)
 | _ => default
noncomputable def sgBody := sgFor.2.1
noncomputable def sgHead := (bodyOf dSigns).take 1
noncomputable def sgTail := (bodyOf dSigns).drop 2
theorem sg_split : bodyOf dSigns = sgHead ++ (.For (.Name "place" sgFor.2.2.1) (.Call (.Name "range" sgFor.2.2.2.1) [sgFor.1] [] sgFor.2.2.2.2.1) sgBody [] sgFor.2.2.2.2.2 :: sgTail) := by kernel_rfl
noncomputable def fig (m p : Int) : Int := (m.fdiv (8 ^ (2 - p).toNat)).fmod 8
noncomputable def abv (m p : Int) : Int := (m.fdiv (2 ^ (11 - p).toNat)).fmod 2
noncomputable def tri (m p : Int) : Str := chrAt "-r" ((fig m p).fdiv 4) ++ chrAt "-w" (((fig m p).fdiv 2).fmod 2) ++ chrAt "-xSs-xTt" (p.fdiv 2 * 4 + abv m p * 2 + (fig m p).fmod 2)
noncomputable def kindCh (m : Int) : Str := chrAt "?pc?d?b?-?l?s???" (m.fdiv 4096)
noncomputable def sgText (m : Int) : Nat → Str
 | 0 => kindCh m
 | n + 1 => sgText m n ++ tri m n
noncomputable def sgOk (m p : Int) (t : Str) : Prop := InStr "-r" ((fig m p).fdiv 4) ∧ InStr "-w" (((fig m p).fdiv 2).fmod 2) ∧ (chrAt "-r" ((fig m p).fdiv 4)).length + (chrAt "-w" (((fig m p).fdiv 2).fmod 2)).length ≤ sizeLine ∧ IntMulOk (p.fdiv 2) 4 ∧ IntMulOk (abv m p) 2 ∧
 InStr "-xSs-xTt" (p.fdiv 2 * 4 + abv m p * 2 + (fig m p).fmod 2) ∧ (chrAt "-r" ((fig m p).fdiv 4) ++ chrAt "-w" (((fig m p).fdiv 2).fmod 2)).length + (chrAt "-xSs-xTt" (p.fdiv 2 * 4 + abv m p * 2 + (fig m p).fmod 2)).length ≤ sizeLine ∧ t.length + (tri m p).length ≤ sizeLine
noncomputable def sgLoc (m : Int) (t : Str) (more : List (Str × AV)) : AS := { loc := ("mode", .sint m) :: ("text", .sstr t) :: more, objs := [], dec := [] }
noncomputable def sgMore (p f a : Int) : List (Str × AV) := [("place", .int p), ("figure", .sint f), ("above", .sint a)]
theorem run_sg_head (m : Int) (P : PostF) : exsW tSg 30 sgHead { loc := (nm ["mode"]).zip [.sint m], objs := [], dec := [] } P = (InStr "?pc?d?b?-?l?s???" (m.fdiv 4096) ∧ P .next (sgLoc m (kindCh m) [])) := by kernel_rfl
theorem run_sg_0 (m : Int) (t : Str) (P : PostF) : asgW tSg (.Name "place" sgFor.2.2.1) (.int (0 : Nat)) (sgLoc m t []) (fun st => exsW tSg 30 sgBody st P) = (InStr "-r" ((fig m 0).fdiv 4) ∧ InStr "-w" (((fig m 0).fdiv 2).fmod 2) ∧ (chrAt "-r" ((fig m 0).fdiv 4)).length + (chrAt "-w" (((fig m 0).fdiv 2).fmod 2)).length ≤ sizeLine ∧ IntMulOk ((0 : Int).fdiv 2) 4 ∧ IntMulOk (abv m 0) 2 ∧
 InStr "-xSs-xTt" ((0 : Int).fdiv 2 * 4 + abv m 0 * 2 + (fig m 0).fmod 2) ∧ (chrAt "-r" ((fig m 0).fdiv 4) ++ chrAt "-w" (((fig m 0).fdiv 2).fmod 2)).length + (chrAt "-xSs-xTt" ((0 : Int).fdiv 2 * 4 + abv m 0 * 2 + (fig m 0).fmod 2)).length ≤ sizeLine ∧ t.length + (tri m 0).length ≤ sizeLine ∧
 P .next (sgLoc m (t ++ tri m 0) (sgMore 0 (fig m 0) (abv m 0)))) := by kernel_rfl
theorem run_sg_1 (m : Int) (t : Str) (p0 f0 a0 : Int) (P : PostF) : asgW tSg (.Name "place" sgFor.2.2.1) (.int (1 : Nat)) (sgLoc m t (sgMore p0 f0 a0)) (fun st => exsW tSg 30 sgBody st P) = (InStr "-r" ((fig m 1).fdiv 4) ∧ InStr "-w" (((fig m 1).fdiv 2).fmod 2) ∧ (chrAt "-r" ((fig m 1).fdiv 4)).length + (chrAt "-w" (((fig m 1).fdiv 2).fmod 2)).length ≤ sizeLine ∧ IntMulOk ((1 : Int).fdiv 2) 4 ∧ IntMulOk (abv m 1) 2 ∧
 InStr "-xSs-xTt" ((1 : Int).fdiv 2 * 4 + abv m 1 * 2 + (fig m 1).fmod 2) ∧ (chrAt "-r" ((fig m 1).fdiv 4) ++ chrAt "-w" (((fig m 1).fdiv 2).fmod 2)).length + (chrAt "-xSs-xTt" ((1 : Int).fdiv 2 * 4 + abv m 1 * 2 + (fig m 1).fmod 2)).length ≤ sizeLine ∧ t.length + (tri m 1).length ≤ sizeLine ∧
 P .next (sgLoc m (t ++ tri m 1) (sgMore 1 (fig m 1) (abv m 1)))) := by kernel_rfl
theorem run_sg_2 (m : Int) (t : Str) (p0 f0 a0 : Int) (P : PostF) : asgW tSg (.Name "place" sgFor.2.2.1) (.int (2 : Nat)) (sgLoc m t (sgMore p0 f0 a0)) (fun st => exsW tSg 30 sgBody st P) = (InStr "-r" ((fig m 2).fdiv 4) ∧ InStr "-w" (((fig m 2).fdiv 2).fmod 2) ∧ (chrAt "-r" ((fig m 2).fdiv 4)).length + (chrAt "-w" (((fig m 2).fdiv 2).fmod 2)).length ≤ sizeLine ∧ IntMulOk ((2 : Int).fdiv 2) 4 ∧ IntMulOk (abv m 2) 2 ∧
 InStr "-xSs-xTt" ((2 : Int).fdiv 2 * 4 + abv m 2 * 2 + (fig m 2).fmod 2) ∧ (chrAt "-r" ((fig m 2).fdiv 4) ++ chrAt "-w" (((fig m 2).fdiv 2).fmod 2)).length + (chrAt "-xSs-xTt" ((2 : Int).fdiv 2 * 4 + abv m 2 * 2 + (fig m 2).fmod 2)).length ≤ sizeLine ∧ t.length + (tri m 2).length ≤ sizeLine ∧
 P .next (sgLoc m (t ++ tri m 2) (sgMore 2 (fig m 2) (abv m 2)))) := by kernel_rfl
theorem run_sg_tail (m : Int) (t : Str) (more : List (Str × AV)) (P : PostF) : exsW tSg 30 sgTail (sgLoc m t more) P = P (.ret (.sstr t)) (sgLoc m t more) := by kernel_rfl
theorem run_sg_3 (st : AS) (P : PostV) : evW tSg 30 sgFor.1 st P = P (.int 3) st := by kernel_rfl
theorem fig_bd (m p : Int) : 0 ≤ fig m p ∧ fig m p < 8 := by
 unfold fig
 rw [Int.fmod_eq_emod_of_nonneg _ (by decide)]
 omega
theorem abv_bd (m p : Int) : 0 ≤ abv m p ∧ abv m p < 2 := by
 unfold abv
 rw [Int.fmod_eq_emod_of_nonneg _ (by decide)]
 omega
theorem tri_len (m p : Int) : (tri m p).length = 3 := by
 unfold tri
 simp only [Str.length_append, Str.length_append, chrAt_len, chrAt_len, chrAt_len]
theorem sgText_len (m : Int) (n : Nat) : (sgText m n).length = 1 + 3 * n := by
 induction n with
 | zero => rfl
 | succ n ih => simp only [sgText, Str.length_append, ih, tri_len]; lia
theorem sg_ok {m p : Int} {t : Str} (hp : 0 ≤ p) (hp2 : p ≤ 2) (ht : t.length ≤ 1000) : sgOk m p t := by
 refine el0_2 (fig_bd m p) fun f1 f2 => ?_
 refine el0_2 (abv_bd m p) fun a1 a2 => ?_
 have e1 : (fig m p).fdiv 4 = (fig m p) / 4 := Int.fdiv_eq_ediv_of_nonneg _ (by decide)
 have e2 : (fig m p).fdiv 2 = (fig m p) / 2 := Int.fdiv_eq_ediv_of_nonneg _ (by decide)
 have e3 : ((fig m p) / 2).fmod 2 = ((fig m p) / 2) % 2 := Int.fmod_eq_emod_of_nonneg _ (by decide)
 have e4 : (fig m p).fmod 2 = (fig m p) % 2 := Int.fmod_eq_emod_of_nonneg _ (by decide)
 have e5 : p.fdiv 2 = p / 2 := Int.fdiv_eq_ediv_of_nonneg _ (by decide)
 have l1 : (Str.ofString "-r").length = 2 := by decide +kernel
 have l2 : (Str.ofString "-w").length = 2 := by decide +kernel
 have l3 : (Str.ofString "-xSs-xTt").length = 8 := by decide +kernel
 unfold sgOk
 refine ⟨inStr_of ?_ ?_ ?_, inStr_of ?_ ?_ ?_, sz_le ?_, mul_ok (by decide), mul_ok (by decide), inStr_of ?_ ?_ ?_, sz_le ?_, sz_le ?_⟩
 all_goals first | (rw [tri_len]; lia) | (simp only [chrAt_len, Str.length_append]; lia) | (simp only [e1, e2, e3, e4, e5, l1, l2, l3]; lia)
noncomputable def sgOut (m : Int) : Str := sgText m 3
theorem signs_ok {cx : Cx} {A : Around} {k : Nat} (G : Gd2 cx A (k + 1)) {m : Int} (h0 : 0 ≤ m) (h1 : m < 65536) {a : AV} (ha : a = .int m ∨ a = .sint m) {st : AS} {Qa : PostV} (q : Qa (.sstr (sgOut m)) st) : CallOk cx A (.ref 805) [a] st Qa := by
 have wk : Weak a (.sint m) := by
  rcases ha with rfl | rfl
  ·exact .int _
  ·exact .same _
 refine pureE G.C G.KO.toKBase G.hp G.Rm (ns := nm ["mode"]) (avs' := [.sint m]) G.KO.fSigns (by decide +kernel) (plainOne wk rfl) rfl fun s env s₁ E EO C' Rm R₁ => ?_
 have TOa : TabAll tSg (cx.sub s.heap [] env) (A.deeper env) := fun h mt C1 =>
  tabN_ok (cx := cx.sub h mt env) (A := A.deeper env) G.KO EO.scope (fun p hp => nomatch hp) (fun f avs st Qa w => w.elim) (fun f i st Qa w => w.elim)
 have TO := TOa s.heap [] C'
 have ve : VErr (cx.sub s.heap [] env) := G.KO.ve
 refine el0_2 (stm_ok C' TO Rm.handled ve 30) fun _ exO => ?_
 rw [sg_split]
 refine execs_append ?_
 have b1 : m.fdiv 4096 = m / 4096 := Int.fdiv_eq_ediv_of_nonneg _ (by decide)
 have wh : exsW tSg 30 sgHead { loc := (nm ["mode"]).zip [.sint m], objs := [], dec := [] } (fun fl st' => fl = .next ∧ st' = sgLoc m (kindCh m) []) := by
  rw [run_sg_head]
  refine ⟨inStr_of ?_ ?_ ?_, rfl, rfl⟩
  ·rw [b1]; lia
  ·rw [b1, show (Str.ofString "?pc?d?b?-?l?s???").length = 16 from by decide +kernel]; lia
  ·rw [show (Str.ofString "?pc?d?b?-?l?s???").length = 16 from by decide +kernel]; decide
 refine exO sgHead _ _ wh [] s₁ _ _ R₁ (fun ρ₂ s₂ f af st₂ p₂ t₂ R₂ F₂ q₂ => ?_) fun _ _ _ _ _ _ _ _ _ _ _ q => by cases q.1
 refine el0_2 q₂ fun q0_0 q0_1 => ?_; subst q0_0; subst q0_1
 obtain rfl := FRel.next_inv F₂
 refine wpAny_execs_cons ?_
 have kR : env.kindOf "range" = some .globalImplicit := (TO.kind "range").symm.trans (by kernel_rfl)
 refine for_range C' TOa Rm.handled ve (n := 3) (N := 30) (by decide) kR (G.KO.gl2 ("range", .type "range") (by decide +kernel)).1
  (fun i st' => ∃ more, st' = sgLoc m (sgText m i) more ∧ (i = 0 → more = []) ∧ (i ≠ 0 → ∃ p f a, more = sgMore p f a)) (fun st' => ∃ more, st' = sgLoc m (sgOut m) more) (by kernel_rfl)
  ⟨[], by rw [run_sg_3]; exact ⟨.inl rfl, ⟨[], rfl, fun _ => rfl, fun h => (h rfl).elim⟩, rfl⟩⟩ (fun i st' hi hI _ => ?_) (fun st' hI _ => ?_) rfl R₂ fun ρ' st' s' p' t' R' g' o' => ?_
 ·refine el1_3 hI fun more q0_1 m0 m1 => ?_; subst q0_1
  refine ⟨[], ?_⟩
  have hl := sgText_len m i
  show asgW tSg _ _ (sgLoc m (sgText m i) more) _
  have hi' : i = 0 ∨ i = 1 ∨ i = 2 := by lia
  rcases hi' with rfl | rfl | rfl
  ·rw [m0 rfl, run_sg_0]
   refine el0_8 (sg_ok (m := m) (p := 0) (t := sgText m 0) (by decide) (by decide) (by lia)) fun x1 x2 x3 x4 x5 x6 x7 x8 => ?_
   exact ⟨x1, x2, x3, x4, x5, x6, x7, x8, rfl, _, rfl, (fun h => (nomatch h)), (fun _ => ⟨_, _, _, rfl⟩)⟩
  ·refine el3_1 (m1 (by decide)) fun p f a q0_3 => ?_; subst q0_3
   rw [run_sg_1]
   refine el0_8 (sg_ok (m := m) (p := 1) (t := sgText m 1) (by decide) (by decide) (by lia)) fun x1 x2 x3 x4 x5 x6 x7 x8 => ?_
   exact ⟨x1, x2, x3, x4, x5, x6, x7, x8, rfl, _, rfl, (fun h => (nomatch h)), (fun _ => ⟨_, _, _, rfl⟩)⟩
  ·refine el3_1 (m1 (by decide)) fun p f a q0_3 => ?_; subst q0_3
   rw [run_sg_2]
   refine el0_8 (sg_ok (m := m) (p := 2) (t := sgText m 2) (by decide) (by decide) (by lia)) fun x1 x2 x3 x4 x5 x6 x7 x8 => ?_
   exact ⟨x1, x2, x3, x4, x5, x6, x7, x8, rfl, _, rfl, (fun h => (nomatch h)), (fun _ => ⟨_, _, _, rfl⟩)⟩
 ·refine el1_2 hI fun more q0_1 _ => ?_; subst q0_1
  exact ⟨[], rfl, rfl, more, rfl⟩
 ·refine el1_1 o' fun more q0_1 => ?_; subst q0_1
  have wt : exsW tSg 30 sgTail (sgLoc m (sgOut m) more) (fun fl st' => fl = .ret (.sstr (sgOut m)) ∧ st' = sgLoc m (sgOut m) more) := by rw [run_sg_tail]; exact ⟨rfl, rfl⟩
  refine exO sgTail _ _ wt ρ' s' _ _ R' (fun ρ₃ s₃ f af st₃ p₃ t₃ R₃ F₃ q₃ => ?_) fun _ _ _ _ _ _ _ _ _ _ _ q => by cases q.1
  refine el0_2 q₃ fun q0_0 q0_1 => ?_; subst q0_0; subst q0_1
  obtain ⟨_, rfl, _⟩ := FRel.ret_inv F₃
  rename_i v r
  exact ⟨ρ₃, _, _, _, v, R₃, rfl, rfl, r, .same _, q⟩
end Mine
end
noncomputable section
namespace Mine
open PySem PySem.W PyProof.Rows PySem.Calls
open AutoSeq1 (wpAny_loadPart')
theorem enum_newT (l : Addr) (items : Array Value) (n : Nat) (dct : Option Addr) (sl : Array (Option Value)) :
  Meets (Builtin.«enumerate.__new__» ⟨[.type "enumerate", .ref l], []⟩) (fun _ R s => s.heap.get? l = some { cls := .type "tuple", dict := dct, data := .seq items n, slots := sl } ∧
   R (.ok (.ret (.ref (s.heap.push { cls := .type "tuple_iterator", data := .fields #[.ref l, .int 0 0] }).objs.size)))
    { s with heap := (s.heap.push { cls := .type "tuple_iterator", data := .fields #[.ref l, .int 0 0] }).push { cls := .type "enumerate", data := .fields #[.none, .bool false, .ref s.heap.objs.size, rawInt 0, .none, .none] } }) :=
 .of_wp fun prog w A R s h => by
  obtain ⟨hp, g, d, tk, os⟩ := s; obtain ⟨hl, h⟩ := h
  have hsub := sub_enumerate
  have hL : Heap.IsTuple (Shared.heap ⟨hp, g, d, tk, os⟩) l items := ⟨_, hl, rfl, n, rfl⟩
  wp_walk using wpAny_loadPart' hl
  refine wpAny_stack_any fun st => wpAny_pure ?_
  split
  ·rename_i c _ _ _ _ _
   cases (c == Value.type "enumerate")
   ·wp_walk using wpAny_loadPart' hl, wpAny_pyIter_tuple hL
    exact ⟨_, rfl, h⟩
   ·wp_walk using wpAny_loadPart' hl, wpAny_pyIter_tuple hL
    exact ⟨_, rfl, h⟩
  ·wp_walk using wpAny_loadPart' hl, wpAny_pyIter_tuple hL
   exact ⟨_, rfl, h⟩
section
variable {prog : Program} {w : World} {A : Around} {E : Value → Shared → Prop} {s : Shared}
theorem next_tup_item {it t : Addr} {i : Nat} {items} {x : Value} {Q : Value → Shared → Prop} (hit : s.heap.IsTupleIter it t i) (ht : s.heap.IsTuple t items) (hx : items[i]? = some x)
  (hQ : ∀ h', h'.IsTupleIter it t (i + 1) → Heap.SameBut it s.heap h' → Q x { s with heap := h' }) : wpAny (model prog w) A (Builtin.SmallTypes.nextOf (.ref it)) Q E s := by
 obtain ⟨o, ho, hc, hd⟩ := id hit
 obtain ⟨ol, hol, _, nl, hdl⟩ := ht
 unfold Builtin.SmallTypes.nextOf
 refine wpAny_bind (wpAny_callSpecial?_slot (name := Str.ofString "__next__") hit.typeIs F.slot_tuple_iterator_next
  (wpAny_call_entry F.slot_tuple_iterator_next hit.typeIs F.entry_tuple_iterator_next ?_ (F.args_tuple_iterator_next_1 _)))
 show wpAny _ _ (field (.ref it) 0 >>= _) _ _ s
 refine wpAny_bind (wpAny_field ho hd (x := .ref t) rfl ?_)
 show wpAny _ _ (if (Value.ref t == Value.none) = true then _ else _) _ _ s
 rw [if_neg (show ¬ ((Value.ref t == Value.none) = true) from Bool.false_ne_true)]
 show wpAny _ _ (field (.ref it) 1 >>= _) _ _ s
 refine wpAny_bind (wpAny_field ho hd (x := .int i 0) rfl ?_)
 show wpAny _ _ (seqItems? (.ref t) >>= _) _ _ s
 refine wpAny_bind (wpAny_seqItems hol hdl ?_)
 simp only [Int.toNat_natCast, hx]
 refine wpAny_bind (wpAny_setField ho hd (by simp) (wpAny_pure ⟨x, rfl, wpAny_pure (hQ _ ?_ (Heap.SameBut.update ..))⟩))
 exact ⟨_, Heap.get?_update_self _ ho (Obj.isFreed_of_fields (Obj.data_mapFields hd _)), (Obj.cls_mapFields ..).trans hc, by
  rw [Obj.data_mapFields hd]; simp [rawInt]⟩
theorem next_tup_end {it t : Addr} {i : Nat} {items} {Q : Value → Shared → Prop} (hh : A.handled = none) (hit : s.heap.IsTupleIter it t i) (ht : s.heap.IsTuple t items) (hx : items[i]? = none)
  (hE : ∀ h' e, Heap.ExtBut it s.heap h' → (∃ o, h'.get? e = some o ∧ o.cls = .type "StopIteration") → E (.ref e) { s with heap := h' }) :
  wpAny (model prog w) A (Builtin.SmallTypes.nextOf (.ref it)) Q E s := by
 obtain ⟨o, ho, hc, hd⟩ := id hit
 obtain ⟨ol, hol, _, nl, hdl⟩ := ht
 unfold Builtin.SmallTypes.nextOf
 refine wpAny_bind (wpAny_callSpecial?_slot (name := Str.ofString "__next__") hit.typeIs F.slot_tuple_iterator_next
  (wpAny_call_entry F.slot_tuple_iterator_next hit.typeIs F.entry_tuple_iterator_next ?_ (F.args_tuple_iterator_next_1 _)))
 show wpAny _ _ (field (.ref it) 0 >>= _) _ _ s
 refine wpAny_bind (wpAny_field ho hd (x := .ref t) rfl ?_)
 show wpAny _ _ (if (Value.ref t == Value.none) = true then _ else _) _ _ s
 rw [if_neg (show ¬ ((Value.ref t == Value.none) = true) from Bool.false_ne_true)]
 show wpAny _ _ (field (.ref it) 1 >>= _) _ _ s
 refine wpAny_bind (wpAny_field ho hd (x := .int i 0) rfl ?_)
 show wpAny _ _ (seqItems? (.ref t) >>= _) _ _ s
 refine wpAny_bind (wpAny_seqItems hol hdl ?_)
 simp only [Int.toNat_natCast, hx]
 refine wpAny_bind (wpAny_rule (wpAny_bind (wpAny_setField ho hd (by simp) ?_)))
 show wpAny _ _ (newExc (.type "StopIteration") [] >>= _) _ _ _
 refine wpAny_bind ?_
 simp only [newExc, newTuple]
 refine wpAny_bind (wpAny_newObj_type ?_ (by size_fits))
 refine wpAny_bind (m := firstArgMember _ _) (wpAny_of_eq (a := Value.none) (by first | rfl | (simp only [firstArgMember]; rfl)) ?_)
 refine wpAny_newObj_type ?_ (by size_fits)
 simp only [raiseNew]
 refine wpAny_bind (wpAny_handled ?_)
 first | rw [show A.in1.handled = none from hh] | rw [hh]
 refine wpAny_bind (wpAny_pure (wpAny_throw ?_))
 exact hE _ _ (((Heap.SameBut.update ..).extBut.push _).push _) ⟨_, Heap.get?_push_size _ rfl, rfl⟩
theorem call_enum_tup {l : Addr} {items : Array Value} {Q : Value → Shared → Prop} (hL : s.heap.IsTuple l items)
  (h : ∀ h', IsEnum h' (s.heap.objs.size + 1) s.heap.objs.size 0 .none → h'.IsTupleIter s.heap.objs.size l 0 → (∀ b o, s.heap.get? b = some o → h'.get? b = some o) → Q (.ref (s.heap.objs.size + 1)) { s with heap := h' }) :
  wpAny (model prog w) A (call (.type "enumerate") [.ref l]) Q E s := by
 obtain ⟨⟨c, dct, dt, sl⟩, hl, hc, n, hd⟩ := hL
 replace hc : c = .type "tuple" := hc
 replace hd : dt = .seq items n := hd
 subst hc hd
 refine callType_new F.called_enumerate (by decide) (F.typeCall_enumerate_1 _) (F.newCall_enumerate_1 _) (fun obj => F.args_object_init_2 obj _) F.entry_enumerate_new
  (enum_newT l items n dct sl) ⟨hl, ?_⟩
 have hz : (s.heap.push { cls := .type "tuple_iterator", data := .fields #[.ref l, .int 0 0] }).objs.size = s.heap.objs.size + 1 := Heap.size_push ..
 show _ ∧ _
 rw [hz]
 have he : IsEnum ((s.heap.push { cls := .type "tuple_iterator", data := .fields #[.ref l, .int 0 0] }).push
   { cls := .type "enumerate", data := .fields #[.none, .bool false, .ref s.heap.objs.size, rawInt 0, .none, .none] }) (s.heap.objs.size + 1) s.heap.objs.size 0 .none := by
  have := Heap.get?_push_size (s.heap.push { cls := .type "tuple_iterator", data := .fields #[.ref l, .int 0 0] })
   (o := { cls := .type "enumerate", data := .fields #[.none, .bool false, .ref s.heap.objs.size, rawInt 0, .none, .none] }) rfl
  rw [hz] at this; exact this
 refine ⟨⟨_, he, rfl⟩, h _ he ⟨_, Heap.get?_push_of_some _ (Heap.get?_push_size _ rfl), rfl, rfl⟩ fun b o x => Heap.get?_push_of_some _ (Heap.get?_push_of_some _ x)⟩
end
theorem draws_tup {prog : Program} {w : World} {A : Around} (hh : A.handled = none) (it l : Addr) (hne : l ≠ it) (items : Array Value) :
  Draws prog w A it [it, l] items.size (fun i v => items[i]? = some v) (fun i h => h.IsTupleIter it l i ∧ h.IsTuple l items) where
 live := fun _ _ st => let ⟨o, ho, _⟩ := st.1; ⟨o, ho⟩
 frame := fun _ _ _ st hk => ⟨st.1.at fun o e => hk it (by simp) o e, st.2.at fun o e => hk l (by simp) o e⟩
 item := fun i s Q E hi st hQ => by
  refine next_tup_item st.1 st.2 (x := items[i]) (by simp [hi]) fun h' hit' hs' => ?_
  exact hQ _ h' s.toks (by simp [hi]) ⟨hit', st.2.extBut hs'.extBut hne⟩ hs'
 done := fun s Q E st hE => next_tup_end hh st.1 st.2 (by simp) hE
end Mine
end
noncomputable section
namespace Mine
open PySem PySem.W PyProof.Rows PySem.Calls
noncomputable def lsAppW (i : Nat) (v : AV) (st : AS) (Q : PostV) : Prop := match st.objs[i]? with
 | some (.list xs) => xs.length ≤ 100000 ∧ Q .none { st with objs := st.objs.set i (.list (xs ++ [v])) }
 | _ => False
noncomputable def joinW (a : AV) (i : Nat) (st : AS) (Q : PostV) : Prop := match isS a, st.objs[i]? with
 | some (sep, _), some (.list xs) => ∃ l : List Str, SmA xs (l.map .sstr) ∧ sep.length ≤ 10 ∧ l.length ≤ 100 ∧ (∀ x ∈ l, x.length ≤ 100) ∧ (Builtin.Str.glued sep l).length ≤ 100000 ∧ Q (.sstr (Builtin.Str.glued sep l)) st
 | _, _ => False
noncomputable def smL (f : Value) (avs : List AV) (st : AS) (Q : PostV) : Prop := match f, avs with
 | .builtin id, [a, b] => (match id == "list.append", id == "str.join", a, b with
  | true, _, .obj i, v => lsAppW i v st Q
  | false, true, a, .obj i => joinW a i st Q
  | _, _, _, _ => False)
 | _, _ => False
theorem ls_at {cx : Cx} {st : AS} {ρ : Rho} {s : Shared} {i : Nat} {xs : List AV} {v : Value} (R : Rel cx ρ st s) (r : VRel s.heap ρ (.obj i) v) (e : st.objs[i]? = some (.list xs)) :
  ∃ a d vs n, v = .ref a ∧ ρ[i]? = some (a, d) ∧ s.heap.get? a = some (lstObj vs n) ∧ VRels s.heap ρ xs vs := by
 cases r with
 | obj i a d q =>
  refine el1_3 (R.objs.get e) fun p e1 e2 e3 => ?_
  have : p = (a, d) := Option.some.inj (e1.symm.trans q)
  subst this
  obtain ⟨vs, n, h1, h2⟩ := e2
  exact ⟨a, d, vs, n, rfl, q, h1, h2⟩
section
variable {cx : Cx} {A : Around} {st : AS} {Qa : PostV}
theorem lsAppW_ok {i : Nat} {x : AV} (w : lsAppW i x st Qa) : SmOk cx A (.builtin "list.append") [.obj i, x] st Qa := by
 intro ρ s vs Q E R V k
 refine el2_3 V.cons_inv fun v _ q0_2 r rs => ?_; subst q0_2
 obtain ⟨u, _, rfl, r', rs⟩ := rs.cons_inv
 w_dflts rs
 unfold lsAppW at w
 split at w
 ·rename_i xs q
  refine el0_2 w fun hz w => ?_
  refine el4_4 (ls_at R r q) fun a d ds n q0_4 hp h1 h2 => ?_; subst q0_4
  have hl := h2.length
  refine wpAny_list_append_plain (items := ds.toArray) ⟨n, h1⟩ (fun h' ⟨n', g⟩ sb => ?_) (by rw [sizeLine_eq, List.size_toArray]; lia)
  have T : TKeep s.heap h' := .but sb.extBut fun vs n e => by rw [h1] at e; simp [tupObj] at e
  refine k ρ { s with heap := h' } .none .none _ (PKeep.refl _) T (R.set (s' := { s with heap := h' }) (o' := .list (xs ++ [x])) q hp (x := a) (by simp [fp]) rfl sb.extBut (fun T => ⟨ds ++ [u], n', ?_, ?_⟩) rfl rfl) .none w
  ·rw [List.push_toArray] at g; exact g
  ·exact VRels.append (h2.mono T (PKeep.refl _)) (.cons _ _ _ _ (r'.mono T (PKeep.refl _)) .nil)
 ·exact w.elim
theorem strs_of {h : Heap} {ρ : Rho} : ∀ {l : List Str} {vs : List Value}, VRels h ρ (l.map .sstr) vs → ∃ ps : List (Str × Tok), vs = strValues ps ∧ ps.map (·.1) = l
 | [], _, .nil => ⟨[], rfl, rfl⟩
 | x :: l, _, .cons _ v _ vs r rs => by
  refine el1_2 (strs_of rs) fun ps e e2 => ?_
  cases r with
  | sstr _ t => exact ⟨(x, t) :: ps, by rw [e]; rfl, by simp [e2]⟩
theorem join_bound : ∀ (l : List Str) (k m : Nat), (∀ x ∈ l, x.length ≤ 100) → k ≤ 10 → l.foldl (fun a x => a + x.length + k) m ≤ m + 110 * l.length
 | [], k, m, _, _ => by simp
 | x :: l, k, m, h, hk => by
  have := join_bound l k (m + x.length + k) (fun y hy => h y (.tail _ hy)) hk
  have := h x (.head _)
  simp only [List.foldl_cons, List.length_cons]
  lia
theorem joinW_ok {a : AV} {i : Nat} (w : joinW a i st Qa) : SmOk cx A (.builtin "str.join") [a, .obj i] st Qa := by
 intro ρ s vs Q E R V k
 obtain ⟨va, _, rfl, ra, V⟩ := V.cons_inv
 obtain ⟨vb, _, rfl, rb, V⟩ := V.cons_inv
 obtain rfl := V.nil_inv
 unfold joinW at w
 split at w
 ·rename_i sep p xs ea q
  refine el1_6 w fun l sm z1 z2 z3 z4 w => ?_
  refine el1_1 (isS_rel ea ra) fun t1 q0_1 => ?_; subst q0_1
  refine el4_4 (ls_at R rb q) fun b d ds n q0_4 hp h1 h2 => ?_; subst q0_4
  refine el1_2 (strs_of (sm.rel h2)) fun ps q0_1 q0_2 => ?_; subst q0_1; subst q0_2
  have hlong : Builtin.Str.tooLong ((ps.map (·.1)).toArray.foldl (·+ ·.length + sep.length) 0) = false := by
   unfold Builtin.Str.tooLong
   simp only [List.foldl_toArray, sizeLine_eq]
   have := join_bound (ps.map (·.1)) sep.length 0 z3 z1
   have hl2 : (ps.map (·.1)).length ≤ 100 := z2
   simp only [gt_iff_lt, decide_eq_false_iff_not]
   lia
  refine call_meets F.slot_str_join (typeIs_str _ _ _) F.entry_str_join (F.args_str_join_2 _ _) (meets_str_join_list sep t1 b ps hlong) ⟨⟨_, h1, rfl, n, rfl⟩, ?_⟩
  rcases ps with _ | ⟨p0, r⟩
  ·exact ⟨by simp only [sizeLine_eq]; lia, k.here R (.sstr _ _) w⟩
  ·
   rcases r with _ | ⟨p1, r⟩
   ·exact k.here' R (by show VRel _ _ _ (Value.str p0.1 p0.2); exact .sstr _ _) w
   ·exact ⟨by simp only [sizeLine_eq]; lia, k.here R (.sstr _ _) w⟩
 ·exact w.elim
theorem smL_ok {f : Value} {avs : List AV} (w : smL f avs st Qa) : SmOk cx A f avs st Qa := by
 rcases f with ⟨⟩
 all_goals try exact False.elim w
 rcases avs with _ | ⟨a, _ | ⟨b, _ | ⟨c, r⟩⟩⟩
 ·exact False.elim w
 ·exact False.elim w
 ·unfold smL at w
  dsimp only at w
  split at w
  ·rename_i e; rw [eq_of_beq e]; exact lsAppW_ok w
  ·rename_i e; rw [eq_of_beq e]; exact joinW_ok w
  ·exact w.elim
 ·exact False.elim w
end
noncomputable def tIf : Tab := tab0 (scopeOf dIfmt)
theorem run_ifmt (m : Int) (P : PostF) : exsW tIf 20 (bodyOf dIfmt) { loc := (nm ["mode"]).zip [.sint m], objs := [], dec := [] } P = P (.ret (.sint (Builtin.bitAnd m 61440))) { loc := (nm ["mode"]).zip [.sint m], objs := [], dec := [] } := by kernel_rfl
theorem ifmt_ok {cx : Cx} {A : Around} {k : Nat} (G : Gd2 cx A (k + 1)) {m : Int} {st : AS} {Qa : PostV} (q : Qa (.sint (Builtin.bitAnd m 61440)) st) : CallOk cx A (.ref 751) [.sint m] st Qa := by
 refine pureFn G.C G.KO.toKBase G.hp G.Rm (T := tIf) (N := 20) (ns := nm ["mode"]) (ds := []) (avs' := [.sint m]) G.KO.fIfmt (by decide +kernel) rfl ?_ (plainOne (.same _) rfl) rfl ?_
 ·intro cx' A' C' hp' hw' hK' sc' Rm'
  exact tab0_ok sc'
 ·simp only [run_ifmt]
  exact ⟨_, _, rfl, .inl rfl, .same _, q⟩
noncomputable def smFm (f : Value) (avs : List AV) (st : AS) (Q : PostV) : Prop := match f, avs with
 | .ref a, [.sint m] => (match a == 751 with
  | true => Q (.sint (Builtin.bitAnd m 61440)) st
  | false => False)
 | f, avs => smL f avs st Q
noncomputable def bmF : List (Nat × Str × String) := [(1, "append", "list.append"), (0, "join", "str.join")]
theorem pa_list : PlainAttrs "list" := ⟨⟨"list.__getattribute__", by rw [typeLookup_type, builtinLookup_eq_fast]; kernel_rfl, by decide +kernel⟩, by rw [typeLookup_type, builtinLookup_eq_fast]; kernel_rfl⟩
theorem bmF_ok : ∀ p ∈ bmF, BmAt p.1 p.2.1 p.2.2 := by
 intro p hp
 simp only [bmF, List.mem_cons, List.not_mem_nil, or_false] at hp
 rcases hp with rfl | rfl
 ·exact ⟨pa_list, F.slot_list_append, F.type_list_append⟩
 ·exact ⟨F.plainAttrs_str, F.slot_str_join, F.type_str_join⟩
noncomputable def tFm : Tab := tabN (scopeOf dFilemode) bmF smFm noSp
noncomputable def fmFor : List Stmt × List Stmt × Expr × Expr × (Pos × Pos × Pos × Pos) := match (bodyOf dFilemode).drop 1 with
 | .For t1 (.Call (.Name _ p1) [.Name _ p2] _ p3) [.For t2 (.Name _ q1) b2 e2 q2] _ p4 :: _ => (b2, e2, t1, t2, (p1, p2, p3, p4))
 | _ => default
noncomputable def fmIn : Pos × Pos := match (bodyOf dFilemode).drop 1 with
 | .For t1 (.Call (.Name _ p1) [.Name _ p2] _ p3) [.For t2 (.Name _ q1) b2 e2 q2] _ p4 :: _ => (q1, q2)
 | _ => default
noncomputable def fmHead := (bodyOf dFilemode).take 1
noncomputable def fmTail := (bodyOf dFilemode).drop 2
noncomputable def fmT1 : Expr := fmFor.2.2.1
noncomputable def fmT2 : Expr := fmFor.2.2.2.1
noncomputable def fmB : List Stmt := fmFor.1
noncomputable def fmE : List Stmt := fmFor.2.1
noncomputable def fmP : Pos × Pos × Pos × Pos := fmFor.2.2.2.2
theorem fm_split : bodyOf dFilemode = fmHead ++ (.For fmT1 (.Call (.Name "enumerate" fmP.1) [.Name "_filemode_table" fmP.2.1] [] fmP.2.2.1) [.For fmT2 (.Name "table" fmIn.1) fmB fmE fmIn.2] [] fmP.2.2.2 :: fmTail) := by kernel_rfl
noncomputable def fmLoc (m : Int) (more : List (Str × AV)) (xs : List AV) (ds : List Bool) : AS := { loc := ("mode", .sint m) :: ("perm", .obj 0) :: more, objs := [.list xs], dec := ds }
theorem run_fm_head (m : Int) (P : PostF) : exsW tFm 30 fmHead { loc := (nm ["mode"]).zip [.sint m], objs := [], dec := [] } P = P .next (fmLoc m [] [] []) := by kernel_rfl
noncomputable def fmM (i : Int) (tb : Value) (bit : Int) (ch : Str) : List (Str × AV) := [("index", .sint i), ("table", .val tb), ("bit", .sint bit), ("char", .sstr ch)]
noncomputable def fmM0 (i : Int) (tb : Value) : List (Str × AV) := [("index", .sint i), ("table", .val tb)]
theorem run_fm_asg1 (m i : Int) (tb : Value) (bit : Int) (ch : Str) (xs : List AV) (ds : List Bool) (P : AS → Prop) : asgW tFm fmT2 (.tup [.sint bit, .sstr ch]) (fmLoc m (fmM0 i tb) xs ds) P = P (fmLoc m (fmM i tb bit ch) xs ds) := by kernel_rfl
theorem run_fm_asg2 (m i : Int) (tb : Value) (b0 bit : Int) (c0 ch : Str) (xs : List AV) (ds : List Bool) (P : AS → Prop) : asgW tFm fmT2 (.tup [.sint bit, .sstr ch]) (fmLoc m (fmM i tb b0 c0) xs ds) P = P (fmLoc m (fmM i tb bit ch) xs ds) := by kernel_rfl
theorem run_fm_1 (m i : Int) (tb : Value) (bit : Int) (ch : Str) (xs : List AV) (P : PostF) : exsW tFm 30 fmB (fmLoc m (fmM i tb bit ch) xs [true, true]) P =
  ((i == 0) = true ∧ (Builtin.bitAnd m 61440 == bit) = true ∧ xs.length ≤ 100000 ∧ P .brk (fmLoc m (fmM i tb bit ch) (xs ++ [.sstr ch]) [])) := by kernel_rfl
theorem run_fm_2 (m i : Int) (tb : Value) (bit : Int) (ch : Str) (xs : List AV) (P : PostF) : exsW tFm 30 fmB (fmLoc m (fmM i tb bit ch) xs [true, false]) P =
  ((i == 0) = true ∧ (Builtin.bitAnd m 61440 == bit) = false ∧ P .next (fmLoc m (fmM i tb bit ch) xs [])) := by kernel_rfl
theorem run_fm_3 (m i : Int) (tb : Value) (bit : Int) (ch : Str) (xs : List AV) (P : PostF) : exsW tFm 30 fmB (fmLoc m (fmM i tb bit ch) xs [false, true]) P =
  ((i == 0) = false ∧ (Builtin.bitAnd m bit == bit) = true ∧ xs.length ≤ 100000 ∧ P .brk (fmLoc m (fmM i tb bit ch) (xs ++ [.sstr ch]) [])) := by kernel_rfl
theorem run_fm_4 (m i : Int) (tb : Value) (bit : Int) (ch : Str) (xs : List AV) (P : PostF) : exsW tFm 30 fmB (fmLoc m (fmM i tb bit ch) xs [false, false]) P =
  ((i == 0) = false ∧ (Builtin.bitAnd m bit == bit) = false ∧ P .next (fmLoc m (fmM i tb bit ch) xs [])) := by kernel_rfl
theorem run_fm_5 (m i : Int) (tb : Value) (bit : Int) (ch : Str) (xs : List AV) (P : PostF) : exsW tFm 30 fmE (fmLoc m (fmM i tb bit ch) xs [true]) P =
  ((i == 0) = true ∧ xs.length ≤ 100000 ∧ P .next (fmLoc m (fmM i tb bit ch) (xs ++ [.str "?"]) [])) := by kernel_rfl
theorem run_fm_6 (m i : Int) (tb : Value) (bit : Int) (ch : Str) (xs : List AV) (P : PostF) : exsW tFm 30 fmE (fmLoc m (fmM i tb bit ch) xs [false]) P =
  ((i == 0) = false ∧ xs.length ≤ 100000 ∧ P .next (fmLoc m (fmM i tb bit ch) (xs ++ [.str "-"]) [])) := by kernel_rfl
theorem run_fm_tail (m : Int) (more : List (Str × AV)) (xs : List AV) (P : PostF) : exsW tFm 30 fmTail (fmLoc m more xs []) P =
  (∃ l : List Str, SmA xs (l.map .sstr) ∧ (Str.ofString "").length ≤ 10 ∧ l.length ≤ 100 ∧ (∀ x ∈ l, x.length ≤ 100) ∧ (Builtin.Str.glued "" l).length ≤ 100000 ∧ P (.ret (.sstr (Builtin.Str.glued "" l))) (fmLoc m more xs [])) := by kernel_rfl
end Mine
end
noncomputable section
namespace Mine
open PySem PySem.W PyProof.Rows PySem.Calls
noncomputable def fmCond (b : Bool) (m bit : Int) : Bool := if b then Builtin.bitAnd m 61440 == bit else Builtin.bitAnd m bit == bit
noncomputable def fmPick (b : Bool) (m : Int) : List (Addr × Int × Str) → Str
 | [] => if b then "?" else "-"
 | q :: r => if fmCond b m q.2.1 then q.2.2 else fmPick b m r
theorem fmPick_skip {b : Bool} {m : Int} : ∀ {l : List (Addr × Int × Str)} {j : Nat}, (∀ j' q, j' < j → l[j']? = some q → fmCond b m q.2.1 = false) → fmPick b m l = fmPick b m (l.drop j)
 | l, 0, _ => rfl
 | [], j + 1, _ => by simp
 | q :: r, j + 1, h => by
  have h0 := h 0 q (by lia) rfl
  show (if fmCond b m q.2.1 then q.2.2 else fmPick b m r) = fmPick b m (r.drop j)
  rw [h0, if_neg (by decide)]
  exact fmPick_skip fun j' q' hj e => h (j' + 1) q' (by lia) e
theorem tupGo {elts : List Expr} {x1 : Nat} {pos : Pos} {I l : Addr} {i : Nat} {v : Value} {prog : Program} {w : World} {A : Around} {E : Value → Shared → Prop} {s : Shared} {Q : Unit → Shared → Prop} (hit : s.heap.IsTupleIter I l i) (hQ : Q () s) :
  wpAny (model prog w) A (letOwnedTupleGo (.Tuple elts x1 pos) (.ref I) v) Q E s := by
 refine el1_3 hit fun o ho hc hd => ?_
 unfold letOwnedTupleGo
 cases v with
 | ref T =>
  refine wpAny_bind (wpAny_load ho ?_)
  rw [hc, hd]
  show wpAny _ A (if (["enumerate", "zip", "dict_itemiterator", "dict_reverseitemiterator", "odict_iterator", "itertools.zip_longest", "itertools.pairwise"].contains "tuple_iterator" &&
    (#[.ref l, .int i 0] : Array Value)[0]? == some (rawInt T)) = true then _ else _) Q E s
  rw [if_neg (by
   intro h
   rw [show (["enumerate", "zip", "dict_itemiterator", "dict_reverseitemiterator", "odict_iterator", "itertools.zip_longest", "itertools.pairwise"].contains "tuple_iterator") = false from by decide, Bool.false_and] at h
   cases h)]
  exact wpAny_pure hQ
 | _ => exact wpAny_pure hQ
theorem wr_tuple {I ax : Addr} {items : Array Value} : Wr [I] (fun i v h => items[i]? = some v ∧ h.IsTupleIter I ax (i + 1) ∧ h.IsTuple ax items) (fun i h => h.IsTupleIter I ax i ∧ h.IsTuple ax items) where
 st i h st b hb vs n' q := by
  rw [List.mem_singleton.mp hb] at q
  refine el1_3 st.1 fun o ho _ hd => ?_
  rw [ho] at q
  cases q; cases hd
 md i v h m b hb vs n' q := by
  rw [List.mem_singleton.mp hb] at q
  refine el1_3 m.2.1 fun o ho _ hd => ?_
  rw [ho] at q
  cases q; cases hd
 live i h st b hb q := by
  rw [List.mem_singleton.mp hb] at q
  refine el1_2 st.1 fun o ho _ => ?_
  rw [ho] at q; cases q
noncomputable def fmTP : Nat × Pos × Pos × Pos := match fmT2 with
 | .Tuple [.Name _ p1, .Name _ p2] x p3 => (x, p1, p2, p3)
 | _ => default
theorem fmT2_eq : fmT2 = .Tuple [.Name "bit" fmTP.2.1, .Name "char" fmTP.2.2.1] fmTP.1 fmTP.2.2.2 := by kernel_rfl
theorem fresh_place {cx : Cx} {ρ : Rho} {st : AS} {s : Shared} (R : Rel cx ρ st s) {a : Addr} (h : s.heap.get? a = none) : a ∉ cx.env.locals :: foot st.objs ρ ∧ (a ∈ cx.mt ∨ cx.h₀.get? a = none) := by
 refine ⟨fun hm => ?_, ?_⟩
 ·rcases List.mem_cons.mp hm with q | q
  ·refine el1_2 R.locHere fun ob hob _ => ?_
   rw [← q, h] at hob; exact nS hob
  ·refine el1_2 (R.objs.here _ q) fun ob hob _ => ?_
   rw [h] at hob; exact nS hob
 ·by_cases q : a ∈ cx.mt
  ·exact .inl q
  ·refine .inr ?_
   cases z : cx.h₀.get? a with
   | none => rfl
   | some o => have := R.keep _ _ z q; rw [h] at this; cases this
theorem base_place {cx : Cx} (C : CxOk cx) {ρ : Rho} {st : AS} {s : Shared} (R : Rel cx ρ st s) {a : Addr} {o : Obj} (h : cx.K.lookup a = some o) : a ∉ cx.env.locals :: foot st.objs ρ := fun hm => by
 have := own_fresh C R a hm
 rw [C.kin _ _ h] at this; cases this
theorem VRels.getElem {h : Heap} {ρ : Rho} : ∀ {l : List AV} {vs : List Value} {j : Nat} {v : Value}, VRels h ρ l vs → vs[j]? = some v → ∃ a, l[j]? = some a ∧ VRel h ρ a v
 | _, _, j, v, .nil, e => by cases j <;> cases e
 | _, _, 0, v, .cons x _ _ _ r _, e => by cases e; exact ⟨x, rfl, r⟩
 | _, _, j + 1, v, .cons _ _ _ _ _ rs, e => by simpa using VRels.getElem rs (by simpa using e)
theorem fm_inner {cx : Cx} {A : Around} (C : CxOk cx) (TOa : TabAll tFm cx A) (hA : A.handled = none) (VE : VErr cx) (KO : KOk2 cx.w cx.K) {p : Addr × List (Addr × Int × Str)} (hp : p ∈ fmTable) {i : Int} {b : Bool} (hb : (i == 0) = b) {m : Int} {more : List (Str × AV)}
  (hm : more = fmM0 i (.ref p.1) ∨ ∃ b0 c0, more = fmM i (.ref p.1) b0 c0) {xs : List AV} (hxs : xs.length ≤ 1000) {ρ : Rho} {s : Shared} (R : Rel cx ρ (fmLoc m more xs []) s) {Q : Flow → Shared → Prop} {E : Value → Shared → Prop}
  (k : ∀ ρ' s' bit ch, PKeep ρ ρ' → TKeep s.heap s'.heap → Rel cx ρ' (fmLoc m (fmM i (.ref p.1) bit ch) (xs ++ [.sstr (fmPick b m p.2)]) []) s' → Q .next s') :
  wpAny (model cx.prog cx.w) A (exec (.For fmT2 (.Name "table" fmIn.1) fmB fmE fmIn.2) cx.env) Q E s := by
 have TO : TabOk tFm cx A := by
  obtain ⟨p1, p2, p3, p4, p5, p6, p7, p8⟩ := cx
  exact TOa p5 p6 C
 have kT : cx.env.kindOf "table" = some .local := (TO.kind "table").symm.trans (by kernel_rfl)
 refine wpAny_For (local_name C R kT (by decide +kernel) (av := .val (.ref p.1)) ?_ fun v r => ?_) (fun _ => rfl)
 ·rcases hm with rfl | ⟨b0, c0, rfl⟩ <;> kernel_rfl
 ·w_dflts r
  have X := R.kin C
  have hk1 := KO.tab1 p hp
  have hT : s.heap.IsTuple p.1 (p.2.map fun q => Value.ref q.1).toArray := ⟨_, X _ _ hk1, rfl, 0, rfl⟩
  refine wpAny_pyIter_tuple hT ?_
  have ne : p.1 ≠ s.heap.objs.size := fun q => by have := X _ _ hk1; rw [q, no_get] at this; exact nS this
  have R₂ : Rel cx ρ (fmLoc m more xs []) { s with heap := s.heap.push { cls := .type "tuple_iterator", data := .fields #[.ref p.1, .int 0 0] } } := R.ext push_keep rfl rfl
  obtain ⟨f1, f2⟩ := fresh_place R (no_get s.heap)
  have go : ∀ i v (s' : Shared) (Q : Unit → Shared → Prop) (E : Value → Shared → Prop), (s'.heap.IsTupleIter s.heap.objs.size p.1 i ∧ s'.heap.IsTuple p.1 (p.2.map fun q => Value.ref q.1).toArray) → Q () s' → wpAny (model cx.prog cx.w) A (letOwnedTupleGo fmT2 (.ref s.heap.objs.size) v) Q E s' := by
   intro i v s' Q E st q
   rw [fmT2_eq]
   exact tupGo st.1 q
  refine forW C TOa hA VE (KTurns.ofWalks (Walks.tuple hA s.heap.objs.size p.1 ne (p.2.map fun q => Value.ref q.1).toArray) go) wr_tuple (fun j => match p.2[j]? with | some q => .tup [.sint q.2.1, .sstr q.2.2] | none => .none)
   (fun j v h hP X' ρ' => ?_) (N := 30)
   (fun j st' => (∃ more', st' = fmLoc m more' xs [] ∧ (more' = fmM0 i (.ref p.1) ∨ ∃ b0 c0, more' = fmM i (.ref p.1) b0 c0) ∧ (j ≠ 0 → ∃ b0 c0, more' = fmM i (.ref p.1) b0 c0)) ∧ ∀ j' q, j' < j → p.2[j']? = some q → fmCond b m q.2.1 = false)
   (fun st' => ∃ bit ch cav, st' = fmLoc m (fmM i (.ref p.1) bit ch) (xs ++ [cav]) [] ∧ Sm cav (.sstr (fmPick b m p.2)))
   (fun j st' hj hI _ => ?_) (fun st' hI _ => ?_) ⟨⟨more, rfl, hm, fun h => (h rfl).elim⟩, fun j' q h => by lia⟩ rfl R₂ ?_ ?_ ?_ fun ρ' st' s' p' t' R' g' o' => ?_
  ·have hP : (p.2.map fun q => Value.ref q.1).toArray[j]? = some v := hP
   rw [List.getElem?_toArray, List.getElem?_map] at hP
   cases hq : p.2[j]? with
   | none => rw [hq] at hP; cases hP
   | some q =>
    rw [hq] at hP
    cases hP
    obtain ⟨t, u, hk2⟩ := KO.tab2 p hp q (List.mem_of_getElem? hq)
    exact .tup _ _ _ 0 (X' _ _ hk2) (.cons _ _ _ _ (.sint _ _) (.cons _ _ _ _ (.sstr _ _) .nil))
  ·obtain ⟨⟨more', rfl, hm', hm2⟩, hno⟩ := hI
   have hj' : j < p.2.length := by simpa using hj
   have hq := List.getElem?_eq_getElem hj'
   generalize p.2[j] = q at hq
   simp only [hq]
   have skip := fmPick_skip hno
   have hdrop : p.2.drop j = q :: p.2.drop (j + 1) := by
    rw [List.drop_eq_getElem_cons hj']
    have := List.getElem?_eq_getElem hj'
    rw [hq] at this; cases this; rfl
   rw [hdrop] at skip
   have asg : ∀ ds (P : AS → Prop), asgW tFm fmT2 (.tup [.sint q.2.1, .sstr q.2.2]) (fmLoc m more' xs ds) P = P (fmLoc m (fmM i (.ref p.1) q.2.1 q.2.2) xs ds) := by
    intro ds P
    rcases hm' with rfl | ⟨b0, c0, rfl⟩
    ·rw [run_fm_asg1]
    ·rw [run_fm_asg2]
   have hz : xs.length ≤ 100000 := by lia
   cases hc : fmCond b m q.2.1 with
   | true =>
    have e : fmPick b m p.2 = q.2.2 := by rw [skip]; show (if fmCond b m q.2.1 then _ else _) = _; rw [hc, if_pos rfl]
    cases hbb : b with
    | true =>
     refine ⟨[true, true], ?_⟩
     show asgW tFm fmT2 _ (fmLoc m more' xs [true, true]) _
     rw [asg, run_fm_1]
     refine ⟨by rw [hb, hbb], by rw [hbb] at hc; exact hc, hz, rfl, _, _, _, rfl, ?_⟩
     rw [← hbb, e]; exact .same _
    | false =>
     refine ⟨[false, true], ?_⟩
     show asgW tFm fmT2 _ (fmLoc m more' xs [false, true]) _
     rw [asg, run_fm_3]
     refine ⟨by rw [hb, hbb], by rw [hbb] at hc; exact hc, hz, rfl, _, _, _, rfl, ?_⟩
     rw [← hbb, e]; exact .same _
   | false =>
    have hno' : ∀ j' q', j' < j + 1 → p.2[j']? = some q' → fmCond b m q'.2.1 = false := by
     intro j' q' hj2 e
     rcases Nat.lt_succ_iff_lt_or_eq.mp hj2 with h | h
     ·exact hno j' q' h e
     ·subst h
      rw [hq] at e; cases e; exact hc
    cases hbb : b with
    | true =>
     refine ⟨[true, false], ?_⟩
     show asgW tFm fmT2 _ (fmLoc m more' xs [true, false]) _
     rw [asg, run_fm_2]
     refine ⟨by rw [hb, hbb], by rw [hbb] at hc; exact hc, rfl, ⟨_, rfl, .inr ⟨_, _, rfl⟩, fun _ => ⟨_, _, rfl⟩⟩, (fun j' q' h1 h2 => by have := hno' j' q' h1 h2; rw [hbb] at this; exact this)⟩
    | false =>
     refine ⟨[false, false], ?_⟩
     show asgW tFm fmT2 _ (fmLoc m more' xs [false, false]) _
     rw [asg, run_fm_4]
     refine ⟨by rw [hb, hbb], by rw [hbb] at hc; exact hc, rfl, ⟨_, rfl, .inr ⟨_, _, rfl⟩, fun _ => ⟨_, _, rfl⟩⟩, (fun j' q' h1 h2 => by have := hno' j' q' h1 h2; rw [hbb] at this; exact this)⟩
  ·obtain ⟨⟨more', rfl, hm', hm2⟩, hno⟩ := hI
   have hn : (p.2.map fun q => Value.ref q.1).toArray.size = p.2.length := by simp
   have hpos : p.2.length ≠ 0 := by
    have : ∀ p ∈ fmTable, p.2.length ≠ 0 := by decide +kernel
    exact this p hp
   rw [hn] at hm2 hno
   obtain ⟨b0, c0, rfl⟩ := hm2 hpos
   have e : fmPick b m p.2 = if b then ("?" : Str) else ("-" : Str) := by
    rw [fmPick_skip hno, List.drop_length]; rfl
   cases hbb : b with
   | true =>
    refine ⟨[true], ?_⟩
    show exsW tFm 30 fmE (fmLoc m (fmM i (.ref p.1) b0 c0) xs [true]) _
    rw [run_fm_5]
    refine ⟨by rw [hb, hbb], by lia, rfl, rfl, _, _, _, rfl, ?_⟩
    rw [← hbb, e, hbb]; exact .str _
   | false =>
    refine ⟨[false], ?_⟩
    show exsW tFm 30 fmE (fmLoc m (fmM i (.ref p.1) b0 c0) xs [false]) _
    rw [run_fm_6]
    refine ⟨by rw [hb, hbb], by lia, rfl, rfl, _, _, _, rfl, ?_⟩
    rw [← hbb, e, hbb]; exact .str _
  ·exact ⟨⟨_, Heap.get?_push_size _ rfl, rfl, rfl⟩, hT.at fun o e => push_keep _ _ e⟩
  ·intro b' hb'
   rcases List.mem_cons.mp hb' with rfl | hb'
   ·exact ⟨f1, by rw [Heap.get?_push_size _ rfl]; simp⟩
   ·rw [List.mem_singleton.mp hb']
    exact ⟨base_place C R hk1, by rw [push_keep _ _ (X _ _ hk1)]; simp⟩
  ·intro b' hb'
   rw [List.mem_singleton.mp hb']; exact f2
  ·obtain ⟨bit, ch, cav, rfl, sm⟩ := o'
   refine k ρ' s' bit ch p' ((TKeep.of push_keep).trans t') (R'.swap ⟨.refl _, .cons _ _ _ _ (.list _ _ ?_) .nil, rfl⟩)
   have : ∀ l : List AV, SmA (l ++ [cav]) (l ++ [.sstr (fmPick b m p.2)]) := by
    intro l
    induction l with
    | nil => exact .cons _ _ _ _ sm .nil
    | cons a l ih => exact .cons _ _ _ _ (.same _) ih
   exact this xs
end Mine
end
noncomputable section
namespace Mine
open PySem PySem.W PyProof.Rows PySem.Calls
theorem asg_pair {cx : Cx} {A : Around} (C : CxOk cx) (hA : A.handled = none) {E : Value → Shared → Prop} {ρ : Rho} {st : AS} {s : Shared} {y z : Str} {yp zp pos : Pos} {kk : Nat} {T : Addr} {va vb : Value} {a b : AV} {Q : Unit → Shared → Prop}
  (hy : cx.env.kindOf y = some .local) (hz : cx.env.kindOf z = some .local) (ht : s.heap.IsTuple T #[va, vb]) (ra : VRel s.heap ρ a va) (rb : VRel s.heap ρ b vb) (R : Rel cx ρ st s)
  (k : ∀ s', TKeep s.heap s'.heap → Rel cx ρ { st with loc := put (put st.loc y a) z b } s' → Q () s') : wpAny (model cx.prog cx.w) A (assign (.Tuple [.Name y yp, .Name z zp] kk pos) cx.env (.ref T)) Q E s := by
 rw [PyProof.Rows.assign_Tuple]
 refine wpAny_bind (wpAny_standAt ?_)
 show wpAny _ _ (holding [.ref T] (unpackItems (.ref T) 2 none) >>= fun vs => assignInOrder [assign (.Name y yp) cx.env, assign (.Name z zp) cx.env] vs) Q E s
 refine wpAny_bind (wpAny_holding (unpackItems_tuple (items := #[va, vb]) hA ht fun h' he => ?_))
 have keep : ∀ b o, s.heap.get? b = some o → h'.get? b = some o := fun b o e => he b o (Nat.ne_of_lt (Heap.lt_size e)) e
 have R₁ : Rel cx ρ st { s with heap := h' } := R.ext keep rfl rfl
 show wpAny _ _ (holding [vb] (assign (.Name y yp) cx.env va) >>= fun _ => holding [] (assign (.Name z zp) cx.env vb) >>= fun _ => pure ()) Q E _
 refine wpAny_bind (wpAny_holding (wpAny_assign_Name (store_ok C hy R₁ (ra.mono (.of keep) (PKeep.refl _)) fun s₂ t₂ R₂ => ?_)))
 refine wpAny_bind (wpAny_holding (wpAny_assign_Name (store_ok C hz R₂ ((rb.mono (.of keep) (PKeep.refl _)).mono t₂ (PKeep.refl _)) fun s₃ t₃ R₃ => wpAny_pure ?_)))
 exact k s₃ ((TKeep.of keep).trans (t₂.trans t₃)) R₃
noncomputable def fmUP : Nat × Pos × Pos × Pos := match fmT1 with
 | .Tuple [.Name _ p1, .Name _ p2] x p3 => (x, p1, p2, p3)
 | _ => default
theorem fmT1_eq : fmT1 = .Tuple [.Name "index" fmUP.2.1, .Name "table" fmUP.2.2.1] fmUP.1 fmUP.2.2.2 := by kernel_rfl
noncomputable def fmCh (m : Int) (i : Nat) : Str := match fmTable[i]? with
 | some p => fmPick ((i : Int) == 0) m p.2
 | none => ""
noncomputable def fmList (m : Int) (n : Nat) : List Str := (List.range n).map (fmCh m)
theorem fmList_succ (m : Int) (n : Nat) : fmList m (n + 1) = fmList m n ++ [fmCh m n] := by
 unfold fmList
 simp only [List.range_succ, List.map_append]; rfl
theorem wr_enum {e it l : Addr} {items : Array Value} : Wr [e, it]
  (fun i v h => ∃ T vals, v = .ref T ∧ (∃ t x, items[i]? = some x ∧ vals = #[.int (i : Int) t, x]) ∧ h.IsTuple T vals ∧ ((∃ x, IsEnumOut h e it ((i : Int) + 1) x T) ∧ (h.IsTupleIter it l (i + 1) ∧ h.IsTuple l items) ∧ T ≠ e ∧ T ≠ it))
  (fun i h => (∃ old, IsEnum h e it i old) ∧ (h.IsTupleIter it l i ∧ h.IsTuple l items)) where
 st i h st b hb vs n' q := by
  refine el0_3 st fun z0_0 z0_1 _ => ?_; refine el1_1 z0_0 fun old he => ?_; refine el1_3 z0_1 fun o ho _ hd => ?_
  rcases List.mem_cons.mp hb with rfl | hb
  ·simp only [he] at q
   have := congrArg (Option.map Obj.data) q
   simp [tupObj] at this
  ·simp only [List.mem_singleton.mp hb, ho] at q
   cases q; cases hd
 md i v h m b hb vs n' q := by
  refine el2_6 m fun T vals _ _ _ z0_5 z0_6 _ => ?_; refine el1_1 z0_5 fun x he => ?_; refine el0_2 z0_6 fun z1_0 _ => ?_; refine el1_3 z1_0 fun o ho _ hd => ?_
  rcases List.mem_cons.mp hb with rfl | hb
  ·simp only [he] at q
   have := congrArg (Option.map Obj.data) q
   simp [tupObj] at this
  ·simp only [List.mem_singleton.mp hb, ho] at q
   cases q; cases hd
 live i h st b hb q := by
  refine el0_3 st fun z0_0 z0_1 _ => ?_; refine el1_1 z0_0 fun old he => ?_; refine el1_3 z0_1 fun o ho _ hd => ?_
  rcases List.mem_cons.mp hb with rfl | hb
  ·simp only [he] at q; cases q
  ·simp only [List.mem_singleton.mp hb, ho] at q; cases q
theorem glued_nil (l : List Str) : (Builtin.Str.glued "" l).cps.toList = l.flatMap (·.cps.toList) := by
 have key : ∀ (l : List Str) (acc : Array Nat), (l.foldl (fun acc p => acc ++ (Str.ofString "").cps ++ p.cps) acc).toList = acc.toList ++ l.flatMap (·.cps.toList) := by
  intro l
  induction l with
  | nil => intro acc; simp
  | cons x l ih =>
   intro acc
   simp only [List.foldl_cons, ih]
   have e0 : (Str.ofString "").cps = #[] := by decide +kernel
   simp only [e0]
   simp
 rcases l with _ | ⟨x, l⟩
 ·
  show (Str.empty).cps.toList = []
  rfl
 ·
  show (l.foldl (fun acc p => acc ++ (Str.ofString "").cps ++ p.cps) x.cps).toList = _
  simp only [key]; simp
theorem fmPick_len (b : Bool) (m : Int) : ∀ p ∈ fmTable, (fmPick b m p.2).length = 1 := by
 have one : ∀ p ∈ fmTable, ∀ q ∈ p.2, q.2.2.length = 1 := by decide +kernel
 intro p hp
 have : ∀ l : List (Addr × Int × Str), (∀ q ∈ l, q.2.2.length = 1) → (fmPick b m l).length = 1 := by
  intro l
  induction l with
  | nil =>
   intro _
   rcases b with ⟨⟩
   ·show (Str.ofString "-").length = 1; decide +kernel
   ·show (Str.ofString "?").length = 1; decide +kernel
  | cons q r ih =>
   intro h
   show (if fmCond b m q.2.1 then q.2.2 else fmPick b m r).length = 1
   split
   ·exact h q (.head _)
   ·exact ih fun q' hq => h q' (.tail _ hq)
 exact this _ (one p hp)
theorem fmCh_len (m : Int) (i : Nat) : (fmCh m i).length ≤ 1 := by
 unfold fmCh
 cases h : fmTable[i]? with
 | none => show (Str.ofString "").length ≤ 1; decide +kernel
 | some p => exact Nat.le_of_eq (fmPick_len _ m p (List.mem_of_getElem? h))
noncomputable def fmOut (m : Int) : Str := Builtin.Str.glued "" (fmList m 10)
theorem fmList_len (m : Int) (n : Nat) : (fmList m n).length = n := by simp [fmList]
theorem fmList_one (m : Int) (n : Nat) : ∀ x ∈ fmList m n, x.length ≤ 1 := by
 intro x hx
 refine el1_2 (List.mem_map.mp hx) fun i _ q0_2 => ?_; subst q0_2
 exact fmCh_len m i
theorem flat_len : ∀ (l : List Str), (∀ x ∈ l, x.length ≤ 1) → (l.flatMap (·.cps.toList)).length ≤ l.length
 | [], _ => by simp
 | x :: l, h => by
  have := flat_len l fun y hy => h y (.tail _ hy)
  have h1 := h x (.head _)
  have h2 : x.cps.toList.length = x.length := by simp [Str.length]
  simp only [List.flatMap_cons, List.length_append, List.length_cons, h2]
  lia
theorem fmOut_len (m : Int) : (fmOut m).length ≤ 10 := by
 have h1 : (fmOut m).length = (fmOut m).cps.toList.length := by simp [Str.length]
 rw [h1]
 unfold fmOut
 rw [glued_nil]
 have := flat_len (fmList m 10) (fmList_one m 10)
 rw [fmList_len] at this; exact this
theorem filemode_ok {cx : Cx} {A : Around} {k : Nat} (G : Gd2 cx A (k + 2)) {m : Int} {a : AV} (ha : a = .int m ∨ a = .sint m) {st : AS} {Qa : PostV} (q : Qa (.sstr (fmOut m)) st) : CallOk cx A (.ref 791) [a] st Qa := by
 have wk : Weak a (.sint m) := by
  rcases ha with rfl | rfl
  ·exact .int _
  ·exact .same _
 refine pureE G.C G.KO.toKBase G.hp G.Rm (ns := nm ["mode"]) (avs' := [.sint m]) G.KO.fFilemode (by decide +kernel) (plainOne wk rfl) rfl fun s env s₁ E EO C' Rm R₁ => ?_
 have TOa : TabAll tFm (cx.sub s.heap [] env) (A.deeper env) := fun h mt C1 => by
  refine tabN_ok (cx := cx.sub h mt env) (A := A.deeper env) G.KO EO.scope bmF_ok (fun f avs st Qa w => ?_) (fun f i st Qa w => w.elim)
  unfold smFm at w
  split at w
  ·refine el0_2 (bt w) fun e w => ?_
   ·skip
    rw [eq_of_beq e]
    exact (ifmt_ok (cx := cx.sub h mt env) (k := k) ⟨C1, G.KO, G.hp, Rm⟩ w).sm
  ·exact smL_ok w
 have TO := TOa s.heap [] C'
 have ve : VErr (cx.sub s.heap [] env) := G.KO.ve
 have hA := Rm.handled
 refine el0_2 (stm_ok C' TO hA ve 30) fun _ exO => ?_
 rw [fm_split]
 refine execs_append ?_
 have wh : exsW tFm 30 fmHead { loc := (nm ["mode"]).zip [.sint m], objs := [], dec := [] } (fun fl st' => fl = .next ∧ st' = fmLoc m [] [] []) := by rw [run_fm_head]; exact ⟨rfl, rfl⟩
 refine exO fmHead _ _ wh [] s₁ _ _ R₁ (fun ρ₂ s₂ f af st₂ p₂ t₂ R₂ F₂ q₂ => ?_) fun _ _ _ _ _ _ _ _ _ _ _ q => by cases q.1
 refine el0_2 q₂ fun q0_0 q0_1 => ?_; subst q0_0; subst q0_1
 obtain rfl := FRel.next_inv F₂
 refine wpAny_execs_cons ?_
 have kE : env.kindOf "enumerate" = some .globalImplicit := (TO.kind "enumerate").symm.trans (by kernel_rfl)
 have kT : env.kindOf "_filemode_table" = some .globalImplicit := (TO.kind "_filemode_table").symm.trans (by kernel_rfl)
 have kI : env.kindOf "index" = some .local := (TO.kind "index").symm.trans (by kernel_rfl)
 have kB : env.kindOf "table" = some .local := (TO.kind "table").symm.trans (by kernel_rfl)
 refine wpAny_For (Call_name (global_name C' R₂ kE (by decide +kernel) (G.KO.gl2 ("enumerate", .type "enumerate") (by decide +kernel)).1 ?_)) (fun _ => rfl)
 refine callWith_ok (K := cx.K) (es := [_]) rfl (fun h _ => keeper_plain (fun a q => by cases q) h) ?_
 refine spliced_more (global_name C' R₂ kT (by decide +kernel) (.inl G.KO.gTab) (Calls.spliced_nil ⟨Rel.kin (cx := cx.sub s.heap [] env) C' R₂, ?_⟩)) rfl
 have X : cx.K.In s₂.heap := Rel.kin (cx := cx.sub s.heap [] env) C' R₂
 have hT0 : s₂.heap.IsTuple 784 (fmTable.map fun p => Value.ref p.1).toArray := ⟨_, X _ _ G.KO.tab0, rfl, 0, rfl⟩
 refine call_enum_tup hT0 fun h₃ he hit hk₃ => ?_
 have he' := he
 have R₃ : Rel (cx.sub s.heap [] env) ρ₂ (fmLoc m [] [] []) { s₂ with heap := h₃ } := R₂.ext hk₃ rfl rfl
 refine wpAny_pyIter_enum (s := { s₂ with heap := h₃ }) he ?_
 have n1 : s₂.heap.get? s₂.heap.objs.size = none := no_get _
 have n2 : s₂.heap.get? (s₂.heap.objs.size + 1) = none := by
  cases q : s₂.heap.get? (s₂.heap.objs.size + 1) with
  | none => rfl
  | some o => exact absurd (Heap.lt_size q) (Nat.not_lt.mpr (Nat.le_succ _))
 have ne784 : ∀ a, s₂.heap.get? a = none → 784 ≠ a := fun a h q => by have := X _ _ G.KO.tab0; rw [q, h] at this; exact nS this
 have W := KTurns.ofWalksU (elts := [.Name "index" fmUP.2.1, .Name "table" fmUP.2.2.1]) (k := fmUP.1) (pos := fmUP.2.2.2) ((WalksT.enumerateD (prog := cx.prog) (w := cx.w) (A := A.deeper env) (draws_tup (A := (A.deeper env).in1) hA s₂.heap.objs.size 784 (ne784 _ n1) (fmTable.map fun p => Value.ref p.1).toArray) (s₂.heap.objs.size + 1) (Nat.succ_ne_self _) (by
  intro hm
  rcases List.mem_cons.mp hm with q | q
  ·exact Nat.succ_ne_self _ q
  ·exact ne784 _ n2 (List.mem_singleton.mp q).symm) (by simp)).toU)
 rw [← fmT1_eq] at W
 refine el0_2 (fresh_place R₂ n1) fun fr1 fw1 => ?_
 refine el0_2 (fresh_place R₂ n2) fun fr2 fw2 => ?_
 have hsz : (fmTable.map fun p => Value.ref p.1).toArray.size = 10 := rfl
 refine forK C' W wr_enum (fun i ρ' st' => PKeep ρ₂ ρ' ∧ ∃ more, st' = fmLoc m more ((fmList m i).map .sstr) [] ∧ (i = 0 → more = []) ∧ (i ≠ 0 → ∃ j tb bit ch, more = fmM j tb bit ch)) (fun ρ' st' => PKeep ρ₂ ρ' ∧ ∃ more, st' = fmLoc m more ((fmList m 10).map .sstr) [])
  (fun i v ρ' st' s' E' hi _ hP hI C1 R' hg' => ?_) (fun ρ' st' s' E' hI C1 R' hg' => ?_) ⟨PKeep.refl _, [], rfl, fun _ => rfl, fun h => (h rfl).elim⟩ rfl R₃ ⟨⟨_, he⟩, hit, hT0.at fun o e => hk₃ _ _ e⟩ ?_ ?_ fun ρ' st' s' t' R' g' o' => ?_
 ·obtain ⟨p', more, rfl, m0, m1⟩ := hI
  refine el2_3 hP fun T vals q0_2 z0_3 hTup => ?_; subst q0_2; refine el2_2 z0_3 fun t x hx q1_3 => ?_; subst q1_3
  have hi' : i < fmTable.length := by rw [hsz] at hi; exact hi
  have hp := List.getElem?_eq_getElem hi'
  generalize fmTable[i] = p at hp
  rw [List.getElem?_toArray, List.getElem?_map, hp] at hx
  cases hx
  have hmem : p ∈ fmTable := List.mem_of_getElem? hp
  rw [fmT1_eq]
  refine asg_pair (cx := (cx.sub s.heap [] env).now s'.heap (fmLoc m more ((fmList m i).map .sstr) []).objs ρ') C1 hA kI kB hTup (a := .sint i) (b := .val (.ref p.1)) (.sint _ _) (.val _) R' fun s₄ t₄ R₄ => ?_
  have hTO4 : TabAll tFm ((cx.sub s.heap [] env).now s'.heap (fmLoc m more ((fmList m i).map .sstr) []).objs ρ') (A.deeper env) := fun h mt C => TOa h mt C
  have hsh : ∃ more', { fmLoc m more ((fmList m i).map .sstr) [] with loc := put (put (fmLoc m more ((fmList m i).map .sstr) []).loc "index" (.sint i)) "table" (.val (.ref p.1)) } = fmLoc m more' ((fmList m i).map .sstr) [] ∧ (more' = fmM0 i (.ref p.1) ∨ ∃ b0 c0, more' = fmM i (.ref p.1) b0 c0) := by
   by_cases h0 : i = 0
   ·rw [m0 h0]
    exact ⟨fmM0 i (.ref p.1), by kernel_rfl, .inl rfl⟩
   ·refine el4_1 (m1 h0) fun j tb bit ch q0_4 => ?_; subst q0_4
    exact ⟨fmM i (.ref p.1) bit ch, by kernel_rfl, .inr ⟨_, _, rfl⟩⟩
  refine el1_2 hsh fun more' e4 hm4 => ?_
  rw [e4] at R₄
  refine wpAny_execs_cons ?_
  refine fm_inner (cx := (cx.sub s.heap [] env).now s'.heap (fmLoc m more ((fmList m i).map .sstr) []).objs ρ') C1 hTO4 hA ve G.KO hmem (i := i) (b := ((i : Int) == 0)) rfl hm4 (by simp only [List.length_map, fmList_len]; rw [hsz] at hi; lia) R₄ fun ρ₅ s₅ bit ch p₅ t₅ R₅ => ?_
  refine wpAny_execs_nil ?_
  refine ⟨ρ₅, _, R₅, rfl, p'.trans p₅, fmM i (.ref p.1) bit ch, ?_, fun h => by lia, fun _ => ⟨_, _, _, _, rfl⟩⟩
  rw [fmList_succ, List.map_append]
  have : fmCh m i = fmPick ((i : Int) == 0) m p.2 := by unfold fmCh; rw [hp]
  rw [this]; rfl
 ·obtain ⟨p', more, rfl, m0, m1⟩ := hI
  exact wpAny_execs_nil ⟨rfl, ρ', _, R', rfl, p', more, rfl⟩
 ·intro b hb
  rcases List.mem_cons.mp hb with rfl | hb
  ·exact ⟨fr2, by show h₃.get? _ ≠ none; rw [he']; simp⟩
  ·rcases List.mem_cons.mp hb with rfl | hb
   ·refine el1_2 hit fun o ho _ => ?_
    exact ⟨fr1, by show h₃.get? _ ≠ none; rw [ho]; simp⟩
   ·rw [List.mem_singleton.mp hb]
    exact ⟨base_place (cx := cx.sub s.heap [] env) C' R₂ G.KO.tab0, by show h₃.get? _ ≠ none; rw [hk₃ _ _ (X _ _ G.KO.tab0)]; simp⟩
 ·intro b hb
  rcases List.mem_cons.mp hb with rfl | hb
  ·exact fw2
  ·rw [List.mem_singleton.mp hb]; exact fw1
 ·obtain ⟨p', more, rfl⟩ := o'
  have wt : exsW tFm 30 fmTail (fmLoc m more ((fmList m 10).map .sstr) []) (fun fl st' => fl = .ret (.sstr (fmOut m)) ∧ st' = fmLoc m more ((fmList m 10).map .sstr) []) := by
   rw [run_fm_tail]
   refine ⟨fmList m 10, .refl _, by decide +kernel, by rw [fmList_len]; decide, fun x hx => by have := fmList_one m 10 x hx; lia, by have := fmOut_len m; unfold fmOut at this; lia, rfl, rfl⟩
  refine exO fmTail _ _ wt ρ' s' _ _ R' (fun ρ₃ s₃ f af st₃ p₃ t₃ R₃ F₃ q₃ => ?_) fun _ _ _ _ _ _ _ _ _ _ _ q => by cases q.1
  refine el0_2 q₃ fun q0_0 q0_1 => ?_; subst q0_0; subst q0_1
  cases F₃
  rename_i v r
  exact ⟨ρ₃, _, _, _, v, R₃, rfl, rfl, r, .same _, q⟩
end Mine
end
noncomputable section
namespace Mine
open PySem PySem.W PyProof.Rows PySem.Calls
open PySem.Builtin.Re
theorem kind_search : builtinKind "re.Pattern.search" = some .method := by decide +kernel
theorem sub_pat_mod : isSubtype (.type "re.Pattern") (.type "module") = pure false := by rw [isSubtype_type]; kernel_rfl
noncomputable def sgS : Option Manifest.Signature := Manifest.signature? "re.Pattern.search"
theorem noVar : Manifest.varargsMethods.contains "re.Pattern.search" = false := by decide +kernel
noncomputable def sgF (sg : Manifest.Signature) : Manifest.Signature := { sg with full := toString (Bind.lastOf "re.Pattern") ++ toString "." ++ toString (Bind.lastOf "re.Pattern.search") }
theorem chk (x : Str) (t : Tok) : (match sgS with | some sg => Bind.checkArgs "re.Pattern.search" (sgF sg) ⟨[.ref 49, .str x t], []⟩ | none => unsupported "no") = pure () := by kernel_rfl
theorem sgS_some : sgS.isSome = true := by decide +kernel
section
variable {prog : Program} {w : World} {A : Around} {E : Value → Shared → Prop} {s : Shared}
theorem check_search {x : Str} {t t1 t2 t3 t4 : Tok} {Q : Unit → Shared → Prop} (h : s.heap.get? 49 = some (patObj t1 t2 t3 t4)) (q : Q () s) : wpAny (model prog w) A (checkBoundCall "re.Pattern.search" ⟨[.ref 49, .str x t], []⟩) Q E s := by
 refine el1_1 (Option.isSome_iff_exists.mp sgS_some) fun sg hs => ?_
 have hc := chk x t
 rw [hs] at hc
 have hs' : Manifest.signature? "re.Pattern.search" = some sg := hs
 unfold checkBoundCall
 rw [hs']
 simp only [kind_search]
 rw [if_neg (by decide)]
 refine wpAny_bind (wpAny_isInstance (T := "re.Pattern") (b := false) ⟨_, h, rfl⟩ sub_pat_mod ?_)
 rw [noVar]
 rw [if_neg (by decide)]
 refine wpAny_bind (m := isType (.ref 49)) ?_
 unfold isType
 refine wpAny_bind (wpAny_loadPart h ?_)
 refine wpAny_pure ?_
 show wpAny _ _ (typeOf (.ref 49) >>= _) _ _ _
 refine wpAny_bind (wpAny_typeOf (T := "re.Pattern") ⟨_, h, rfl⟩ ?_)
 exact wpAny_of_eq hc q
noncomputable def codeN : Array Nat := (sreCode.map (·.toNat)).toArray
noncomputable def okNo : Except String (Bool × Sre.Seen) → Bool
 | .ok (false, _) => true
 | _ => false
theorem okNo_of {x : Except String (Bool × Sre.Seen)} (h : okNo x = true) : ∃ s, x = .ok (false, s) := by
 unfold okNo at h
 split at h
 ·exact ⟨_, rfl⟩
 ·cases h
noncomputable def safeC (c : Nat) : Prop := ∀ seen, okNo (Sre.inSet codeN c codeN.size 5 true seen) = true
theorem safe_of (c : Nat) (h : c ∈ [45, 83, 84, 98, 99, 100, 108, 112, 114, 115, 116, 119, 120]) : safeC c := by
 simp only [List.mem_cons, List.not_mem_nil, or_false] at h
 intro seen
 rcases h with rfl | rfl | rfl | rfl | rfl | rfl | rfl | rfl | rfl | rfl | rfl | rfl | rfl <;> kernel_rfl
theorem admitted_none {m : Sre.M} (hc : m.code = codeN) (hl : m.lim = m.text.size) (hs : ∀ i, i < m.text.size → safeC (m.text.getD i 0)) : ∀ (fuel s : Nat) (seen : Sre.Seen), ∃ seen', m.admitted fuel s seen = .ok (none, seen')
 | 0, _, seen => ⟨seen, rfl⟩
 | fuel + 1, s, seen => by
  unfold Sre.M.admitted
  by_cases h : s ≥ m.lim
  ·rw [if_pos h]; exact ⟨seen, rfl⟩
  ·rw [if_neg h]
   refine el1_1 (okNo_of (hs s (by lia) seen)) fun seen' e => ?_
   rw [hc, e]
   exact admitted_none hc hl hs fuel (s + 1) seen'
noncomputable def freshM (text : Array Nat) : Sre.M := { code := codeN, text, lim := text.size, start := 0, pc := (Sre.header codeN).2, pos := 0, handed := 0, marks := Array.replicate (2 * 0) none, mustAdvance := false, seen := if (Sre.header codeN).2 == 0 then {} else ({} : Sre.Seen).add 14, lastStart := text.size }
theorem forSearch_eq (text : Array Nat) (h : 0 < text.size) : Sre.forSearch codeN text 0 0 text.size false = (freshM text).attemptFrom 0 true := by
 have e1 : (Sre.header codeN).1 = 1 := by decide +kernel
 have e2 : (!((Sre.header codeN).2 != 0 && codeN.getD 2 0 &&& 5 != 0)) = false := by decide +kernel
 unfold Sre.forSearch
 simp only [e1]
 rw [if_neg (by simp only [Bool.or_eq_true, decide_eq_true_eq, not_or]; lia)]
 congr 1
theorem search_none {text : Array Nat} (h : 0 < text.size) (hs : ∀ i, i < text.size → safeC (text.getD i 0)) : ∃ m, (Sre.forSearch codeN text 0 0 text.size false).runFor 4 = m ∧ m.outcome = some .failed := by
 rw [forSearch_eq text h]
 refine ⟨_, rfl, ?_⟩
 unfold Sre.M.attemptFrom
 have e : (freshM text).hasFirstSet = true := by
  show ((match Sre.ops[codeN.getD 0 0]? with | some .INFO => true | _ => false) && codeN.getD 2 0 == 4) = true
  decide +kernel
 rw [e]
 refine el1_1 (admitted_none (m := freshM text) rfl rfl hs ((freshM text).lim + 1 - 0) 0 (freshM text).seen) fun seen' e2 => ?_
 simp only [Bool.not_true, Bool.false_eq_true, if_false, e2]
 rfl
theorem search_some (c : Nat) (rest : List Nat) (hc : c = 63 ∨ c = 39) : ∃ m, (Sre.forSearch codeN (c :: rest).toArray 0 0 (c :: rest).toArray.size false).runFor 4 = m ∧ m.outcome = some .matched := by
 rw [forSearch_eq _ (by simp)]
 refine ⟨_, rfl, ?_⟩
 rcases hc with rfl | rfl
 ·show ((Sre.M.attemptFrom (freshM (63 :: rest).toArray) 0 true).runFor 4).outcome = some .matched
  kernel_rfl
 ·kernel_rfl
end
end Mine
end
noncomputable section
namespace Mine
open PySem PySem.W PyProof.Rows PySem.Calls
open PySem.Builtin.Re
section
variable {prog : Program} {w : World} {A : Around} {E : Value → Shared → Prop} {s : Shared}
theorem named_eq (x : Str) (t : Tok) : reNamed "re.Pattern.search" "search" ["string", "pos", "endpos"] 1 [.str x t] [] = pure [some (.str x t), none, none] := by kernel_rfl
theorem rules_ok {M : Model} (c : Nat → Bool) (nm : Nat → String) {Q : PUnit → Shared → Prop} : ∀ (l : List Nat), Q () s → wpAny M A (forIn l PUnit.unit fun i _ => if c i = true then do rule (nm i); pure (ForInStep.yield PUnit.unit) else pure (ForInStep.yield PUnit.unit)) Q E s
 | [], h => wpAny_pure h
 | i :: l, h => by
  rw [List.forIn_cons]
  refine wpAny_bind ?_
  split
  ·exact wpAny_bind (wpAny_rule (wpAny_pure (rules_ok c nm l h)))
  ·exact wpAny_pure (rules_ok c nm l h)
theorem drive_eq {M : Model} {m m' : Sre.M} {o : Sre.Outcome} {Q : Sre.M → Shared → Prop} (e : m.runFor 4 = m') (ho : m'.outcome = some o) (q : Q m' s) : wpAny M A (reDrive (2 ^ 64) m) Q E s := by
 obtain ⟨n, hn⟩ : ∃ n : Nat, (2 : Nat) ^ 64 = n + 1 := ⟨18446744073709551615, by decide⟩
 rw [hn]
 unfold reDrive
 show wpAny M A (if (m.runFor 4).outcome.isSome then pure (m.runFor 4) else do rule "sre.turn"; reDrive n (m.runFor 4)) Q E s
 rw [e, ho]
 exact wpAny_pure q
theorem runEnd_none {M : Model} {m m' : Sre.M} {Q : Option Sre.M → Shared → Prop} (e : m.runFor 4 = m') (ho : m'.outcome = some .failed) (q : Q none s) : wpAny M A (reRunToEnd m) Q E s := by
 unfold reRunToEnd
 refine wpAny_bind (drive_eq e ho ?_)
 refine wpAny_bind (rules_ok (fun i => m'.seen.has i) (fun i => Sre.names.getD i "") _ ?_)
 rw [ho]
 exact wpAny_pure q
theorem runEnd_some {M : Model} {m m' : Sre.M} {Q : Option Sre.M → Shared → Prop} (e : m.runFor 4 = m') (ho : m'.outcome = some .matched) (q : Q (some m') s) : wpAny M A (reRunToEnd m) Q E s := by
 unfold reRunToEnd
 refine wpAny_bind (drive_eq e ho ?_)
 refine wpAny_bind (rules_ok (fun i => m'.seen.has i) (fun i => Sre.names.getD i "") _ ?_)
 rw [ho]
 exact wpAny_pure q
theorem target_ok {x : Str} {t t1 t2 t3 t4 : Tok} {cvs : List Value} {Q : ReTarget → Shared → Prop} (h49 : s.heap.get? 49 = some (patObj t1 t2 t3 t4)) (h48 : s.heap.get? 48 = some (tupObj cvs 0)) (hc : cvs.map reRawOf = sreCode) (hx : x.length ≤ 100000)
  (q : Q { pattern := .ref 49, string := .str x t, code := codeN, text := x.cps, kind := 0, groups := 0, pos := 0, lim := x.cps.size } s) : wpAny (model prog w) A (reTarget "re.Pattern.search" "search" ⟨[.ref 49, .str x t], []⟩) Q E s := by
 unfold reTarget
 refine wpAny_bind (wpAny_of_eq (named_eq x t) ?_)
 refine wpAny_bind (wpAny_pure ?_)
 refine wpAny_bind (wpAny_pure ?_)
 refine wpAny_bind (wpAny_fieldsOf h49 rfl ?_)
 refine wpAny_bind (m := reTextOf (.str x t)) (wpAny_pure (a := (x.cps, 0)) ?_)
 show wpAny _ _ (reNoCollectionInside (.str x t) 0 >>= fun _ => reRawItems (.ref 48) >>= fun items => pure _) _ _ _
 refine wpAny_bind (wpAny_pure (a := ()) ?_)
 unfold reRawItems
 refine wpAny_bind (wpAny_bind (wpAny_seqItems h48 rfl (wpAny_pure ?_)))
 refine wpAny_pure ?_
 have e1 : (((some cvs.toArray).getD #[]).map reRawOf).map (·.toNat) = codeN := by
  show ((cvs.toArray).map reRawOf).map (·.toNat) = (sreCode.map (·.toNat)).toArray
  rw [← hc]
  simp
 rw [e1]
 have e2 : min ((2 : Int) ^ 63 - 1).toNat x.cps.size = x.cps.size := by
  have : x.cps.size ≤ 100000 := hx
  have h2 : ((2 : Int) ^ 63 - 1).toNat = 9223372036854775807 := by decide
  rw [h2]; lia
 show Q { pattern := .ref 49, string := .str x t, code := codeN, text := x.cps, kind := 0, groups := 0, pos := min (0 : Int).toNat x.cps.size, lim := min ((2 : Int) ^ 63 - 1).toNat x.cps.size } s
 rw [e2]
 have e3 : min (0 : Int).toNat x.cps.size = 0 := by simp
 rw [e3]
 exact q
theorem search_safe {x : Str} {t t1 t2 t3 t4 : Tok} {cvs : List Value} {P : Fin → Shared → Prop} (h49 : s.heap.get? 49 = some (patObj t1 t2 t3 t4)) (h48 : s.heap.get? 48 = some (tupObj cvs 0)) (hc : cvs.map reRawOf = sreCode) (hx : x.length ≤ 100000) (h0 : 0 < x.length)
  (hs : ∀ i, i < x.cps.size → safeC (x.cps.getD i 0)) (q : P (.done (.ret .none)) s) : wpAny (model prog w) A (Builtin.«re.Pattern.search» ⟨[.ref 49, .str x t], []⟩) P E s := by
 unfold Builtin.«re.Pattern.search»
 refine wpAny_bind (target_ok h49 h48 hc hx ?_)
 unfold reAnswer
 refine el1_2 (search_none (text := x.cps) h0 hs) fun m' e1 e2 => ?_
 refine wpAny_bind (runEnd_none e1 e2 ?_)
 exact wpAny_pure q
theorem search_found {c : Nat} {rest : List Nat} {t t1 t2 t3 t4 : Tok} {cvs : List Value} {P : Fin → Shared → Prop} (h49 : s.heap.get? 49 = some (patObj t1 t2 t3 t4)) (h48 : s.heap.get? 48 = some (tupObj cvs 0)) (hc : cvs.map reRawOf = sreCode) (hx : rest.length < 100000) (hcc : c = 63 ∨ c = 39)
  (q : ∀ h' a, (∀ b o, s.heap.get? b = some o → h'.get? b = some o) → P (.done (.ret (.ref a))) { s with heap := h' }) : wpAny (model prog w) A (Builtin.«re.Pattern.search» ⟨[.ref 49, .str ⟨(c :: rest).toArray⟩ t], []⟩) P E s := by
 unfold Builtin.«re.Pattern.search»
 refine wpAny_bind (target_ok (x := ⟨(c :: rest).toArray⟩) h49 h48 hc (by show (c :: rest).toArray.size ≤ 100000; simp; lia) ?_)
 unfold reAnswer
 refine el1_2 (search_some c rest hcc) fun m' e1 e2 => ?_
 refine wpAny_bind (runEnd_some e1 e2 ?_)
 show wpAny _ _ (reNewMatch _ _ 0 _ _ m' >>= fun v => ret v) _ _ _
 unfold reNewMatch
 refine wpAny_bind ?_
 show wpAny _ _ (if (List.range 0).any _ = true then _ else _) _ _ _
 rw [if_neg (by simp)]
 refine wpAny_bind (m := newTuple _) ?_
 unfold newTuple
 refine wpAny_newObj_type ?_ (by show Array.size _ ≤ sizeLine; simp only [sizeLine_eq]; simp)
 unfold newFields
 refine wpAny_newObj_type (wpAny_pure (q _ _ fun b o e => push_keep _ _ (push_keep _ _ e))) (by size_fits)
end
end Mine
end
noncomputable section
namespace Mine
open PySem PySem.W PyProof.Rows PySem.Calls
open PySem.Builtin.Re
noncomputable def rep (c : Nat) (z : List Nat) (l : List Nat) : List Nat := l.flatMap fun k => if k = c then z else [k]
theorem rep_append (c : Nat) (z a b : List Nat) : rep c z (a ++ b) = rep c z a ++ rep c z b := by unfold rep; rw [List.flatMap_append]
theorem rep_free (c : Nat) (z : List Nat) : ∀ l : List Nat, c ∉ l → rep c z l = l
 | [], _ => rfl
 | k :: r, h => by
  have h1 : ¬ k = c := fun e => h (e ▸ List.mem_cons_self ..)
  have ih := rep_free c z r fun m => h (List.mem_cons_of_mem _ m)
  unfold rep at ih ⊢
  rw [List.flatMap_cons, if_neg h1, ih]; rfl
theorem rep_join (c : Nat) (z : Str) : ∀ parts : List Str, (∀ p ∈ parts, c ∉ p.cps.toList) → rep c z.cps.toList (Str.join ⟨#[c]⟩ parts).cps.toList = (Str.join z parts).cps.toList
 | [], _ => rfl
 | [p], h => rep_free c _ _ (h p (List.mem_singleton.mpr rfl))
 | p :: q :: r, h => by
  have ih := rep_join c z (q :: r) fun a ha => h a (List.mem_cons_of_mem _ ha)
  show rep c z.cps.toList (p ++ ⟨#[c]⟩ ++ Str.join ⟨#[c]⟩ (q :: r)).cps.toList = (p ++ z ++ Str.join z (q :: r)).cps.toList
  simp only [Str.cps_append, Array.toList_append]
  rw [rep_append, rep_append, ih, rep_free c _ _ (h p (List.mem_cons_self ..))]
  have : rep c z.cps.toList [c] = z.cps.toList := by simp [rep]
  rw [this]
theorem replace_rep (x z : Str) (c : Nat) : (Txt.replace x ⟨#[c]⟩ z).cps.toList = rep c z.cps.toList x.cps.toList := by
 rw [StrLaws.replace_one, ← rep_join c z _ (StrLaws.split_free x c), StrLaws.join_split]
theorem entry_search : entryFor table "re.Pattern.search" = some Builtin.«re.Pattern.search» := entryFor_of_tree (by kernel_rfl)
section
variable {prog : Program} {w : World} {A : Around} {E : Value → Shared → Prop} {s : Shared}
theorem call_uns {x : Str} {t t1 t2 t3 t4 : Tok} {Q : Value → Shared → Prop} (hb : s.heap.get? 737 = some bndObj) (h49 : s.heap.get? 49 = some (patObj t1 t2 t3 t4))
  (tree : ∀ A' : Around, ∀ P : Fin → Shared → Prop, ∀ E' : Value → Shared → Prop, (∀ v s', Q v s' → P (.done (.ret v)) s') → wpAny (model prog w) A' (Builtin.«re.Pattern.search» ⟨[.ref 49, .str x t], []⟩) P E' s) :
  wpAny (model prog w) A (call (.ref 737) [.str x t]) Q E s := by
 refine wpAny_call (codeAny_of_tree ?_)
 show wpAny _ A.in1 (callAny (.ref 737) ⟨[.str x t], []⟩) _ _ s
 unfold callAny; dsimp only
 refine wpAny_bind (wpAny_load hb ?_)
 simp only [show (Value.type "builtin_function_or_method" == Value.type "method" || Value.type "builtin_function_or_method" == Value.type "builtin_function_or_method" || Value.type "builtin_function_or_method" == Value.type "method-wrapper") = true by decide, if_true]
 show wpAny _ _ (if (Value.type "builtin_function_or_method" != Value.type "method") = true then _ else _) _ _ s
 rw [if_pos (by decide)]
 refine wpAny_bind (check_search h49 ?_)
 refine wpAny_bind (wpAny_pure (wpAny_pure ?_))
 exact ⟨Code.quiet_builtin _ (by decide +kernel), codeAny_builtin entry_search (tree _ _ _ fun v s' q => q)⟩
end
noncomputable def tQ : Tab := tabN (scopeOf dQuote) [] smNone noSp
noncomputable def qSt (x : Str) (ds : List Bool) : AS := { loc := (nm ["s"]).zip [.sstr x], objs := [], dec := ds }
noncomputable def qHead := (bodyOf dQuote).take 1
theorem run_q_head (x : Str) (P : PostF) : exsW tQ 30 qHead (qSt x [true]) P = (x.length ≤ sizeLine ∧ ((x.length : Int) != 0) = true ∧ P .next (qSt x [])) := by kernel_rfl
noncomputable def qP : (Pos × Pos × Pos × Pos × Expr) × (List Stmt × Pos) × (Expr × Expr × Expr × Expr) × (Pos × Pos × Pos × Pos × Pos × Pos) := match (bodyOf dQuote).drop 1 with
 | [.If (.Compare (.Call (.Name _ p1) [.Name _ p2] _ p3) _ [e0] p4) b _ p5, .Return (some (.BinOp (.BinOp e1 _ (.Call (.Attribute (.Name _ q1) _ q2) [e2, e3] _ q3) q4) _ e4 q5)) q6] => ((p1, p2, p3, p4, e0), (b, p5), (e1, e2, e3, e4), (q1, q2, q3, q4, q5, q6))
 | _ => default
noncomputable def qE0 : Expr := qP.1.2.2.2.2
noncomputable def qB : List Stmt := qP.2.1.1
noncomputable def qRet : Stmt := .Return (some (.BinOp (.BinOp qP.2.2.1.1 .Add (.Call (.Attribute (.Name "s" qP.2.2.2.1) "replace" qP.2.2.2.2.1) [qP.2.2.1.2.1, qP.2.2.1.2.2.1] [] qP.2.2.2.2.2.1) qP.2.2.2.2.2.2.1) .Add qP.2.2.1.2.2.2 qP.2.2.2.2.2.2.2.1)) qP.2.2.2.2.2.2.2.2
theorem q_split : bodyOf dQuote = qHead ++ [.If (.Compare (.Call (.Name "_find_unsafe" qP.1.1) [.Name "s" qP.1.2.1] [] qP.1.2.2.1) [.Is] [qE0] qP.1.2.2.2.1) qB [] qP.2.1.2, qRet] := by kernel_rfl
noncomputable def cK (e : Expr) := match e with
 | .Constant _ k p => (k, p)
 | _ => default
theorem q_e1 : qP.2.2.1.1 = .Constant (.str "'") (cK qP.2.2.1.1).1 (cK qP.2.2.1.1).2 := by kernel_rfl
theorem q_e2 : qP.2.2.1.2.1 = .Constant (.str "'") (cK qP.2.2.1.2.1).1 (cK qP.2.2.1.2.1).2 := by kernel_rfl
theorem q_e3 : qP.2.2.1.2.2.1 = .Constant (.str "'\"'\"'") (cK qP.2.2.1.2.2.1).1 (cK qP.2.2.1.2.2.1).2 := by kernel_rfl
theorem q_e4 : qP.2.2.1.2.2.2 = .Constant (.str "'") (cK qP.2.2.1.2.2.2).1 (cK qP.2.2.1.2.2.2).2 := by kernel_rfl
theorem run_q_e0 (x : Str) (P : PostV) : evW tQ 5 qE0 (qSt x []) P = P .none (qSt x []) := by kernel_rfl
theorem run_q_b (x : Str) (P : PostF) : exsW tQ 10 qB (qSt x []) P = P (.ret (.sstr x)) (qSt x []) := by kernel_rfl
noncomputable def qt (x : Str) : Str := "'" ++ Txt.replace x "'" "'\"'\"'" ++ "'"
theorem q_uns {cx : Cx} {A : Around} (C : CxOk cx) (KO : KOk2 cx.w cx.K) (hsc : cx.env.scope = scopeOf dQuote) {x : Str} {ρ : Rho} {s : Shared} (R : Rel cx ρ (qSt x []) s) {Q E : Value → Shared → Prop} {none : Bool}
  (h : ∀ t t1 t2 t3 t4 cvs (s₁ : Shared) (A' : Around) (P : Fin → Shared → Prop) (E' : Value → Shared → Prop), s₁.heap.get? 49 = some (patObj t1 t2 t3 t4) → s₁.heap.get? 48 = some (tupObj cvs 0) → cvs.map reRawOf = sreCode →
   (∀ h' v, (∀ b o, s₁.heap.get? b = some o → h'.get? b = some o) → (v == .none) = none → P (.done (.ret v)) { s₁ with heap := h' }) → wpAny (model cx.prog cx.w) A' (Builtin.«re.Pattern.search» ⟨[.ref 49, .str x t], []⟩) P E' s₁)
  (k : ∀ v s', (v == .none) = none → TKeep s.heap s'.heap → Rel cx ρ (qSt x []) s' → Q v s') :
  wpAny (model cx.prog cx.w) A (eval (.Call (.Name "_find_unsafe" qP.1.1) [.Name "s" qP.1.2.1] [] qP.1.2.2.1) cx.env) Q E s := by
 have kU : cx.env.kindOf "_find_unsafe" = some .globalImplicit := by show cx.env.scope.names.lookup _ = _; rw [hsc]; kernel_rfl
 have kS : cx.env.kindOf "s" = some .local := by show cx.env.scope.names.lookup _ = _; rw [hsc]; kernel_rfl
 refine Call_name (global_name C R kU (by decide +kernel) (.inl KO.gUns) ?_)
 refine el5_3 KO.sre fun t1 t2 t3 t4 cvs h49 h48 hc => ?_
 have X := R.kin C
 have hkeep : ∀ h, cx.K.In h → ∃ k, (k = Keeper.frame ∨ k = Keeper.machine ∨ k = Keeper.boundFrame) ∧ Looks (model cx.prog cx.w) h (keeperOf (.ref 737)) k := by
  intro h Xh
  refine ⟨.machine, .inr (.inl rfl), ?_⟩
  have hb := Xh _ _ KO.bnd
  intro A' Q' E' s' kk q
  unfold keeperOf
  refine wpAny_bind (wpAny_load (kk _ _ hb) ?_)
  simp only [show (Value.type "builtin_function_or_method" != Value.type "method") = true by decide, show (Value.type "builtin_function_or_method" == Value.type "builtin_function_or_method" || Value.type "builtin_function_or_method" == Value.type "method-wrapper") = true by decide, if_true]
  exact wpAny_pure q
 refine callWith_ok (K := cx.K) (es := [_]) rfl hkeep ?_
 refine spliced_more (local_name C R kS (by decide +kernel) (av := .sstr x) (by kernel_rfl) fun v r => ?_) rfl
 cases r with
 | sstr _ t =>
  refine Calls.spliced_nil ⟨X, ?_⟩
  refine call_uns (X _ _ KO.bnd) (X _ _ h49) fun A' P E' hP => ?_
  refine h t t1 t2 t3 t4 cvs s A' P E' (X _ _ h49) (X _ _ h48) hc fun h' v hk hv => hP v _ (k v _ hv (.of hk) (R.ext hk rfl rfl))
theorem q_tab {cx : Cx} {A : Around} (KO : KOk2 cx.w cx.K) (hsc : cx.env.scope = scopeOf dQuote) : TabOk tQ cx A :=
 tabN_ok KO hsc (fun p hp => nomatch hp) (fun f avs st Qa w => w.elim) (fun f i st Qa w => w.elim)
theorem quote_safe {cx : Cx} {A : Around} {k : Nat} (G : Gd2 cx A (k + 1)) {x : Str} (h0 : 0 < x.length) (h1 : x.length ≤ 100000) (hs : ∀ i, i < x.cps.size → safeC (x.cps.getD i 0)) {st : AS} {Qa : PostV} (q : Qa (.sstr x) st) : CallOk cx A (.ref 744) [.sstr x] st Qa := by
 refine pureE G.C G.KO.toKBase G.hp G.Rm (ns := nm ["s"]) (avs' := [.sstr x]) G.KO.fQuote (by decide +kernel) (plainOne (.same _) rfl) rfl fun s env s₁ E EO C' Rm R₁ => ?_
 have TO : TabOk tQ (cx.sub s.heap [] env) (A.deeper env) := q_tab (cx := cx.sub s.heap [] env) G.KO EO.scope
 have ve : VErr (cx.sub s.heap [] env) := G.KO.ve
 obtain ⟨_, exO⟩ := stm_ok C' TO Rm.handled ve 30
 obtain ⟨_, exB⟩ := stm_ok C' TO Rm.handled ve 10
 rw [q_split]
 refine execs_append ?_
 have wh : exsW tQ 30 qHead (qSt x [true]) (fun fl st' => fl = .next ∧ st' = qSt x []) := by
  rw [run_q_head]
  exact ⟨by rw [sizeLine_eq]; lia, by simp; lia, rfl, rfl⟩
 refine exO qHead _ _ wh [] s₁ _ _ (R₁.dec) (fun ρ₂ s₂ f af st₂ p₂ t₂ R₂ F₂ q₂ => ?_) fun _ _ _ _ _ _ _ _ _ _ _ q => by cases q.1
 obtain ⟨rfl, rfl⟩ := q₂
 obtain rfl := FRel.next_inv F₂
 refine wpAny_execs_cons (wpAny_If (wpAny_isTrue_Compare1 (q_uns (cx := cx.sub s.heap [] env) C' G.KO EO.scope R₂ (none := true) (fun t t1 t2 t3 t4 cvs s₁ A' P E' h49 h48 hc hP => ?_) fun v s₃ hv t₃ R₃ => ?_) (by kernel_rfl)))
 ·exact search_safe h49 h48 hc h1 h0 hs (hP s₁.heap .none (fun _ _ e => e) rfl)
 ·refine (all_ok C' TO 5).1 qE0 _ (fun a st' => a = .none ∧ st' = qSt x []) (by rw [run_q_e0]; exact ⟨rfl, rfl⟩) ρ₂ s₃ _ _ R₃ fun ρ₄ s₄ vn an st₄ p₄ t₄ R₄ V₄ q₄ => ?_
  obtain ⟨rfl, rfl⟩ := q₄
  w_dflts V₄
  refine is_none_gen ?_
  rw [hv]
  refine wpAny_truthy_bool ?_
  rw [if_pos rfl]
  refine exB qB _ (fun fl st' => fl = .ret (.sstr x) ∧ st' = qSt x []) (by rw [run_q_b]; exact ⟨rfl, rfl⟩) ρ₄ s₄ _ _ R₄ (fun ρ₅ s₅ f af st₅ p₅ t₅ R₅ F₅ q₅ => ?_) fun _ _ _ _ _ _ _ _ _ _ _ q => by cases q.1
  obtain ⟨rfl, rfl⟩ := q₅
  obtain ⟨_, rfl, _⟩ := FRel.ret_inv F₅
  rename_i v' r
  exact ⟨ρ₅, _, _, _, v', R₅, rfl, rfl, r, .same _, q⟩
theorem ofS1 : Str.ofString "'" = ⟨#[39]⟩ := by decide +kernel
theorem ofS5 : Str.ofString "'\"'\"'" = ⟨#[39, 34, 39, 34, 39]⟩ := by decide +kernel
theorem rep_len (c : Nat) (z : List Nat) (hz : z.length ≤ 5) : ∀ l : List Nat, (rep c z l).length ≤ 5 * l.length
 | [] => by simp [rep]
 | k :: r => by
  have ih := rep_len c z hz r
  unfold rep at ih ⊢
  rw [List.flatMap_cons, List.length_append, List.length_cons]
  split
  ·lia
  ·simp only [List.length_cons, List.length_nil]; lia
theorem str_len (x : Str) : x.length = x.cps.toList.length := by simp [Str.length]
theorem replaced_len (x : Str) (h : x.length ≤ 1000) : (Txt.replace x "'" "'\"'\"'").length ≤ 5000 := by
 rw [str_len, ofS1, replace_rep, ofS5]
 have := rep_len 39 [39, 34, 39, 34, 39] (by decide) x.cps.toList
 rw [← str_len] at this
 show (rep 39 [39, 34, 39, 34, 39] x.cps.toList).length ≤ 5000
 lia
theorem quote_found {cx : Cx} {A : Around} {k : Nat} (G : Gd2 cx A (k + 1)) {c : Nat} {rest : List Nat} (hcc : c = 63 ∨ c = 39) (h1 : rest.length < 1000) {st : AS} {Qa : PostV} (q : Qa (.sstr (qt ⟨(c :: rest).toArray⟩)) st) : CallOk cx A (.ref 744) [.sstr ⟨(c :: rest).toArray⟩] st Qa := by
 generalize hxx : (⟨(c :: rest).toArray⟩ : Str) = x at q ⊢
 have hlen : x.length = rest.length + 1 := by rw [← hxx]; show (c :: rest).toArray.size = _; simp
 refine pureE G.C G.KO.toKBase G.hp G.Rm (ns := nm ["s"]) (avs' := [.sstr x]) G.KO.fQuote (by decide +kernel) (plainOne (.same _) rfl) rfl fun s env s₁ E EO C' Rm R₁ => ?_
 have TO : TabOk tQ (cx.sub s.heap [] env) (A.deeper env) := q_tab (cx := cx.sub s.heap [] env) G.KO EO.scope
 have ve : VErr (cx.sub s.heap [] env) := G.KO.ve
 obtain ⟨_, exO⟩ := stm_ok C' TO Rm.handled ve 30
 rw [q_split]
 refine execs_append ?_
 have wh : exsW tQ 30 qHead (qSt x [true]) (fun fl st' => fl = .next ∧ st' = qSt x []) := by
  rw [run_q_head]
  exact ⟨by rw [sizeLine_eq]; lia, by simp; lia, rfl, rfl⟩
 refine exO qHead _ _ wh [] s₁ _ _ (R₁.dec) (fun ρ₂ s₂ f af st₂ p₂ t₂ R₂ F₂ q₂ => ?_) fun _ _ _ _ _ _ _ _ _ _ _ q => by cases q.1
 obtain ⟨rfl, rfl⟩ := q₂
 obtain rfl := FRel.next_inv F₂
 refine wpAny_execs_cons (wpAny_If (wpAny_isTrue_Compare1 (q_uns (cx := cx.sub s.heap [] env) C' G.KO EO.scope R₂ (none := false) (fun t t1 t2 t3 t4 cvs s₁ A' P E' h49 h48 hc hP => ?_) fun v s₃ hv t₃ R₃ => ?_) (by kernel_rfl)))
 ·rw [← hxx]
  exact search_found h49 h48 hc (by lia) hcc fun h' a hk => hP h' (.ref a) hk rfl
 ·refine (all_ok C' TO 5).1 qE0 _ (fun a st' => a = .none ∧ st' = qSt x []) (by rw [run_q_e0]; exact ⟨rfl, rfl⟩) ρ₂ s₃ _ _ R₃ fun ρ₄ s₄ vn an st₄ p₄ t₄ R₄ V₄ q₄ => ?_
  obtain ⟨rfl, rfl⟩ := q₄
  w_dflts V₄
  refine is_none_gen ?_
  rw [hv]
  refine wpAny_truthy_bool ?_
  rw [if_neg (by decide)]
  refine wpAny_execs_nil ?_
  refine wpAny_execs_cons ?_
  have kS : env.kindOf "s" = some .local := (TO.kind "s").symm.trans (by kernel_rfl)
  unfold qRet
  rw [q_e1, q_e2, q_e3, q_e4]
  refine wpAny_Return_some (wpAny_BinOp (wpAny_BinOp (Constant_str (Call_attr rfl (by kernel_rfl) (by decide) rfl ?_))))
  have R₅ : Rel (cx.sub s.heap [] env) ρ₄ (qSt x []) { s₄ with toks := s₄.toks + 1 } := R₄.toks
  refine local_name (cx := cx.sub s.heap [] env) C' R₅ kS (by decide +kernel) (av := .sstr x) (by kernel_rfl) fun vx r => ?_
  cases r with
  | sstr _ t =>
   with_reducible refine getMethod_builtin (typeIs_str _ _ _) F.plainAttrs_str F.slot_str_replace F.type_str_replace (fun a e => by cases e) ?_
   refine callWith_ok (K := cx.K) (es := [_, _]) rfl (fun h _ => keeper_plain (fun a q => by cases q) h) ?_
   refine spliced_more (Constant_str (spliced_more (Constant_str (Calls.spliced_nil ⟨Rel.kin (cx := cx.sub s.heap [] env) (st := qSt x []) C' R₅.toks.toks, ?_⟩)) rfl)) rfl
   have hrl := replaced_len x (by lia)
   refine SC.replace (by show s₄.toks + 1 ≠ 0; exact Nat.succ_ne_zero _) (by show s₄.toks + 1 + 1 ≠ 0; exact Nat.succ_ne_zero _) (by show s₄.toks + 1 ≠ s₄.toks + 1 + 1; exact Nat.ne_of_lt (Nat.lt_succ_self _)) (by decide +kernel) (by rw [hlen, show (Str.ofString "'\"'\"'").length = 5 from by decide +kernel]; lia) fun t' kk => ?_
   have l1 : (Str.ofString "'").length = 1 := by decide +kernel
   refine add_str (fun t'' k' => ?_) (sz_le (by rw [l1]; lia))
   refine Constant_str (add_str (fun t3 k3 => ?_) (sz_le (by rw [Str.length_append, l1]; lia)))
   exact ⟨ρ₄, qSt x [], .sstr (qt x), .sstr (qt x), _, R₄.toks, rfl, rfl, .sstr _ _, .same _, q⟩
end Mine
end
noncomputable section
namespace Mine
open PySem PySem.W PyProof.Rows PySem.Calls
theorem PKeep.nil (ρ : Rho) : PKeep [] ρ := fun i p e => by rcases i with ⟨⟩ <;> rcases e with ⟨⟩
theorem OsRel.nil_eq {h : Heap} {ρ : Rho} : ∀ {ps : Rho}, OsRel h ρ [] ps → ps = []
 | [], _ => rfl
 | _ :: _, r => r.elim
theorem Rel.adopt {cx : Cx} {ρ : Rho} {st : AS} {s : Shared} (R : Rel cx ρ st s) {o : AObj} {p : Addr × Addr} (hr : ORel s.heap (ρ ++ [p]) o p)
  (hnew : ∀ a ∈ fp o p, a ∉ cx.env.locals :: foot st.objs ρ) (hnd : (fp o p).Nodup) (hkeep : ∀ a ∈ fp o p, cx.h₀.get? a = none ∨ a ∈ cx.mt) (hg : st.gh = []) : Rel cx (ρ ++ [p]) { st with objs := st.objs ++ [o] } s := by
 have len := R.objs.len
 have ft : foot (st.objs ++ [o]) (ρ ++ [p]) = foot st.objs ρ ++ fp o p := foot_snoc len
 refine ⟨R.keep, ?_, OsRel.snoc hr (OsRel.keeps (TKeep.refl _) (PKeep.snoc _ _) R.objs fun _ _ _ e => e), ?_, ?_, R.gens, R.os, by rw [hg]; exact fun q hq => (nomatch hq), by rw [hg]; exact List.nodup_nil⟩
 ·refine el1_2 R.loc fun m hn hm => ?_
  exact ⟨m, hn, fun y => (hm y).mono (TKeep.refl _) (PKeep.snoc _ _)⟩
 ·show (cx.env.locals :: foot (st.objs ++ [o]) (ρ ++ [p])).Nodup
  rw [ft, ← List.cons_append]
  exact List.nodup_append.mpr ⟨R.nodup, hnd, fun a ha b hb e => hnew b hb (e ▸ ha)⟩
 ·show ∀ a ∈ cx.env.locals :: foot (st.objs ++ [o]) (ρ ++ [p]), _
  rw [ft]
  intro a ha
  rw [← List.cons_append] at ha
  rcases List.mem_append.mp ha with ha | ha
  ·exact R.own a ha
  ·exact (hkeep a ha).symm
theorem Rel.nowhere {cx : Cx} {ρ : Rho} {st : AS} {s : Shared} (R : Rel cx ρ st s) {a : Addr} (h : s.heap.get? a = none) : a ∉ cx.env.locals :: foot st.objs ρ := by
 intro ha
 rcases List.mem_cons.mp ha with rfl | ha
 ·refine el1_2 R.locHere fun ob hob _ => ?_
  rw [h] at hob; exact nS hob
 ·refine el1_2 (R.objs.here a ha) fun ob hob _ => ?_
  rw [h] at hob; exact nS hob
theorem Rel.newAddr {cx : Cx} {ρ : Rho} {st : AS} {s : Shared} (R : Rel cx ρ st s) {a : Addr} (h : s.heap.get? a = none) : cx.h₀.get? a = none ∨ a ∈ cx.mt := by
 by_cases z : a ∈ cx.mt
 ·exact .inr z
 ·refine .inl ?_
  cases y : cx.h₀.get? a with
  | none => rfl
  | some o => have := R.keep _ _ y z; rw [h] at this; exact nS this
noncomputable abbrev TabComp (T : Tab) (cx : Cx) (A : Around) (scope : Scope) : Prop := ∀ h Cc, CxOk (cx.sub h [Cc] (compEnv scope Cc cx.env)) → TabOk T (cx.sub h [Cc] (compEnv scope Cc cx.env)) A
noncomputable abbrev WrS (wr : List Addr) (St : Nat → Heap → Prop) : Prop := ∀ i h, St i h → ∀ b ∈ wr, (∀ vs n, h.get? b ≠ some (tupObj vs n)) ∧ h.get? b ≠ none
theorem comp_core {cx : Cx} {A : Around} {T : Tab} (C : CxOk cx) (hA : A.handled = none) {elt iter : Expr} {x : Str} {px : Pos} {scope : Scope} {pos : Pos} {N : Nat}
  (hcell : ∀ y ∈ scope.names, y.2 ≠ .cell) (hkind : scope.kind = .function) (hx : scope.names.lookup x = some .local)
  (TO : TabComp T cx A scope)
  {I : Addr} {fp wr : List Addr} {n : Nat} {P : Nat → Value → Prop} {St : Nat → Heap → Prop} (W : Walks cx.prog cx.w A I fp wr n P St) (Wst : WrS wr St) (hn : n ≤ 100000)
  (xs fs : Nat → AV) {s : Shared} (hxs : ∀ i v h, P i v → TKeep s.heap h → VRel h [] (xs i) v) (helt : ∀ i, i < n → ∃ ds, evW T N elt { loc := [(x, xs i)], objs := [], dec := ds } fun a st' => a = fs i ∧ st'.objs = [] ∧ st'.loc = [(x, xs i)])
  {ρ : Rho} {st : AS} {E : Value → Shared → Prop} (RR : Value → Env → Result → Shared → Prop) (R : Rel cx ρ st s) (hg : st.gh = []) (hst : St 0 s.heap) (hfp : ∀ b ∈ fp, s.heap.get? b ≠ none) (wrf : ∀ b ∈ wr, b ∉ cx.env.locals :: foot st.objs ρ) (hwr : ∀ b ∈ wr, b ∈ cx.mt ∨ cx.h₀.get? b = none)
  (k : ∀ s' D cenv m, TKeep s.heap s'.heap → s.heap.get? D = none → s.heap.get? cenv.locals = none → s'.heap.Ns cenv.locals m → cenv.locals ∉ cx.env.locals :: foot (st.objs ++ [.list ((List.range n).map fs)]) (ρ ++ [(D, 0)]) → Rel cx (ρ ++ [(D, 0)]) { st with objs := st.objs ++ [.list ((List.range n).map fs)] } s' → RR (.ref D) cenv (.ok .next) s') :
  wpAny (model cx.prog cx.w) A (newList []) (fun acc s₃ => wpAny (model cx.prog cx.w) A (newFunctionEnv scope cx.env.globals [] [] cx.env.qual none .none (some cx.env)) (fun cenv s₄ =>
   codeAny (model cx.prog cx.w) A (.compStart (.ListComp elt [⟨.Name x px, iter, [], 0⟩] scope pos) 0 (.ref I) acc { cenv with scope := scope }) (RR acc cenv) s₄) E s₃) E s := by
 refine wpAny_newObj_type (wpAny_newFunctionEnv hcell (by intro y hy; simp at hy) (fun h₁ hns₁ hsb₁ => ?_) hkind) (size_list (by decide))
 dsimp only at hns₁ hsb₁ ⊢
 generalize hD : s.heap.objs.size = D at hns₁ hsb₁ ⊢
 generalize hC : (s.heap.push { cls := .type "list", dict := none, data := .seq ([] : List Value).toArray }).objs.size = Cc at hns₁ hsb₁ ⊢
 have hCD : Cc = D + 1 := by rw [← hC, Heap.size_push, hD]
 have nD : s.heap.get? D = none := by rw [← hD]; exact no_get _
 have nC : s.heap.get? Cc = none := by
  cases q : s.heap.get? Cc with
  | none => rfl
  | some o => have := Heap.lt_size q; rw [hCD, hD] at this; exact absurd this (Nat.not_lt.mpr (Nat.le_succ _))
 have neDC : D ≠ Cc := by rw [hCD]; exact Nat.ne_of_lt (Nat.lt_succ_self _)
 have old : ∀ b o, s.heap.get? b = some o → h₁.get? b = some o := fun b o e => hsb₁.extBut b o (fun q => by rw [q, nC] at e; exact nS e) (push_keep _ _ (push_keep _ _ e))
 have hD1 : h₁.PlainList D #[] := ⟨0, hsb₁.extBut _ _ neDC (push_keep _ _ (by rw [← hD]; exact Heap.get?_push_size _ rfl))⟩
 have hns : h₁.Ns Cc (fun _ => none) := hns₁
 have hDf : D ∉ fp := fun h => hfp D h nD
 have hCf : Cc ∉ fp := fun h => hfp Cc h nC
 have hDw : D ∉ wr := fun h => hDf (W.sub _ h)
 have hCw : Cc ∉ wr := fun h => hCf (W.sub _ h)
 have bn : ∀ b o, s.heap.get? b = some o → b ≠ D ∧ b ≠ Cc := fun b o e => ⟨fun q => (by rw [q, nD] at e; cases e), fun q => (by rw [q, nC] at e; cases e)⟩
 have base_s : ∀ b o, cx.base.get? b = some o → s.heap.get? b = some o := fun b o e => Rel.base C R b o e
 have hst₁ : St 0 h₁ := W.frame _ _ _ hst fun b _ o e => old b o e
 -- the loop
 have loop : ∀ cenv : Env, cenv.locals = Cc → ∀ s₃ : Shared, s₃ = { s with heap := h₁, toks := s.toks + ([] : List (Str × Value)).length } →
   codeAny (model cx.prog cx.w) A (.compLoop (.ListComp elt [⟨.Name x px, iter, [], 0⟩] scope pos) 0 (.ref I) (.ref D) (compEnv scope Cc cx.env))
    (RR (.ref D) cenv) s₃ := by
  intro cenv hcl s₃ hs₃
  refine codeAny_compLoop_list (fun k s' => ∃ i ys m, i + k = n ∧ s'.gens = s.gens ∧ s'.os = s.os ∧ St i s'.heap ∧ s'.heap.PlainList D ys ∧ VRels s'.heap [] ((List.range i).map fs) ys.toList ∧ s'.heap.Ns Cc m ∧ (∀ y, y ≠ x → m y = none) ∧
   TKeep s.heap s'.heap ∧ ∀ b o, b ∉ wr → s.heap.get? b = some o → s'.heap.get? b = some o) (fun j s' hI => ?_) n ⟨0, #[], _, by lia, by rw [hs₃], by rw [hs₃], by rw [hs₃]; exact hst₁, by rw [hs₃]; exact hD1, .nil, by rw [hs₃]; exact hns, fun _ _ => rfl, by rw [hs₃]; exact .of old, by rw [hs₃]; exact fun b o _ e => old b o e⟩
  obtain ⟨i, ys, m, hij, hgen, hos, hSt, hPl, hV, hNs, hm, hT, hkp⟩ := hI
  by_cases hlt : i < n
  ·refine W.item i s' _ _ hlt hSt fun v h₂ tk₂ hPv hSt₂ hk₂ => ?_
   have T₂ : TKeep s'.heap h₂ := fun a vs c e => hk₂ a _ (fun hb => (Wst i _ hSt a hb).1 vs c e) e
   refine wpAny_assign_Name (wpAny_storeName_local hx (hNs.at' fun o e => hk₂ _ o hCw e) (fun h₃ hn₃ hs₃' => ?_) (by simp [compEnv, hkind]))
   have nt : ∀ vs c, h₂.get? Cc ≠ some (tupObj vs c) := fun vs c q => by
    refine el3_3 (hNs.at' fun o e => hk₂ _ o hCw e) fun o es ep ho hd _ => ?_
    rw [ho] at q; cases q; cases hd
   have T₃ : TKeep h₂ h₃ := .but hs₃'.extBut nt
   have hn₃' : h₃.Ns Cc _ := hn₃
   have keep₃ : ∀ b o, b ∉ wr → s.heap.get? b = some o → h₃.get? b = some o := fun b o hb e => hs₃'.extBut b o (bn b o e).2 (hk₂ b o hb (hkp b o hb e))
   -- the context of the element
   have C' : CxOk (cx.sub h₃ [Cc] (compEnv scope Cc cx.env)) := by
    refine ⟨hkind, C.gl, C.bi, C.kin, fun b o e => keep₃ b o (fun hb => ?_) (base_s b o e), fun a ha => ?_⟩
    ·rcases hwr b hb with q | q
     ·have := C.fresh b q; rw [this] at e; exact nS e
     ·rw [C.sub b o e] at q; cases q
    ·rw [List.mem_singleton.mp ha]
     cases z : cx.base.get? Cc with
     | none => rfl
     | some o => have := base_s _ _ z; rw [nC] at this; cases this
   have gen0 : s'.gens = #[] := hgen.trans R.gens
   have os0 : s'.os = cx.os := hos.trans R.os
   have hT3 : TKeep s.heap h₃ := (hT.trans T₂).trans T₃
   refine el1_1 (helt i hlt) fun ds we => ?_
   generalize hs4 : ({ s' with heap := h₃, toks := tk₂ + 1 } : Shared) = s₄
   have R' : Rel (cx.sub h₃ [Cc] (compEnv scope Cc cx.env)) [] { loc := [(x, xs i)], objs := [], dec := ds } s₄ := by
    subst hs4
    refine ⟨fun b o e _ => e, ⟨_, hn₃, fun y => ?_⟩, trivial, List.nodup_cons.mpr ⟨fun h => (nomatch h), List.nodup_nil⟩, fun a ha => .inl ?_, gen0, os0, fun p hp => (nomatch hp), List.nodup_nil⟩
    ·show ORelV _ _ (List.lookup y [(x, xs i)]) (if y = x then some v else m y)
     by_cases hy : y = x
     ·subst hy
      rw [if_pos rfl, show List.lookup y [(y, xs i)] = some (xs i) by simp [List.lookup]]
      exact hxs i v _ hPv hT3
     ·rw [if_neg hy, hm y hy, show List.lookup y [(x, xs i)] = none by simp only [List.lookup]; rw [show (y == x) = false from beq_eq_false_iff_ne.mpr hy]]
      trivial
    ·rcases List.mem_cons.mp ha with rfl | ha
     ·exact List.mem_singleton.mpr rfl
     ·cases ha
   refine (all_ok C' (TO h₃ Cc C') N).1 _ _ _ we [] s₄ _ _ R' fun ρ₁ s₅ v₁ a st₁ p₁ t₁ R₁ V₁ q₁ => ?_
   refine el0_3 q₁ fun q0_0 ho₁ hl₁ => ?_; subst q0_0
   have : ρ₁ = [] := OsRel.nil_eq (by have := R₁.objs; rw [ho₁] at this; exact this)
   subst this
   have up : ∀ b o, b ≠ Cc → h₃.get? b = some o → s₅.heap.get? b = some o := fun b o hb e => R₁.keep b o e (fun q => hb (List.mem_singleton.mp q))
   have hPl₅ : s₅.heap.PlainList D ys := ((hPl.at fun o e => hk₂ _ o hDw e).extBut hs₃'.extBut neDC).at fun o e => up D o neDC e
   have hlen := hV.length
   have hys : ys.size ≤ sizeLine := by
    have e : ys.toList.length = ys.size := by simp
    have : i = ys.size := by rw [← e, ← hlen]; simp
    have : (100000 : Nat) ≤ sizeLine := by decide
    lia
   refine wpAny_list_append_plain (hsz := hys) hPl₅ fun h₆ hPl₆ hs₆ => ?_
   have t₁' : TKeep h₃ s₅.heap := by rw [← hs4] at t₁; exact t₁
   have ntD : ∀ vs c, s₅.heap.get? D ≠ some (tupObj vs c) := fun vs c q => by
    refine el1_1 hPl₅ fun nn e => ?_
    rw [e] at q
    exact absurd (congrArg (Option.map Obj.cls) q) (by simp)
   have T₆ : TKeep s₅.heap h₆ := .but hs₆.extBut ntD
   refine el1_2 R₁.loc fun m₁ hNs₁ hm₁ => ?_
   refine ⟨j - 1, by lia, i + 1, ys.push v₁, m₁, by lia, R₁.gens.trans R.gens.symm, R₁.os.trans R.os.symm, ?_, hPl₆, ?_, hNs₁.sameBut hs₆ neDC.symm, fun y hy => ?_, ?_, fun b o hb e => ?_⟩
   ·exact W.frame _ _ _ hSt₂ fun b hb o e => hs₆.extBut b o (fun q => hDf (q ▸ hb)) (up b o (fun q => hCf (q ▸ hb)) (hs₃'.extBut b o (fun q : b = Cc => hCf (q ▸ hb)) e))
   ·rw [List.range_succ, List.map_append, Array.toList_push]
    exact VRels.append ((((hV.mono T₂ (PKeep.refl _)).mono T₃ (PKeep.refl _)).mono t₁' (PKeep.refl _)).mono T₆ (PKeep.refl _)) (.cons _ _ _ _ (V₁.mono T₆ (PKeep.refl _)) .nil)
   ·have := hm₁ y
    rw [hl₁] at this
    simp only [List.lookup] at this
    rw [show (y == x) = false from beq_eq_false_iff_ne.mpr hy] at this
    cases z : m₁ y with
    | none => rfl
    | some w => rw [z] at this; exact this.elim
   ·exact ((hT3.trans t₁').trans T₆)
   ·exact hs₆.extBut b o (bn b o e).1 (up b o (bn b o e).2 (keep₃ b o hb e))
  ·have hin : i = n := by lia
   subst hin
   refine W.done s' _ _ hSt fun h₂ tk₂ hk₂ => ?_
   have T₂ : TKeep s'.heap h₂ := fun a vs c e => hk₂ a _ (fun hb => (Wst i _ hSt a hb).1 vs c e) e
   have keep₃ : ∀ b o, b ∉ wr → s.heap.get? b = some o → h₂.get? b = some o := fun b o hb e => hk₂ b o hb (hkp b o hb e)
   have hPl' : h₂.PlainList D ys := hPl.at fun o e => hk₂ _ o hDw e
   refine el1_1 hPl' fun nn eD => ?_
   have hNs₂ : h₂.Ns Cc m := hNs.at' fun o e => hk₂ _ o hCw e
   have R₁ : Rel cx ρ st { s' with heap := h₂, toks := tk₂ } := R.aside (s' := { s' with heap := h₂, toks := tk₂ }) (wr := wr) hg keep₃ wrf hwr (fun b hb => (Wst 0 _ hst b hb).1) hgen hos
   refine k _ D cenv m (hT.trans T₂) nD (by rw [hcl]; exact nC) (by rw [hcl]; exact hNs₂) ?_ (R₁.adopt ⟨ys.toList, nn, ?_, (hV.mono T₂ (PKeep.nil _))⟩ (fun a ha => ?_) (List.nodup_cons.mpr ⟨fun h => (nomatch h), List.nodup_nil⟩) (fun a ha => ?_) hg)
   ·rw [hcl, foot_snoc R.objs.len, ← List.cons_append]
    intro hm
    rcases List.mem_append.mp hm with q | q
    ·exact R.nowhere nC q
    ·exact neDC (List.mem_singleton.mp q).symm
   ·show h₂.get? D = some { cls := .type "list", data := .seq ys.toList.toArray nn }
    rw [show ys.toList.toArray = ys by simp]; exact eD
   ·rw [List.mem_singleton.mp ha]; exact R.nowhere nD
   ·rw [List.mem_singleton.mp ha]; exact R.newAddr nD
 exact codeAny_compStart_list (loop _ rfl _ rfl) (W.self 0 _ _ _ hst₁ (loop _ rfl _ rfl))
theorem Rel.let_go {cx : Cx} {ρ : Rho} {st : AS} {s : Shared} (R : Rel cx ρ st s) (hg : st.gh = []) {c : Addr} {m : Str → Option Value} (hn : s.heap.Ns c m) (nm : c ∉ cx.env.locals :: foot st.objs ρ) (hk : c ∈ cx.mt ∨ cx.h₀.get? c = none) {h' : Heap} (sb : Heap.SameBut c s.heap h') : Rel cx ρ st { s with heap := h' } ∧ TKeep s.heap h' := by
 refine el3_3 hn fun o es ep ho hd _ => ?_
 have nt : ∀ vs n, s.heap.get? c ≠ some (tupObj vs n) := fun vs n q => by rw [ho] at q; cases q; cases hd
 exact ⟨R.aside (s' := { s with heap := h' }) (wr := [c]) hg (fun b o hb e => sb.extBut b o (fun q => hb (by simp [q])) e) (fun b hb => by rw [List.mem_singleton.mp hb]; exact nm) (fun b hb => by rw [List.mem_singleton.mp hb]; exact hk) (fun b hb => by rw [List.mem_singleton.mp hb]; exact nt) rfl rfl, .but sb.extBut nt⟩
theorem comp_tail {cx : Cx} {A : Around} {T : Tab} (C : CxOk cx) (hA : A.handled = none) {elt iter : Expr} {x : Str} {px : Pos} {scope : Scope} {pos : Pos} {N : Nat}
  (hcell : ∀ y ∈ scope.names, y.2 ≠ .cell) (hkind : scope.kind = .function) (hx : scope.names.lookup x = some .local)
  (TO : TabComp T cx A scope)
  {I : Addr} {fp wr : List Addr} {n : Nat} {P : Nat → Value → Prop} {St : Nat → Heap → Prop} (W : Walks cx.prog cx.w A I fp wr n P St) (Wst : WrS wr St) (hn : n ≤ 100000)
  (xs fs : Nat → AV) {s : Shared} (hxs : ∀ i v h, P i v → TKeep s.heap h → VRel h [] (xs i) v) (helt : ∀ i, i < n → ∃ ds, evW T N elt { loc := [(x, xs i)], objs := [], dec := ds } fun a st' => a = fs i ∧ st'.objs = [] ∧ st'.loc = [(x, xs i)])
  {ρ : Rho} {st : AS} {Q E : Value → Shared → Prop} (R : Rel cx ρ st s) (hg : st.gh = []) (hst : St 0 s.heap) (hfp : ∀ b ∈ fp, s.heap.get? b ≠ none) (wrf : ∀ b ∈ wr, b ∉ cx.env.locals :: foot st.objs ρ) (hwr : ∀ b ∈ wr, b ∈ cx.mt ∨ cx.h₀.get? b = none)
  (k : ∀ s' D, TKeep s.heap s'.heap → s.heap.get? D = none → Rel cx (ρ ++ [(D, 0)]) { st with objs := st.objs ++ [.list ((List.range n).map fs)] } s' → Q (.ref D) s') :
  wpAny (model cx.prog cx.w) A (newList []) (fun acc s₃ => wpAny (model cx.prog cx.w) A (newFunctionEnv scope cx.env.globals [] [] cx.env.qual none .none (some cx.env)) (fun cenv s₄ =>
   codeAny (model cx.prog cx.w) A (.compStart (.ListComp elt [⟨.Name x px, iter, [], 0⟩] scope pos) 0 (.ref I) acc { cenv with scope := scope })
    (fun r s' => ∃ m, s'.heap.Ns cenv.locals m ∧ ∀ h', Heap.SameBut cenv.locals s'.heap h' →
     match r with | .ok _ => Q acc { s' with heap := h' } | .error x => wpAny (model cx.prog cx.w) A (passOn "comprehension.variables-let-go" x { cenv with scope := scope }) Q E { s' with heap := h' }) s₄) E s₃) E s :=
 comp_core C hA hcell hkind hx TO W Wst hn xs fs hxs helt (fun acc cenv r s' => ∃ m, s'.heap.Ns cenv.locals m ∧ ∀ h', Heap.SameBut cenv.locals s'.heap h' →
     match r with | .ok _ => Q acc { s' with heap := h' } | .error x => wpAny (model cx.prog cx.w) A (passOn "comprehension.variables-let-go" x { cenv with scope := scope }) Q E { s' with heap := h' }) R hg hst hfp wrf hwr
  fun s' D cenv m t nD nC hNs nm R' => ⟨m, hNs, fun h' sb => by
   refine el0_2 (R'.let_go hg hNs nm (R.newAddr nC).symm sb) fun R₂ t₂ => ?_
   exact k _ D (t.trans t₂) nD R₂⟩
end Mine
end
noncomputable section
namespace Mine
open PySem PySem.W PyProof.Rows PySem.Calls
theorem R_pushed {cx : Cx} {ρ : Rho} {st : AS} {s : Shared} (R : Rel cx ρ st s) (o : Obj) : Rel cx ρ st { s with heap := s.heap.push o } := R.ext push_keep rfl rfl
theorem comp_str {cx : Cx} {A : Around} {T Ti : Tab} (C : CxOk cx) (hA : A.handled = none) (TOi : TabOk Ti cx A) {elt iter : Expr} {x : Str} {px : Pos} {scope : Scope} {pos : Pos} {N : Nat}
  (hcell : ∀ y ∈ scope.names, y.2 ≠ .cell) (hfree : ∀ y ∈ scope.names, y.2 ≠ .free) (hkind : scope.kind = .function) (hnames : ∀ y ∈ scope.names, y.2 = .local → scope.names.lookup y.1 = some .local) (hx : scope.names.lookup x = some .local)
  (TO : TabComp T cx A scope) (g : Str) (fs : Nat → AV) {st st₁ : AS} (hit : ∃ ds, evW Ti N iter { st with dec := ds } fun a st' => (a = .sstr g ∨ a = .str g) ∧ st' = st₁) (hg : st₁.gh = []) (hn : g.cps.size ≤ 100000)
  (helt : ∀ i c, g.cps[i]? = some c → ∃ ds, evW T N elt { loc := [(x, .sstr ⟨#[c]⟩)], objs := [], dec := ds } fun a st' => a = fs i ∧ st'.objs = [] ∧ st'.loc = [(x, .sstr ⟨#[c]⟩)])
  {ρ : Rho} {s : Shared} {Q E : Value → Shared → Prop} (R : Rel cx ρ st s) (hs : ∀ x, foldedSetIterable iter cx.env x = pure x)
  (k : ∀ ρ' s' D, PKeep ρ ρ' → TKeep s.heap s'.heap → Rel cx (ρ' ++ [(D, 0)]) { st₁ with objs := st₁.objs ++ [.list ((List.range g.cps.size).map fs)] } s' → Q (.ref D) s') :
  wpAny (model cx.prog cx.w) A (eval (.ListComp elt [⟨.Name x px, iter, [], 0⟩] scope pos) cx.env) Q E s := by
 refine wpAny_ListComp hfree hkind hnames ?_ hs
 refine el1_1 hit fun ds w => ?_
 refine (all_ok C TOi N).1 _ _ _ w ρ s _ _ R.dec fun ρ₁ s₁ v a st' p₁ t₁ R₁ V₁ q₁ => ?_
 refine el0_2 q₁ fun ha q0_1 => ?_; subst q0_1
 have hv : ∃ t, v = .str g t := by
  rcases ha with rfl | rfl <;> w_dflts V₁ <;> exact ⟨_, rfl⟩
 refine el1_1 hv fun tv q0_1 => ?_; subst q0_1
 have n₁ := no_get s₁.heap
 have go : ∀ ty : String, Walks cx.prog cx.w A s₁.heap.objs.size [s₁.heap.objs.size] [s₁.heap.objs.size] g.cps.size (SignAt g) (fun i h => h.IsStrIter s₁.heap.objs.size ty g tv i) → ∀ s₂ : Shared, s₂ = { s₁ with heap := s₁.heap.push { cls := .type ty, data := .fields #[.str g tv, .int 0 0] } } →
   wpAny (model cx.prog cx.w) A (newList []) (fun acc s₃ => wpAny (model cx.prog cx.w) A (newFunctionEnv scope cx.env.globals [] [] cx.env.qual none .none (some cx.env)) (fun cenv s₄ =>
   codeAny (model cx.prog cx.w) A (.compStart (.ListComp elt [⟨.Name x px, iter, [], 0⟩] scope pos) 0 (.ref s₁.heap.objs.size) acc { cenv with scope := scope })
    (fun r s' => ∃ m, s'.heap.Ns cenv.locals m ∧ ∀ h', Heap.SameBut cenv.locals s'.heap h' →
     match r with | .ok _ => Q acc { s' with heap := h' } | .error x => wpAny (model cx.prog cx.w) A (passOn "comprehension.variables-let-go" x { cenv with scope := scope }) Q E { s' with heap := h' }) s₄) E s₃) E s₂ := by
  intro ty W s₂ hs₂
  have R₂ : Rel cx ρ₁ st' s₂ := by rw [hs₂]; exact R_pushed R₁ _
  have t₂ : TKeep s₁.heap s₂.heap := by rw [hs₂]; exact .of push_keep
  have e₂ : s₂.heap.get? s₁.heap.objs.size = some { cls := .type ty, data := .fields #[.str g tv, .int 0 0] } := by rw [hs₂]; exact Heap.get?_push_size _ rfl
  refine comp_tail (N := N) C hA hcell hkind hx TO W (fun i h st b hb => ?_) hn (fun i => .sstr ⟨#[(g.cps[i]?).getD 0]⟩) fs (s := s₂) (fun i v h hP _ => ?_) (fun i hi => ?_) R₂ hg ⟨_, e₂, rfl, rfl⟩ (fun b hb => ?_) (fun b hb => ?_) (fun b hb => ?_) fun s' D t' _ R' => k ρ₁ s' D p₁ ((t₁.trans t₂).trans t') R'
  ·rw [List.mem_singleton.mp hb]
   refine el1_3 st fun o ho _ hd => ?_
   exact ⟨fun vs c q => (by rw [ho] at q; cases q; cases hd), by rw [ho]; simp⟩
  ·refine el2_2 hP fun c t h1 q0_3 => ?_; subst q0_3
   rw [h1]; exact .sstr _ _
  ·have e : g.cps[i]? = some g.cps[i] := by simp [hi]
   rw [e]
   exact helt i _ e
  ·rw [List.mem_singleton.mp hb, e₂]; simp
  ·rw [List.mem_singleton.mp hb]; exact R₁.nowhere n₁
  ·rw [List.mem_singleton.mp hb]; exact (R₁.newAddr n₁).symm
 cases ha : g.cps.all (·< 128)
 ·exact wpAny_pyIter_wide ha (go _ (Walks.strWide hA _ g tv) _ rfl)
 ·exact wpAny_pyIter_ascii ha (go _ (Walks.strAscii hA _ g tv) _ rfl)
theorem comp_lst {cx : Cx} {A : Around} {T Ti : Tab} (C : CxOk cx) (hA : A.handled = none) (TOi : TabOk Ti cx A) {elt iter : Expr} {x : Str} {px : Pos} {scope : Scope} {pos : Pos} {N : Nat}
  (hcell : ∀ y ∈ scope.names, y.2 ≠ .cell) (hfree : ∀ y ∈ scope.names, y.2 ≠ .free) (hkind : scope.kind = .function) (hnames : ∀ y ∈ scope.names, y.2 = .local → scope.names.lookup y.1 = some .local) (hx : scope.names.lookup x = some .local)
  (TO : TabComp T cx A scope) (j : Nat) (g : List Str) (fs : Nat → AV) {st st₁ : AS} (hit : ∃ ds, evW Ti N iter { st with dec := ds } fun a st' => a = .obj j ∧ st' = st₁) (hg : st₁.gh = []) (hob : st₁.objs[j]? = some (.list (g.map .str))) (hn : g.length ≤ 100000)
  (helt : ∀ i c, g[i]? = some c → ∃ ds, evW T N elt { loc := [(x, .sstr c)], objs := [], dec := ds } fun a st' => a = fs i ∧ st'.objs = [] ∧ st'.loc = [(x, .sstr c)])
  {ρ : Rho} {s : Shared} {Q E : Value → Shared → Prop} (R : Rel cx ρ st s) (hs : ∀ x, foldedSetIterable iter cx.env x = pure x)
  (k : ∀ ρ' s' D, PKeep ρ ρ' → TKeep s.heap s'.heap → Rel cx (ρ' ++ [(D, 0)]) { st₁ with objs := st₁.objs ++ [.list ((List.range g.length).map fs)] } s' → Q (.ref D) s') :
  wpAny (model cx.prog cx.w) A (eval (.ListComp elt [⟨.Name x px, iter, [], 0⟩] scope pos) cx.env) Q E s := by
 refine wpAny_ListComp hfree hkind hnames ?_ hs
 refine el1_1 hit fun ds w => ?_
 refine (all_ok C TOi N).1 _ _ _ w ρ s _ _ R.dec fun ρ₁ s₁ v a st' p₁ t₁ R₁ V₁ q₁ => ?_
 refine el0_2 q₁ fun q0_0 q0_1 => ?_; subst q0_0; subst q0_1
 refine el4_4 (ls_at R₁ V₁ hob) fun l d vs nn q0_4 hp hl hV => ?_; subst q0_4
 have n₁ := no_get s₁.heap
 have hil : s₁.heap.IsList l vs.toArray := ⟨_, hl, rfl, nn, rfl⟩
 have hne : l ≠ s₁.heap.objs.size := fun q => by rw [q, n₁] at hl; exact nS hl
 refine wpAny_pyIter_list hil ?_
 generalize hs₂ : ({ s₁ with heap := s₁.heap.push { cls := .type "list_iterator", data := .fields #[.ref l, .int 0 0] } } : Shared) = s₂
 have R₂ : Rel cx ρ₁ st' s₂ := by rw [← hs₂]; exact R_pushed R₁ _
 have t₂ : TKeep s₁.heap s₂.heap := by rw [← hs₂]; exact .of push_keep
 have e₂ : s₂.heap.get? s₁.heap.objs.size = some { cls := .type "list_iterator", data := .fields #[.ref l, .int 0 0] } := by rw [← hs₂]; exact Heap.get?_push_size _ rfl
 have el₂ : s₂.heap.get? l = some (lstObj vs nn) := by rw [← hs₂]; exact push_keep _ _ hl
 have hlen : vs.toArray.size = g.length := by have := hV.length; simp at this ⊢; lia
 have hWs := Walks.list (prog := cx.prog) (w := cx.w) hA s₁.heap.objs.size l hne vs.toArray
 rw [hlen] at hWs
 have hvs : ∀ (i : Nat) (v : Value), vs[i]? = some v → ∃ c t, g[i]? = some c ∧ v = .str c t := by
  intro i v e
  refine el1_2 (hV.getElem e) fun a h1 h2 => ?_
  rw [List.getElem?_map] at h1
  cases z : g[i]? with
  | none => rw [z] at h1; cases h1
  | some c =>
   rw [z] at h1
   cases h1
   cases h2
   exact ⟨c, _, rfl, rfl⟩
 refine comp_tail (N := N) C hA hcell hkind hx TO hWs (fun i h st b hb => ?_) hn (fun i => AV.sstr ((g[i]?).getD ⟨#[]⟩)) fs (s := s₂) (fun i v h hP _ => ?_) (fun i hi => ?_) R₂ hg ⟨⟨_, e₂, rfl, rfl⟩, ⟨_, el₂, rfl, nn, rfl⟩⟩ (fun b hb => ?_) (fun b hb => ?_) (fun b hb => ?_) fun s' D t' _ R' => k ρ₁ s' D p₁ ((t₁.trans t₂).trans t') R'
 ·rw [List.mem_singleton.mp hb]
  refine el0_2 st fun z0_0 _ => ?_; refine el1_3 z0_0 fun o ho _ hd => ?_
  exact ⟨fun vs c q => (by rw [ho] at q; cases q; cases hd), by rw [ho]; simp⟩
 ·refine el2_2 (hvs i v (by simpa using hP)) fun c t h1 q0_3 => ?_; subst q0_3
  rw [h1]; exact .sstr _ _
 ·have e : g[i]? = some g[i] := by simp [hi]
  rw [e]
  exact helt i _ e
 ·rcases List.mem_cons.mp hb with rfl | hb
  ·rw [e₂]; simp
  ·rw [List.mem_singleton.mp hb, el₂]; simp
 ·rw [List.mem_singleton.mp hb]; exact R₁.nowhere n₁
 ·rw [List.mem_singleton.mp hb]; exact (R₁.newAddr n₁).symm
end Mine
end
noncomputable section
namespace Mine
open PySem PySem.W PyProof.Rows PySem.Calls
mutual
noncomputable def lowA (k : Nat) : AV → Bool
 | .obj i => decide (i < k)
 | .tup xs => lowAs k xs
 | _ => true
noncomputable def lowAs (k : Nat) : List AV → Bool
 | [] => true
 | x :: r => lowA k x && lowAs k r
end
theorem low_obj {h : Heap} {ρ : Rho} {k : Nat} (i : Nat) (a d : Addr) (e : ρ[i]? = some (a, d)) (l : lowA k (.obj i) = true) : VRel h (ρ.take k) (.obj i) (.ref a) :=
 .obj i a d (by
  have l : i < k := of_decide_eq_true l
  rw [List.getElem?_take_of_lt l]; exact e)
theorem low_cons {k : Nat} {x : AV} {xs : List AV} (l : lowAs k (x :: xs) = true) : lowA k x = true ∧ lowAs k xs = true := by
 simpa only [lowAs, Bool.and_eq_true] using l
theorem VRel.low' {h : Heap} {ρ : Rho} {k : Nat} {x : AV} {v : Value} (r : VRel h ρ x v) : lowA k x = true → VRel h (ρ.take k) x v :=
 VRel.rec (motive_1 := fun x v _ => lowA k x = true → VRel h (ρ.take k) x v) (motive_2 := fun xs vs _ => lowAs k xs = true → VRels h (ρ.take k) xs vs) (fun _ => .none) (fun b _ => .bool b) (fun b _ => .sym b) (fun i t _ => .int i t) (fun i t _ => .sint i t) (fun x t _ => .str x t) (fun x t _ => .sstr x t) low_obj (fun xs vs a n e _ ih l => .tup xs vs a n e (ih l)) (fun v _ => .val v) (fun _ => .nil) (fun x v xs vs _ _ ih1 ih2 l => .cons x v xs vs (ih1 (low_cons l).1) (ih2 (low_cons l).2)) r
theorem VRels.low' {h : Heap} {ρ : Rho} {k : Nat} : ∀ {xs : List AV} {vs : List Value}, VRels h ρ xs vs → lowAs k xs = true → VRels h (ρ.take k) xs vs := by
 intro xs
 induction xs with
 | nil => intro vs r _; obtain rfl := r.nil_inv; exact .nil
 | cons x xs ih =>
  intro vs r l
  obtain ⟨v, vs, rfl, r, rs⟩ := r.cons_inv
  exact .cons _ _ _ _ (r.low' (low_cons l).1) (ih rs (low_cons l).2)
theorem VRel.low {h : Heap} {ρ : Rho} {k : Nat} {x : AV} {v : Value} (l : lowA k x = true) (r : VRel h ρ x v) : VRel h (ρ.take k) x v := VRel.low' r l
theorem VRels.low {h : Heap} {ρ : Rho} {k : Nat} {xs : List AV} {vs : List Value} (l : lowAs k xs = true) (r : VRels h ρ xs vs) : VRels h (ρ.take k) xs vs := VRels.low' r l
noncomputable def lowO (k : Nat) : AObj → Bool
 | .list xs => lowAs k xs
 | .deque xs => lowAs k xs
 | .inst _ _ => false
theorem ORel.low {h : Heap} {ρ : Rho} {k : Nat} : ∀ {o : AObj} {p : Addr × Addr}, lowO k o = true → ORel h ρ o p → ORel h (ρ.take k) o p
 | .list _, _, l, ⟨vs, n, a, b⟩ => ⟨vs, n, a, VRels.low l b⟩
 | .deque _, _, l, ⟨vs, n, a, b⟩ => ⟨vs, n, a, VRels.low l b⟩
 | .inst _ _, _, l, _ => by cases l
theorem OsRel.low {h : Heap} {ρ : Rho} {k : Nat} : ∀ {os : List AObj} {ps : Rho}, os.all (lowO k) = true → OsRel h ρ os ps → OsRel h (ρ.take k) os ps
 | [], [], _, _ => trivial
 | o :: os, p :: ps, l, r => by
  simp only [List.all_cons, Bool.and_eq_true] at l
  exact ⟨ORel.low l.1 r.1, OsRel.low l.2 r.2⟩
 | [], _ :: _, _, r => r.elim
 | _ :: _, [], _, r => r.elim
theorem OsRel.take {h : Heap} {ρ : Rho} : ∀ {os : List AObj} {ps : Rho} (k : Nat), OsRel h ρ os ps → OsRel h ρ (os.take k) (ps.take k)
 | [], [], k, _ => by cases k <;> exact trivial
 | o :: os, p :: ps, 0, r => trivial
 | o :: os, p :: ps, k + 1, r => ⟨r.1, OsRel.take k r.2⟩
 | [], _ :: _, _, r => r.elim
 | _ :: _, [], _, r => r.elim
theorem foot_take : ∀ (os : List AObj) (ρ : Rho) (k : Nat), ∃ r, foot os ρ = foot (os.take k) (ρ.take k) ++ r
 | [], _, k => ⟨[], by simp [foot]⟩
 | _ :: _, [], k => ⟨[], by rcases k with ⟨⟩ <;> simp [foot]⟩
 | o :: os, p :: ps, 0 => ⟨foot (o :: os) (p :: ps), by simp [foot]⟩
 | o :: os, p :: ps, k + 1 => by
  obtain ⟨r, e⟩ := foot_take os ps k
  exact ⟨r, by simp [foot, e]⟩
theorem Rel.drop {cx : Cx} {ρ : Rho} {st : AS} {s : Shared} (R : Rel cx ρ st s) (k : Nat) (hl : (st.objs.take k).all (lowO k) = true) {loc' : List (Str × AV)} (hloc : ∀ x v, ORelV s.heap ρ (st.loc.lookup x) v → ORelV s.heap (ρ.take k) (loc'.lookup x) v) :
  Rel cx (ρ.take k) { loc := loc', objs := st.objs.take k, dec := st.dec, gh := [] } s := by
 refine el1_1 (foot_take st.objs ρ k) fun r e => ?_
 have nd := R.nodup
 rw [e, ← List.cons_append] at nd
 refine ⟨R.keep, ?_, OsRel.low hl (OsRel.take k R.objs), (List.nodup_append.mp nd).1, fun a ha => R.own a (by rw [e, ← List.cons_append]; exact List.mem_append_left _ ha), R.gens, R.os, fun p hp => (nomatch hp), List.nodup_nil⟩
 refine el1_2 R.loc fun m hn hm => ?_
 exact ⟨m, hn, fun x => hloc x _ (hm x)⟩
theorem Rel.look {cx : Cx} {ρ : Rho} {st : AS} {s : Shared} (R : Rel cx ρ st s) {loc' : List (Str × AV)} (h : ∀ x, loc'.lookup x = st.loc.lookup x) : Rel cx ρ { st with loc := loc' } s := by
 refine ⟨R.keep, ?_, R.objs, R.nodup, R.own, R.gens, R.os, R.gho, R.ghn⟩
 refine el1_2 R.loc fun m hn hm => ?_
 exact ⟨m, hn, fun x => by rw [h]; exact hm x⟩
theorem Rel.cons {cx : Cx} {ρ : Rho} {st : AS} {s : Shared} {G : List (Str × AV)} {x : Str} {v : AV} (R : Rel cx ρ { st with loc := put G x v } s) : Rel cx ρ { st with loc := (x, v) :: G } s :=
 Rel.look (st := { st with loc := put G x v }) R fun y => by
  simp only [lookup_put]
  simp only [List.lookup]
  by_cases h : y = x
  ·subst h; simp
  ·simp only [show (y == x) = false from beq_eq_false_iff_ne.mpr h, if_neg h]
noncomputable def LowL (k : Nat) (l : List (Str × AV)) : Prop := ∀ x a, l.lookup x = some a → lowA k a = true
theorem Rel.dropTo {cx : Cx} {ρ : Rho} {st : AS} {s : Shared} (R : Rel cx ρ st s) (k : Nat) (hl : (st.objs.take k).all (lowO k) = true) {g : Str} {j : Nat} (hj : st.loc.lookup g = some (.obj j)) (hlow : ∀ x a, x ≠ g → st.loc.lookup x = some a → lowA k a = true) :
  ∃ a, Rel cx (ρ.take k) { loc := (g, .val (.ref a)) :: st.loc, objs := st.objs.take k, dec := st.dec, gh := [] } s := by
 refine el1_2 R.loc fun m hn hm => ?_
 have hg := hm g
 simp only [hj] at hg
 cases q : m g with
 | none => simp only [q] at hg; exact hg.elim
 | some v =>
  simp only [q] at hg
  have hg : VRel s.heap ρ (.obj j) v := hg
  cases hg with
  | obj _ a d e =>
   refine ⟨a, R.drop k hl fun x v' r => ?_⟩
   simp only [List.lookup]
   by_cases h : x = g
   ·subst h
    simp only [beq_self_eq_true]
    simp only [hj] at r
    rcases v' with _ | w
    ·exact r.elim
    ·
     have r : VRel s.heap ρ (.obj j) w := r
     cases r with
     | obj _ a' d' e' =>
      simp only [e] at e'
      cases e'
      exact .val _
   ·simp only [show (x == g) = false from beq_eq_false_iff_ne.mpr h]
    cases z : st.loc.lookup x with
    | none =>
     simp only [z] at r
     rcases v' with _ | w
     ·trivial
     ·exact r.elim
    | some b =>
     simp only [z] at r
     rcases v' with _ | w
     ·exact r.elim
     ·exact VRel.low (hlow x b h z) r
theorem LowL.cons {k : Nat} {l : List (Str × AV)} {x : Str} {v : AV} (h : LowL k l) (hv : lowA k v = true) : LowL k ((x, v) :: l) := by
 intro y a e
 simp only [List.lookup] at e
 split at e
 ·cases e; exact hv
 ·exact h y a e
theorem mapSeq_lst (f : Array Value → Array Value) (vs ws : List Value) (n : Nat) (h : f vs.toArray = ws.toArray) : ∃ n', Obj.mapSeq f (lstObj vs n) = lstObj ws n' :=
 ⟨if (f vs.toArray).size == vs.toArray.size then n else n + 1, by simp only [Obj.mapSeq, lstObj, h]⟩
noncomputable def lsExtW (i j : Nat) (st : AS) (Q : PostV) : Prop := match st.objs[i]?, st.objs[j]? with
 | some (.list xs), some (.list ys) => xs.length + ys.length ≤ 100000 ∧ Q .none { st with objs := st.objs.set i (.list (xs ++ ys)) }
 | _, _ => False
theorem lsExtW_ok {cx : Cx} {A : Around} {st : AS} {Qa : PostV} {i j : Nat} (w : lsExtW i j st Qa) : SmOk cx A (.builtin "list.extend") [.obj i, .obj j] st Qa := by
 intro ρ s vs Q E R V k
 obtain ⟨va, _, rfl, ra, V⟩ := V.cons_inv
 obtain ⟨vb, _, rfl, rb, V⟩ := V.cons_inv
 obtain rfl := V.nil_inv
 unfold lsExtW at w
 split at w
 ·rename_i xs ys ei ej
  refine el0_2 w fun hz w => ?_
  refine el4_4 (ls_at R ra ei) fun a d us n q0_4 hp h1 h2 => ?_; subst q0_4
  refine el4_4 (ls_at R rb ej) fun b d' ws n' q0_4 hp' g1 g2 => ?_; subst q0_4
  have l1 := h2.length
  have l2 := g2.length
  have hno : ¬(!us.toArray.isEmpty && Builtin.List.listTooLong (us.toArray.size + ws.toArray.size)) = true := by
   intro h
   simp only [Bool.and_eq_true] at h
   have := h.2
   unfold Builtin.List.listTooLong at this
   simp only [List.size_toArray, sizeLine_eq] at this
   simp at this
   lia
  refine call_meets F.slot_list_extend ⟨_, h1, rfl⟩ F.entry_list_extend (F.args_list_extend_2 _ _) (AutoSeq1.list_extend_list_list_0 a us.toArray n b ws.toArray n' hno (by rw [sizeLine_eq, List.size_toArray]; lia) (by rw [sizeLine_eq, List.size_toArray, List.size_toArray]; lia)) ⟨h1, g1, ?_⟩
  have e : ∃ n₂, Obj.mapSeq (fun x => x ++ ws.toArray) (lstObj us n) = lstObj (us ++ ws) n₂ := mapSeq_lst _ _ _ _ (by simp)
  refine el1_1 e fun n₂ e => ?_
  have hfin : (s.heap.update a (Obj.mapSeq fun x => x ++ ws.toArray)).get? a = some (lstObj (us ++ ws) n₂) := by
   rw [Heap.get?_update_self _ h1 (by rw [e]; rfl), e]
  have sb : Heap.SameBut a s.heap (s.heap.update a (Obj.mapSeq fun x => x ++ ws.toArray)) := Heap.SameBut.update ..
  have T : TKeep s.heap (s.heap.update a (Obj.mapSeq fun x => x ++ ws.toArray)) := .but sb.extBut fun vs n e => by rw [h1] at e; simp [tupObj] at e
  refine k ρ { s with heap := s.heap.update a (Obj.mapSeq fun x => x ++ ws.toArray) } .none .none _ (PKeep.refl _) T (R.set (s' := { s with heap := s.heap.update a (Obj.mapSeq fun x => x ++ ws.toArray) }) (o' := .list (xs ++ ys)) ei hp (x := a) (by simp [fp]) rfl sb.extBut (fun T => ⟨us ++ ws, n₂, hfin, ?_⟩) rfl rfl) .none w
  exact VRels.append (h2.mono T (PKeep.refl _)) (g2.mono T (PKeep.refl _))
 ·exact w.elim
noncomputable def lsPopW (i : Nat) (st : AS) (Q : PostV) : Prop := match st.objs[i]? with
 | some (.list xs) => xs.length ≤ 100000 ∧ ∃ ys y, xs = ys ++ [y] ∧ Q y { st with objs := st.objs.set i (.list ys) }
 | _ => False
theorem lsPopW_ok {cx : Cx} {A : Around} {st : AS} {Qa : PostV} {i : Nat} (w : lsPopW i st Qa) : SmOk cx A (.builtin "list.pop") [.obj i] st Qa := by
 intro ρ s vs Q E R V k
 obtain ⟨va, _, rfl, ra, V⟩ := V.cons_inv
 obtain rfl := V.nil_inv
 unfold lsPopW at w
 split at w
 ·rename_i xs ei
  obtain ⟨hz, ys, y, rfl, w⟩ := w
  refine el4_4 (ls_at R ra ei) fun a d us n q0_4 hp h1 h2 => ?_; subst q0_4
  refine el2_3 (VRels.snoc_inv' h2) fun ws u q0_2 r1 r2 => ?_; subst q0_2
  have l1 := h2.length
  have hsz : (ws ++ [u]).toArray.size = ws.length + 1 := by simp
  refine call_meets F.slot_list_pop ⟨_, h1, rfl⟩ F.entry_list_pop (F.args_list_pop_1 _) (PySem.MeetsSeq.list_pop_last a (ws ++ [u]).toArray n u (by rw [hsz]; simp) (by rw [sizeLine_eq, hsz]; simp at l1 hz; lia)) ⟨h1, ?_⟩
  have e : ∃ n₂, Obj.mapSeq (fun x => x.eraseIdxIfInBounds ((ws ++ [u]).toArray.size - 1)) (lstObj (ws ++ [u]) n) = lstObj ws n₂ := mapSeq_lst _ _ _ _ (by
   have : ((ws ++ [u]).toArray.eraseIdxIfInBounds ((ws ++ [u]).toArray.size - 1)).toList = ws := by
    rw [hsz]
    unfold Array.eraseIdxIfInBounds
    rw [dif_pos (by simp)]
    simp [List.eraseIdx_append_of_length_le]
   exact Array.toList_inj.mp (by rw [this]))
  refine el1_1 e fun n₂ e => ?_
  generalize hf : (Obj.mapSeq fun x => x.eraseIdxIfInBounds ((ws ++ [u]).toArray.size - 1)) = f at e
  have hfin : (s.heap.update a f).get? a = some (lstObj ws n₂) := by
   rw [Heap.get?_update_self _ h1 (by rw [e]; rfl), e]
  have sb : Heap.SameBut a s.heap (s.heap.update a f) := Heap.SameBut.update ..
  have T : TKeep s.heap (s.heap.update a f) := .but sb.extBut fun vs n e => by rw [h1] at e; simp [tupObj] at e
  refine k ρ { s with heap := s.heap.update a f } u y _ (PKeep.refl _) T (R.set (s' := { s with heap := s.heap.update a f }) (o' := .list ys) ei hp (x := a) (by simp [fp]) rfl sb.extBut (fun T => ⟨ws, n₂, hfin, ?_⟩) rfl rfl) (r2.mono T (PKeep.refl _)) w
  exact r1.mono T (PKeep.refl _)
 ·exact w.elim
end Mine
end
noncomputable section
namespace Mine
open PySem PySem.W PyProof.Rows PySem.Calls
noncomputable def rwFor : (Pos × Pos × Pos) × List Stmt := match (bodyOf dRow).drop 2 with
 | .For (.Name _ p1) (.Name _ p2) b _ p3 :: _ => ((p1, p2, p3), b)
 | _ => default
noncomputable def rwB : List Stmt := rwFor.2
noncomputable def rwHead := (bodyOf dRow).take 2
noncomputable def rwTail := (bodyOf dRow).drop 3
theorem rw_split : bodyOf dRow = rwHead ++ (.For (.Name "number" rwFor.1.1) (.Name "numbers" rwFor.1.2.1) rwB [] rwFor.1.2.2 :: rwTail) := by kernel_rfl
noncomputable def rwIn : (Pos × Pos × Pos × Pos) × Expr × List Stmt := match rwB.drop 3 with
 | .For (.Name _ p1) (.Call (.Name _ p2) [e] _ p3) b _ p4 :: _ => ((p1, p2, p3, p4), e, b)
 | _ => default
structure RwX where
 p1 : Pos
 p2 : Pos
 p3 : Pos
 p4 : Pos
 p5 : Pos
 e1 : Expr
 i1 : Expr
 a1 : Pos
 s1 : Scope
 a2 : Pos
 e2 : Expr
 i2 : Expr
 b1 : Pos
 s2 : Scope
 b2 : Pos
 deriving Inhabited
noncomputable def rwX : RwX := match rwB.drop 6 with
 | .Expr (.Call (.Attribute (.Name _ p1) _ p2) [.BinOp (.ListComp e1 [⟨.Name _ a1, i1, _, _⟩] s1 a2) _ (.ListComp e2 [⟨.Name _ b1, i2, _, _⟩] s2 b2) p3] _ p4) p5 :: _ => ⟨p1, p2, p3, p4, p5, e1, i1, a1, s1, a2, e2, i2, b1, s2, b2⟩
 | _ => default
noncomputable def rwC1 : Expr := .ListComp rwX.e1 [⟨.Name "sign" rwX.a1, rwX.i1, [], 0⟩] rwX.s1 rwX.a2
noncomputable def rwC2 : Expr := .ListComp rwX.e2 [⟨.Name "piece" rwX.b1, rwX.i2, [], 0⟩] rwX.s2 rwX.b2
noncomputable def rwExt : Stmt := .Expr (.Call (.Attribute (.Name "row" rwX.p1) "extend" rwX.p2) [.BinOp rwC1 .Add rwC2 rwX.p3] [] rwX.p4) rwX.p5
noncomputable def rwS0 := (rwB.drop 0).take 1
noncomputable def rwS1 := (rwB.drop 1).take 1
noncomputable def rwS2 := (rwB.drop 2).take 1
noncomputable def rwS4 := (rwB.drop 4).take 1
noncomputable def rwS5 := (rwB.drop 5).take 1
noncomputable def rwS7 := rwB.drop 7
noncomputable def rwStep : Stmt := .For (.Name "step" rwIn.1.1) (.Call (.Name "range" rwIn.1.2.1) [rwIn.2.1] [] rwIn.1.2.2.1) rwIn.2.2 [] rwIn.1.2.2.2
theorem rwB_split : rwB = rwS0 ++ (rwS1 ++ (rwS2 ++ (rwStep :: (rwS4 ++ (rwS5 ++ (rwExt :: rwS7)))))) := by kernel_rfl
end Mine
end
noncomputable section
namespace Mine
open PySem PySem.W PyProof.Rows PySem.Calls
noncomputable def md (x : Int) : Int := x.fmod 16 * 4096 + (x.fdiv 512).fmod 4096
noncomputable def wy (x : Int) : Int := (x.fdiv 16).fmod 4
noncomputable def safeStr (x : Str) : Prop := ∀ i, i < x.cps.size → safeC (x.cps.getD i 0)
noncomputable def qtF (x : Str) : Str := if x.cps[0]? = some 63 ∨ x.cps[0]? = some 39 then qt x else x
noncomputable def QOk (x : Str) : Prop := 0 < x.length ∧ x.length ≤ 900 ∧ ((x.cps[0]? = some 63 ∨ x.cps[0]? = some 39) ∨ (¬ (x.cps[0]? = some 63 ∨ x.cps[0]? = some 39) ∧ safeStr x))
noncomputable def smRw (f : Value) (avs : List AV) (st : AS) (Q : PostV) : Prop := match f, avs with
 | .ref a, [v] => (match v with
  | .sint x => (match a == 798, a == 805, a == 791 with
   | true, _, _ => Q (.sint (md x)) st
   | false, true, _ => (0 ≤ x ∧ x < 65536) ∧ Q (.sstr (sgOut x)) st
   | false, false, true => Q (.sstr (fmOut x)) st
   | _, _, _ => False)
  | .sstr x => (match a == 744 with
   | true => QOk x ∧ Q (.sstr (qtF x)) st
   | false => False)
  | _ => False)
 | f, avs => smL f avs st Q
theorem mode_ok {cx : Cx} {A : Around} {k : Nat} (G : Gd2 cx A (k + 1)) {x : Int} {a : AV} (ha : a = .int x ∨ a = .sint x) {st : AS} {Qa : PostV} (q : Qa (.sint (md x)) st) : CallOk cx A (.ref 798) [a] st Qa := by
 have wk : Weak a (.sint x) := by
  rcases ha with rfl | rfl
  ·exact .int _
  ·exact .same _
 refine pureFn G.C G.KO.toKBase G.hp G.Rm (T := tab0 (scopeOf dMode)) (N := 20) (ns := nm ["number"]) (ds := []) (avs' := [.sint x]) G.KO.fMode (by decide +kernel) rfl ?_ (plainOne wk rfl) rfl ?_
 ·intro cx' A' C' hp' hw' hK' sc' Rm'
  exact tab0_ok sc'
 ·rw [run_mode]
  exact ⟨mul_ok (by decide), _, _, rfl, .inl rfl, .same _, q⟩
theorem quote_ok {cx : Cx} {A : Around} {k : Nat} (G : Gd2 cx A (k + 1)) {x : Str} (h : QOk x) {st : AS} {Qa : PostV} (q : Qa (.sstr (qtF x)) st) : CallOk cx A (.ref 744) [.sstr x] st Qa := by
 obtain ⟨h0, h1, h | ⟨hn, hs⟩⟩ := h
 ·have e : qtF x = qt x := by unfold qtF; rw [if_pos h]
  rw [e] at q
  obtain ⟨⟨l⟩⟩ := x
  rcases l with _ | ⟨c, rest⟩
  ·simp at h
  ·
   have hc : c = 63 ∨ c = 39 := by simpa using h
   have hl : rest.length < 1000 := by
    have e : (⟨(c :: rest).toArray⟩ : Str).length = rest.length + 1 := by show (c :: rest).toArray.size = _; simp
    rw [e] at h1
    lia
   exact quote_found G hc hl q
 ·have e : qtF x = x := by unfold qtF; rw [if_neg hn]
  rw [e] at q
  exact quote_safe G h0 (by lia) hs q
theorem smRw_ok {cx : Cx} {A : Around} {k : Nat} (G : Gd2 cx A (k + 2)) {f : Value} {avs : List AV} {st : AS} {Qa : PostV} (w : smRw f avs st Qa) : SmOk cx A f avs st Qa := by
 have G1 : Gd2 cx A (k + 1) := ⟨G.C, G.KO, G.hp, G.Rm.less (by lia)⟩
 by_cases h : ∃ a v, f = .ref a ∧ avs = [v]
 ·obtain ⟨a, v, rfl, rfl⟩ := h
  rcases v with ⟨⟩
  all_goals try exact False.elim w
  ·unfold smRw at w
   dsimp only at w
   split at w
   ·rename_i e; rw [eq_of_beq e]; exact (mode_ok G1 (.inr rfl) w).sm
   ·rename_i e; rw [eq_of_beq e]; exact (signs_ok G1 w.1.1 w.1.2 (.inr rfl) w.2).sm
   ·rename_i e; rw [eq_of_beq e]; exact (filemode_ok G (.inr rfl) w).sm
   ·exact w.elim
  ·unfold smRw at w
   dsimp only at w
   split at w
   ·rename_i e; rw [eq_of_beq e]; exact (quote_ok G1 w.1 w.2).sm
   ·exact w.elim
 ·refine smL_ok ?_
  rcases f with ⟨⟩ <;> first | exact w | (rcases avs with _ | ⟨x, _ | ⟨y, r⟩⟩ <;> first | exact w | exact absurd ⟨_, _, rfl, rfl⟩ h)
noncomputable def tRw : Tab := tabN (scopeOf dRow) bmF smRw noSp
noncomputable def mkSt (L : List (Str × AV)) (os : List AObj) (ds : List Bool) : AS := { loc := L, objs := os, dec := ds }
theorem run_rw_head (v : Value) (P : PostF) : exsW tRw 30 rwHead (mkSt ((nm ["numbers"]).zip [.val v]) [] []) P = P .next (mkSt [("numbers", .val v), ("text", .str ""), ("row", .obj 0)] [.list []] []) := by kernel_rfl
theorem run_rw_0 (x : Int) (L : List (Str × AV)) (os : List AObj) (P : PostF) : exsW tRw 30 rwS0 (mkSt (("number", .sint x) :: L) os []) P = P .next (mkSt (put (("number", .sint x) :: L) "way" (.sint (wy x))) os []) := by kernel_rfl
theorem run_rw_1 (x w : Int) (L : List (Str × AV)) (os : List AObj) (P : PostF) : exsW tRw 30 rwS1 (mkSt (("way", .sint w) :: ("number", .sint x) :: L) os []) P =
  ((0 ≤ md x ∧ md x < 65536) ∧ P .next (mkSt (put (("way", .sint w) :: ("number", .sint x) :: L) "signs" (.sstr (sgOut (md x)))) os [])) := by kernel_rfl
theorem run_rw_2 (x w : Int) (sg : Str) (L : List (Str × AV)) (os : List AObj) (P : PostF) : exsW tRw 30 rwS2 (mkSt (("signs", .sstr sg) :: ("way", .sint w) :: ("number", .sint x) :: L) os []) P =
  (IntMulOk 65536 w ∧ P .next (mkSt (put (("signs", .sstr sg) :: ("way", .sint w) :: ("number", .sint x) :: L) "written" (.sstr (fmOut (md x + 65536 * w)))) os [])) := by kernel_rfl
theorem run_rw_e (w : Int) (W S : Str) (L : List (Str × AV)) (os : List AObj) (P : PostV) : evW tRw 30 rwIn.2.1 (mkSt (("written", .sstr W) :: ("signs", .sstr S) :: ("way", .sint w) :: L) os []) P =
  P (.sint (w.fmod 3)) (mkSt (("written", .sstr W) :: ("signs", .sstr S) :: ("way", .sint w) :: L) os []) := by kernel_rfl
theorem run_rw_3 (i : Nat) (W : Str) (L : List (Str × AV)) (os : List AObj) (P : PostF) : asgW tRw (.Name "step" rwIn.1.1) (.int i) (mkSt (("written", .sstr W) :: L) os []) (fun st => exsW tRw 30 rwIn.2.2 st P) =
  (QOk W ∧ P .next (mkSt (("written", .sstr (qtF W)) :: put L "step" (.int i)) os [])) := by kernel_rfl
noncomputable def rwL (W : Str) (S : AV) (w x : Int) (L : List (Str × AV)) : List (Str × AV) := ("written", .sstr W) :: ("signs", S) :: ("way", .sint w) :: ("number", .sint x) :: ("row", .obj 0) :: L
theorem run_rw_4a (W S : Str) (w x : Int) (L : List (Str × AV)) (xs : List AV) (P : PostF) : exsW tRw 30 rwS4 (mkSt (rwL W (.sstr S) w x L) [.list xs] [true]) P =
  ((w == 3) = true ∧ (Str.ofString "\\").length + W.length ≤ sizeLine ∧ InStr S 0 ∧ xs.length ≤ 100000 ∧ S.length ≤ sizeLine ∧
   P .next (mkSt (rwL ("\\" ++ W) (.sstr (Txt.slice S (some 1) none)) w x L) [.list (xs ++ [.tup [.sstr (chrAt S 0), .str "kept"]])] [])) := by kernel_rfl
theorem run_rw_4b (W S : Str) (w x : Int) (L : List (Str × AV)) (xs : List AV) (P : PostF) : exsW tRw 30 rwS4 (mkSt (rwL W (.sstr S) w x L) [.list xs] [false, false]) P =
  ((w == 3) = false ∧ decide (0 < w) = false ∧ P .next (mkSt (rwL W (.sstr S) w x L) [.list xs] [])) := by kernel_rfl
theorem run_rw_4c (W S : Str) (w x : Int) (L : List (Str × AV)) (xs : List AV) (P : PostF) : exsW tRw 30 rwS4 (mkSt (rwL W (.sstr S) w x L) [.list xs] [false, true, false]) P =
  ((w == 3) = false ∧ decide (0 < w) = true ∧ InStr S 0 ∧ (chrAt S 0 == ("?" : Str)) = false ∧ P .next (mkSt (rwL W (.sstr S) w x L) [.list xs] [])) := by kernel_rfl
noncomputable def rwIf : (Expr × List Stmt × Pos) × (Expr × List Stmt × Pos) := match rwS4 with
 | [.If t1 b1 [.If t2 b2 _ p2] p1] => ((t1, b1, p1), (t2, b2, p2))
 | _ => default
noncomputable def rwM1 := rwIf.2.2.1.take 1
noncomputable def rwM2 := rwIf.2.2.1.drop 1
theorem rwS4_eq : rwS4 = [.If rwIf.1.1 rwIf.1.2.1 [.If rwIf.2.1 (rwM1 ++ rwM2) [] rwIf.2.2.2] rwIf.1.2.2] := by kernel_rfl
theorem run_rw_t1 (W S : Str) (w x : Int) (L : List (Str × AV)) (os : List AObj) (P : Bool → AS → Prop) : trW tRw 30 rwIf.1.1 (mkSt (rwL W (.sstr S) w x L) os [false]) P = ((w == 3) = false ∧ P false (mkSt (rwL W (.sstr S) w x L) os [])) := by kernel_rfl
theorem run_rw_t2 (W S : Str) (w x : Int) (L : List (Str × AV)) (os : List AObj) (P : Bool → AS → Prop) : trW tRw 30 rwIf.2.1 (mkSt (rwL W (.sstr S) w x L) os [true, true]) P =
  (decide (0 < w) = true ∧ InStr S 0 ∧ (chrAt S 0 == ("?" : Str)) = true ∧ P true (mkSt (rwL W (.sstr S) w x L) os [])) := by kernel_rfl
theorem run_rw_m1 (W S : Str) (w x : Int) (L : List (Str × AV)) (os : List AObj) (P : PostF) : exsW tRw 30 rwM1 (mkSt (rwL W (.sstr S) w x L) os []) P =
  ((w - 1 = 0 ∨ w - 1 = 1) ∧ P .next (mkSt (put (rwL W (.sstr S) w x L) "mark" (.sstr (repS "'" (w - 1)))) os [])) := by kernel_rfl
theorem run_rw_m2 (W S : Str) (M : Str) (w x : Int) (L : List (Str × AV)) (xs : List AV) (P : PostF) : exsW tRw 30 rwM2 (mkSt (("mark", .sstr M) :: rwL W (.sstr S) w x L) [.list xs] []) P =
  (M.length + S.length ≤ sizeLine ∧ (M ++ S).length + M.length ≤ sizeLine ∧ xs.length ≤ 100000 ∧
   P .next (mkSt (("mark", .sstr M) :: rwL W (.str "") w x L) [.list (xs ++ [.tup [.sstr (M ++ S ++ M), .str "kept"]])] [])) := by kernel_rfl
noncomputable def gapM : List (List Str) := [[], [], [], [" "], ["\n"], ["\t", "\n"], ["\n", "# it's\n"], ["# it's\n", "\r"]]
noncomputable def gapOs : List AObj := gapM.map fun g => .list (g.map .str)
noncomputable def gapTop : AObj := .list [.obj 1, .obj 2, .obj 3, .obj 4, .obj 5, .obj 6, .obj 7, .obj 8]
noncomputable def gi (x : Int) : Int := (x.fdiv 64).fmod 8
noncomputable def gapCond (x : Int) : Nat → Prop → Prop
 | 0, P => (gi x == ((0 : Nat) : Int)) = true ∧ P
 | 1, P => (gi x == ((0 : Nat) : Int)) = false ∧ (gi x == ((1 : Nat) : Int)) = true ∧ P
 | 2, P => (gi x == ((0 : Nat) : Int)) = false ∧ (gi x == ((1 : Nat) : Int)) = false ∧ (gi x == ((2 : Nat) : Int)) = true ∧ P
 | 3, P => (gi x == ((0 : Nat) : Int)) = false ∧ (gi x == ((1 : Nat) : Int)) = false ∧ (gi x == ((2 : Nat) : Int)) = false ∧ (gi x == ((3 : Nat) : Int)) = true ∧ P
 | 4, P => (gi x == ((0 : Nat) : Int)) = false ∧ (gi x == ((1 : Nat) : Int)) = false ∧ (gi x == ((2 : Nat) : Int)) = false ∧ (gi x == ((3 : Nat) : Int)) = false ∧ (gi x == ((4 : Nat) : Int)) = true ∧ P
 | 5, P => (gi x == ((0 : Nat) : Int)) = false ∧ (gi x == ((1 : Nat) : Int)) = false ∧ (gi x == ((2 : Nat) : Int)) = false ∧ (gi x == ((3 : Nat) : Int)) = false ∧ (gi x == ((4 : Nat) : Int)) = false ∧ (gi x == ((5 : Nat) : Int)) = true ∧ P
 | 6, P => (gi x == ((0 : Nat) : Int)) = false ∧ (gi x == ((1 : Nat) : Int)) = false ∧ (gi x == ((2 : Nat) : Int)) = false ∧ (gi x == ((3 : Nat) : Int)) = false ∧ (gi x == ((4 : Nat) : Int)) = false ∧ (gi x == ((5 : Nat) : Int)) = false ∧ (gi x == ((6 : Nat) : Int)) = true ∧ P
 | _, P => (gi x == ((0 : Nat) : Int)) = false ∧ (gi x == ((1 : Nat) : Int)) = false ∧ (gi x == ((2 : Nat) : Int)) = false ∧ (gi x == ((3 : Nat) : Int)) = false ∧ (gi x == ((4 : Nat) : Int)) = false ∧ (gi x == ((5 : Nat) : Int)) = false ∧ (gi x == ((6 : Nat) : Int)) = false ∧ (gi x == ((7 : Nat) : Int)) = true ∧ P
theorem run_rw_5 (x : Int) (L : List (Str × AV)) (r : AObj) (P : PostF) :
  (exsW tRw 30 rwS5 (mkSt (("number", .sint x) :: L) [r] [true]) P = gapCond x 0 (P .next (mkSt (put (("number", .sint x) :: L) "gap" (.obj 1)) (r :: (gapOs ++ [gapTop])) []))) ∧
  (exsW tRw 30 rwS5 (mkSt (("number", .sint x) :: L) [r] [false, true]) P = gapCond x 1 (P .next (mkSt (put (("number", .sint x) :: L) "gap" (.obj 2)) (r :: (gapOs ++ [gapTop])) []))) ∧
  (exsW tRw 30 rwS5 (mkSt (("number", .sint x) :: L) [r] [false, false, true]) P = gapCond x 2 (P .next (mkSt (put (("number", .sint x) :: L) "gap" (.obj 3)) (r :: (gapOs ++ [gapTop])) []))) ∧
  (exsW tRw 30 rwS5 (mkSt (("number", .sint x) :: L) [r] [false, false, false, true]) P = gapCond x 3 (P .next (mkSt (put (("number", .sint x) :: L) "gap" (.obj 4)) (r :: (gapOs ++ [gapTop])) []))) ∧
  (exsW tRw 30 rwS5 (mkSt (("number", .sint x) :: L) [r] [false, false, false, false, true]) P = gapCond x 4 (P .next (mkSt (put (("number", .sint x) :: L) "gap" (.obj 5)) (r :: (gapOs ++ [gapTop])) []))) ∧
  (exsW tRw 30 rwS5 (mkSt (("number", .sint x) :: L) [r] [false, false, false, false, false, true]) P = gapCond x 5 (P .next (mkSt (put (("number", .sint x) :: L) "gap" (.obj 6)) (r :: (gapOs ++ [gapTop])) []))) ∧
  (exsW tRw 30 rwS5 (mkSt (("number", .sint x) :: L) [r] [false, false, false, false, false, false, true]) P = gapCond x 6 (P .next (mkSt (put (("number", .sint x) :: L) "gap" (.obj 7)) (r :: (gapOs ++ [gapTop])) []))) ∧
  (exsW tRw 30 rwS5 (mkSt (("number", .sint x) :: L) [r] [false, false, false, false, false, false, false, true]) P = gapCond x 7 (P .next (mkSt (put (("number", .sint x) :: L) "gap" (.obj 8)) (r :: (gapOs ++ [gapTop])) []))) := by
 refine ⟨?_, ?_, ?_, ?_, ?_, ?_, ?_, ?_⟩ <;> kernel_rfl
noncomputable def tC1 : Tab := tabN rwX.s1 [] smNone noSp
noncomputable def tC2 : Tab := tabN rwX.s2 [] smNone noSp
theorem run_rw_c1 (c : Str) (P : PostV) : evW tC1 30 rwX.e1 (mkSt [("sign", .sstr c)] [] []) P = P (.tup [.sstr c, .str "sign"]) (mkSt [("sign", .sstr c)] [] []) := by kernel_rfl
theorem run_rw_c2 (c : Str) (P : PostV) : evW tC2 30 rwX.e2 (mkSt [("piece", .sstr c)] [] []) P = P (.tup [.sstr c, .str "gap"]) (mkSt [("piece", .sstr c)] [] []) := by kernel_rfl
theorem run_rw_i1 (g s : AV) (L : List (Str × AV)) (os : List AObj) (P : PostV) : evW tRw 30 rwX.i1 (mkSt (("gap", g) :: ("signs", s) :: L) os []) P = P s (mkSt (("gap", g) :: ("signs", s) :: L) os []) := by kernel_rfl
theorem run_rw_i2 (g s : AV) (L : List (Str × AV)) (os : List AObj) (P : PostV) : evW tRw 30 rwX.i2 (mkSt (("gap", g) :: ("signs", s) :: L) os []) P = P g (mkSt (("gap", g) :: ("signs", s) :: L) os []) := by kernel_rfl
theorem run_rw_7 (t W : Str) (L : List (Str × AV)) (r g c1 c2 c3 : AObj) (P : PostF) : exsW tRw 30 rwS7 (mkSt (("text", .sstr t) :: ("gap", .obj 1) :: ("written", .sstr W) :: L) [r, g, c1, c2, c3] []) P =
  joinW (.str "") 1 (mkSt (("text", .sstr t) :: ("gap", .obj 1) :: ("written", .sstr W) :: L) [r, g, c1, c2, c3] []) (fun v st => binL .Add (.sstr W) v st fun a st => inpW .Add (.sstr t) a st fun r st => P .next { st with loc := put st.loc "text" r }) := by kernel_rfl
theorem run_rw_tail (t : Str) (L : List (Str × AV)) (os : List AObj) (P : PostF) : exsW tRw 30 rwTail (mkSt (("text", .sstr t) :: ("row", .obj 0) :: L) os []) P = P (.ret (.tup [.sstr t, .obj 0])) (mkSt (("text", .sstr t) :: ("row", .obj 0) :: L) os []) := by kernel_rfl
end Mine
end
noncomputable section
namespace Mine
open PySem PySem.W PyProof.Rows PySem.Calls
section
variable {cx : Cx} {A : Around} {T : Tab}
theorem seqW (C : CxOk cx) (TO : TabOk T cx A) (hA : A.handled = none) (VE : VErr cx) {N : Nat} {ss rest : List Stmt} {st st2 : AS} (ds : List Bool) {ρ : Rho} {s : Shared} {Q : Flow → Shared → Prop} {E : Value → Shared → Prop}
  (w : exsW T N ss { st with dec := ds } (fun fl st' => fl = .next ∧ st' = st2)) (R : Rel cx ρ st s)
  (k : ∀ ρ' s', PKeep ρ ρ' → TKeep s.heap s'.heap → Rel cx ρ' st2 s' → wpAny (model cx.prog cx.w) A (execs rest cx.env) Q E s') : wpAny (model cx.prog cx.w) A (execs (ss ++ rest) cx.env) Q E s := by
 refine execs_append ((stm_ok C TO hA VE N).2 ss _ _ w ρ s _ _ R.dec (fun ρ₂ s₂ f af st₂ p₂ t₂ R₂ F₂ q₂ => ?_) fun _ _ _ _ _ _ _ _ _ _ _ q => by cases q.1)
 obtain ⟨rfl, rfl⟩ := q₂
 obtain rfl := FRel.next_inv F₂
 exact k ρ₂ s₂ p₂ t₂ R₂
theorem ifW (C : CxOk cx) (TO : TabOk T cx A) {N : Nat} {t : Expr} {body orelse : List Stmt} {pos : Pos} {st st2 : AS} (ds : List Bool) {b : Bool} {ρ : Rho} {s : Shared} {Q : Flow → Shared → Prop} {E : Value → Shared → Prop}
  (w : trW T N t { st with dec := ds } (fun c st' => c = b ∧ st' = st2)) (R : Rel cx ρ st s)
  (k : ∀ ρ' s', PKeep ρ ρ' → TKeep s.heap s'.heap → Rel cx ρ' st2 s' → wpAny (model cx.prog cx.w) A (execs (if b = true then body else orelse) cx.env) Q E s') : wpAny (model cx.prog cx.w) A (exec (.If t body orelse pos) cx.env) Q E s := by
 refine el0_4 (all_ok C TO N) fun _ _ trO _ => ?_
 refine wpAny_If (trO t _ _ w ρ s _ E R.dec fun ρ₁ s₁ c st₁ p₁ t₁ R₁ w₁ => ?_)
 refine el0_2 w₁ fun q0_0 q0_1 => ?_; subst q0_0; subst q0_1
 have := k ρ₁ s₁ p₁ t₁ R₁
 cases c <;> exact this
end
theorem foot_sub {o : AObj} {p : Addr × Addr} : ∀ {os : List AObj} {ps : Rho} {i : Nat}, os[i]? = some o → ps[i]? = some p → (fp o p).Sublist (foot os ps)
 | [], _, i, e, _ => by cases i <;> exact nS e
 | _ :: _, [], i, _, e => by cases i <;> cases e
 | o' :: os, p' :: ps, 0, e, e' => by cases e; cases e'; exact List.sublist_append_left _ _
 | o' :: os, p' :: ps, i + 1, e, e' => (foot_sub (os := os) (ps := ps) (i := i) e e').trans (List.sublist_append_right _ _)
theorem Rel.pick {cx : Cx} {ρ : Rho} {st : AS} {s : Shared} (R : Rel cx ρ st s) {o0 oj : AObj} {j : Nat} {g : Str} (h0 : st.objs[0]? = some o0) (hj : st.objs[j + 1]? = some oj) (l0 : lowO 1 o0 = true) (lj : lowO 1 oj = true)
  (hg : st.loc.lookup g = some (.obj (j + 1))) (hlow : ∀ x a, x ≠ g → st.loc.lookup x = some a → lowA 1 a = true) :
  ∃ p0 pj, Rel cx [p0, pj] { loc := (g, .obj 1) :: st.loc, objs := [o0, oj], dec := st.dec, gh := [] } s := by
 refine el1_3 (R.objs.get h0) fun p0 e0 r0 f0 => ?_
 refine el1_3 (R.objs.get hj) fun pj ej rj fj => ?_
 have ht : ρ.take 1 = [p0] := by
  rcases ρ with _ | ⟨q, r⟩
  ·cases e0
  ·cases e0; rfl
 have pk : PKeep (ρ.take 1) [p0, pj] := by simp only [ht]; exact PKeep.snoc [p0] pj
 have sub : (cx.env.locals :: foot [o0, oj] [p0, pj]).Sublist (cx.env.locals :: foot st.objs ρ) := by
  refine List.Sublist.cons_cons _ ?_
  obtain ⟨L, objs, dec, gh⟩ := st
  rcases objs with _ | ⟨a, os⟩
  ·cases h0
  ·
   rcases ρ with _ | ⟨q, ps⟩
   ·cases e0
   ·
    cases h0; cases e0
    show (fp o0 p0 ++ (fp oj pj ++ [])).Sublist (fp o0 p0 ++ foot os ps)
    simp only [List.append_nil]
    exact (List.append_sublist_append_left _).mpr (foot_sub (i := j) (by simpa using hj) (by simpa using ej))
 refine ⟨p0, pj, R.keep, ?_, ⟨(ORel.low l0 r0).keeps (TKeep.refl _) pk fun _ _ _ e => e, (ORel.low lj rj).keeps (TKeep.refl _) pk fun _ _ _ e => e, trivial⟩, R.nodup.sublist sub, fun a ha => R.own a (sub.subset ha), R.gens, R.os, fun p hp => (nomatch hp), List.nodup_nil⟩
 refine el1_2 R.loc fun m hn hm => ?_
 refine ⟨m, hn, fun x => ?_⟩
 have hx := hm x
 simp only [List.lookup]
 by_cases h : x = g
 ·subst h
  simp only [beq_self_eq_true]
  simp only [hg] at hx
  cases z : m x with
  | none => simp only [z] at hx; exact hx.elim
  | some v =>
   simp only [z] at hx
   have hx : VRel s.heap ρ (.obj (j + 1)) v := hx
   cases hx with
   | obj _ a d e =>
    simp only [ej] at e
    cases e
    exact VRel.obj 1 a d rfl
 ·simp only [show (x == g) = false from beq_eq_false_iff_ne.mpr h]
  cases z : st.loc.lookup x with
  | none =>
   simp only [z] at hx
   cases y : m x with
   | none => trivial
   | some v => simp only [y] at hx; exact hx.elim
  | some b =>
   simp only [z] at hx
   cases y : m x with
   | none => simp only [y] at hx; exact hx.elim
   | some v =>
    simp only [y] at hx
    exact VRel.mono (TKeep.refl _) pk (VRel.low (hlow x b h z) hx)
noncomputable def ent (e : Str × Str) : AV := .tup [.sstr e.1, .str e.2]
noncomputable def chs (S : Str) : List Str := (List.range S.cps.size).map fun i => ⟨#[(S.cps[i]?).getD 0]⟩
noncomputable def sgnL (S : Str) : List AV := (List.range S.cps.size).map fun i => ent (⟨#[(S.cps[i]?).getD 0]⟩, "sign")
noncomputable def gapL (g : List Str) : List AV := (List.range g.length).map fun i => ent ((g[i]?).getD ⟨#[]⟩, "gap")
theorem rho3 {ρ ρ' : Rho} {p : Addr × Addr} (h : PKeep (ρ ++ [p]) ρ') : ρ'[ρ.length]? = some p := h _ _ (by simp)
theorem rw_ext {cx : Cx} {A : Around} (C : CxOk cx) (TO : TabOk tRw cx A) (TC1 : TabComp tC1 cx A rwX.s1) (TC2 : TabComp tC2 cx A rwX.s2) (hA : A.handled = none) {S : Str} {sA : AV} (hS : sA = .sstr S ∨ sA = .str S) {g : List Str} {L : List (Str × AV)} {row : List AV}
  (hrow : ((("gap", AV.obj 1) :: ("signs", sA) :: L : List (Str × AV))).lookup ("row" : Str) = some (AV.obj 0)) (z1 : S.cps.size ≤ 1000) (z2 : g.length ≤ 1000) (z3 : row.length ≤ 10000) {ρ : Rho} {s : Shared} {Q : Flow → Shared → Prop} {E : Value → Shared → Prop}
  (R : Rel cx ρ (mkSt (("gap", .obj 1) :: ("signs", sA) :: L) [.list row, .list (g.map .str)] []) s)
  (k : ∀ ρ' s', PKeep ρ ρ' → TKeep s.heap s'.heap → Rel cx ρ' (mkSt (("gap", .obj 1) :: ("signs", sA) :: L) [.list (row ++ (sgnL S ++ gapL g)), .list (g.map .str), .list (sgnL S), .list (gapL g), .list (sgnL S ++ gapL g)] []) s' → Q .next s') :
  wpAny (model cx.prog cx.w) A (exec rwExt cx.env) Q E s := by
 have kR : cx.env.kindOf "row" = some .local := (TO.kind "row").symm.trans (by kernel_rfl)
 refine wpAny_Expr (Call_attr rfl (by kernel_rfl) (by decide) rfl ?_) (noInter C) (swaps_no rfl _ _)
 refine local_name C R kR (by decide +kernel) hrow fun v r => ?_
 have r' := r
 refine el4_4 (ls_at R r (show (mkSt (("gap", .obj 1) :: ("signs", sA) :: L) [.list row, .list (g.map .str)] []).objs[0]? = some (.list row) from rfl)) fun a d vs n q0_4 hp h1 h2 => ?_; subst q0_4
 refine getMethod_builtin ⟨_, h1, rfl⟩ pa_list F.slot_list_extend F.type_list_extend (fun a e => by cases e; exact ⟨_, h1, rfl⟩) ?_
 refine callWith_ok (K := cx.K) (es := [_]) rfl (fun h _ => keeper_plain (fun a q => by cases q) h) ?_
 refine spliced_more (wpAny_BinOp ?_) rfl
 refine comp_str (N := 30) (Ti := tRw) (T := tC1) C hA TO (by decide +kernel) (by decide +kernel) (by decide +kernel) (by decide +kernel) (by decide +kernel) TC1 S (fun i => ent (⟨#[(S.cps[i]?).getD 0]⟩, "sign"))
  (st₁ := mkSt (("gap", .obj 1) :: ("signs", sA) :: L) [.list row, .list (g.map .str)] []) ⟨[], ?_⟩ rfl (by lia) (fun i c hc => ⟨[], ?_⟩) R (fun _ => rfl) fun ρ₁ s₁ D₁ p₁ t₁ R₁ => ?_
 ·show evW tRw 30 rwX.i1 (mkSt (("gap", .obj 1) :: ("signs", sA) :: L) [.list row, .list (g.map .str)] []) _
  rw [run_rw_i1]; exact ⟨hS, rfl⟩
 ·show evW tC1 30 rwX.e1 (mkSt _ _ []) _
  rw [run_rw_c1, hc]; exact ⟨rfl, rfl, rfl⟩
 have len1 : ρ₁.length = 2 := by
  have := R₁.objs.len
  simpa [mkSt] using this.symm
 refine comp_lst (N := 30) (Ti := tRw) (T := tC2) C hA TO (by decide +kernel) (by decide +kernel) (by decide +kernel) (by decide +kernel) (by decide +kernel) TC2 1 g (fun i => ent ((g[i]?).getD ⟨#[]⟩, "gap"))
  (st₁ := mkSt (("gap", .obj 1) :: ("signs", sA) :: L) [.list row, .list (g.map .str), .list (sgnL S)] []) ⟨[], ?_⟩ rfl rfl (by lia) (fun i c hc => ⟨[], ?_⟩) R₁ (fun _ => rfl) fun ρ₂ s₂ D₂ p₂ t₂ R₂ => ?_
 ·show evW tRw 30 rwX.i2 (mkSt (("gap", .obj 1) :: ("signs", sA) :: L) [.list row, .list (g.map .str), .list (sgnL S)] []) _
  rw [run_rw_i2]; exact ⟨rfl, rfl⟩
 ·show evW tC2 30 rwX.e2 (mkSt _ _ []) _
  rw [run_rw_c2, hc]; exact ⟨rfl, rfl, rfl⟩
 have len2 : ρ₂.length = 3 := by
  have := R₂.objs.len
  simpa [mkSt] using this.symm
 have d1 : (ρ₂ ++ [(D₂, 0)])[2]? = some (D₁, 0) := by
  have := PKeep.snoc ρ₂ (D₂, 0) _ _ (rho3 p₂)
  rw [len1] at this; exact this
 have d2 : (ρ₂ ++ [(D₂, 0)])[3]? = some (D₂, 0) := by rw [← len2]; simp
 have l1 : (sgnL S).length ≤ 1000 := by simp [sgnL]; lia
 have l2 : (gapL g).length ≤ 1000 := by simp [gapL]; lia
 refine binL_ok (Qa := fun a st' => a = .obj 4 ∧ st' = mkSt (("gap", .obj 1) :: ("signs", sA) :: L) [.list row, .list (g.map .str), .list (sgnL S), .list (gapL g), .list (sgnL S ++ gapL g)] []) (a := .obj 2) (b := .obj 3) (st := mkSt (("gap", .obj 1) :: ("signs", sA) :: L) [.list row, .list (g.map .str), .list (sgnL S), .list (gapL g)] []) ?_ R₂ (.obj _ _ _ d1) (.obj _ _ _ d2) fun ρ₃ s₃ v av st₃ p₃ t₃ R₃ V₃ q₃ => ?_
 ·unfold binL
  exact (show _ ∧ _ ∧ _ from ⟨by lia, rfl, rfl⟩)
 refine el0_2 q₃ fun q0_0 q0_1 => ?_; subst q0_0; subst q0_1
 have pall : PKeep ρ ρ₃ := (p₁.trans ((PKeep.snoc _ _).trans p₂)).trans ((PKeep.snoc _ _).trans p₃)
 refine Calls.spliced_nil ⟨R₃.kin C, ?_⟩
 refine lsExtW_ok (i := 0) (j := 4) (Qa := fun a st' => a = .none ∧ st' = mkSt (("gap", .obj 1) :: ("signs", sA) :: L) [.list (row ++ (sgnL S ++ gapL g)), .list (g.map .str), .list (sgnL S), .list (gapL g), .list (sgnL S ++ gapL g)] []) ?_ ρ₃ s₃ _ _ _ R₃ (.cons _ _ _ _ (.obj _ _ _ (pall _ _ hp)) (.cons _ _ _ _ V₃ .nil)) fun ρ₄ s₄ v₄ av₄ st₄ p₄ t₄ R₄ V₄ q₄ => ?_
 ·exact ⟨by simp only [List.length_append]; lia, rfl, rfl⟩
 refine el0_2 q₄ fun q0_0 q0_1 => ?_; subst q0_0; subst q0_1
 w_dflts V₄
 exact k ρ₄ s₄ (pall.trans p₄) (((t₁.trans t₂).trans t₃).trans t₄) R₄
end Mine
end
noncomputable section
namespace Mine
open PySem PySem.W PyProof.Rows PySem.Calls
noncomputable def fmC (m : Int) (i : Nat) : Nat := ((fmCh m i).cps[0]?).getD 0
noncomputable def safeL : List Nat := [45, 83, 84, 98, 99, 100, 108, 112, 114, 115, 116, 119, 120]
theorem fmPick_one (b : Bool) (m : Int) : ∀ p ∈ fmTable, ∃ c, fmPick b m p.2 = ⟨#[c]⟩ ∧ (c ∈ safeL ∨ (b = true ∧ c = 63)) := by
 have one : ∀ p ∈ fmTable, ∀ q ∈ p.2, q.2.2 = ⟨#[(q.2.2.cps[0]?).getD 0]⟩ ∧ (q.2.2.cps[0]?).getD 0 ∈ safeL := by decide +kernel
 intro p hp
 have : ∀ l : List (Addr × Int × Str), (∀ q ∈ l, q.2.2 = ⟨#[(q.2.2.cps[0]?).getD 0]⟩ ∧ (q.2.2.cps[0]?).getD 0 ∈ safeL) → ∃ c, fmPick b m l = ⟨#[c]⟩ ∧ (c ∈ safeL ∨ (b = true ∧ c = 63)) := by
  intro l
  induction l with
  | nil =>
   intro _
   cases b
   ·exact ⟨45, by show Str.ofString "-" = _; decide +kernel, .inl (by decide)⟩
   ·exact ⟨63, by show Str.ofString "?" = _; decide +kernel, .inr ⟨rfl, rfl⟩⟩
  | cons q r ih =>
   intro h
   show ∃ c, (if fmCond b m q.2.1 then q.2.2 else fmPick b m r) = ⟨#[c]⟩ ∧ _
   split
   ·exact ⟨_, (h q (.head _)).1, .inl (h q (.head _)).2⟩
   ·exact ih fun q' hq => h q' (.tail _ hq)
 exact this _ (one p hp)
theorem fmC_spec (m : Int) (i : Nat) (h : i < 10) : fmCh m i = ⟨#[fmC m i]⟩ ∧ (fmC m i ∈ safeL ∨ (i = 0 ∧ fmC m i = 63)) := by
 have hi : i < fmTable.length := h
 have hp := List.getElem?_eq_getElem hi
 generalize fmTable[i] = p at hp
 refine el1_2 (fmPick_one ((i : Int) == 0) m p (List.mem_of_getElem? hp)) fun c e hc => ?_
 have e1 : fmCh m i = ⟨#[c]⟩ := by unfold fmCh; rw [hp]; exact e
 have e2 : fmC m i = c := by unfold fmC; rw [e1]; rfl
 rw [e2]
 refine ⟨e1, hc.imp id fun ⟨h1, h2⟩ => ⟨?_, h2⟩⟩
 have := eq_of_beq h1
 lia
theorem fmOut_list (m : Int) : (fmOut m).cps.toList = (List.range 10).map (fmC m) := by
 unfold fmOut
 rw [glued_nil]
 have h : ∀ i, i < 10 → (fmCh m i).cps.toList = [fmC m i] := fun i hi => by rw [(fmC_spec m i hi).1]
 have r : List.range 10 = [0, 1, 2, 3, 4, 5, 6, 7, 8, 9] := rfl
 simp only [fmList, r, List.map_cons, List.map_nil, List.flatMap_cons, List.flatMap_nil, h 0 (by decide), h 1 (by decide), h 2 (by decide), h 3 (by decide), h 4 (by decide), h 5 (by decide), h 6 (by decide), h 7 (by decide), h 8 (by decide), h 9 (by decide), List.cons_append, List.nil_append]
theorem str_ext {x y : Str} (h : x.cps.toList = y.cps.toList) : x = y := by
 obtain ⟨a⟩ := x
 obtain ⟨b⟩ := y
 have : a = b := Array.toList_inj.mp h
 rw [this]
theorem fmOut_size (m : Int) : (fmOut m).cps.size = 10 := by
 have := congrArg List.length (fmOut_list m)
 simpa using this
theorem fmOut_get (m : Int) (i : Nat) (h : i < 10) : (fmOut m).cps[i]? = some (fmC m i) := by
 rw [← Array.getElem?_toList, fmOut_list, List.getElem?_map, List.getElem?_range h]; rfl
theorem fmOut_len10 (m : Int) : (fmOut m).length = 10 := fmOut_size m
theorem qok_fm (m : Int) : QOk (fmOut m) := by
 refine ⟨by simp only [fmOut_len10]; decide, by simp only [fmOut_len10]; decide, ?_⟩
 by_cases h : (fmOut m).cps[0]? = some 63 ∨ (fmOut m).cps[0]? = some 39
 ·exact .inl h
 ·refine .inr ⟨h, fun i hi => ?_⟩
  simp only [fmOut_size] at hi
  have e : (fmOut m).cps.getD i 0 = fmC m i := by
   have := fmOut_get m i hi
   simp only [Array.getD_eq_getD_getElem?, this]; rfl
  simp only [e]
  rcases (fmC_spec m i hi).2 with q | ⟨rfl, q⟩
  ·exact safe_of _ q
  ·exact (h (.inl (by simp only [fmOut_get m 0 hi, q]))).elim
theorem qt_first (x : Str) : (qt x).cps[0]? = some 39 := by
 unfold qt
 rw [Str.cps_append, Str.cps_append, ofS1, ← Array.getElem?_toList, Array.toList_append, Array.toList_append]
 rfl
theorem qt_len (x : Str) : (qt x).length ≤ 5 * x.length + 2 := by
 unfold qt
 rw [Str.length_append, Str.length_append]
 have e : (Str.ofString "'").length = 1 := by decide +kernel
 have h := rep_len 39 [39, 34, 39, 34, 39] (by decide) x.cps.toList
 rw [← str_len] at h
 have : (Txt.replace x "'" "'\"'\"'").length ≤ 5 * x.length := by
  rw [str_len, ofS1, replace_rep, ofS5]; exact h
 lia
theorem qtF_len (x : Str) : (qtF x).length ≤ 5 * x.length + 2 := by
 unfold qtF
 split
 ·exact qt_len x
 ·lia
theorem qok_qt {x : Str} (h : QOk x) (hl : x.length ≤ 100) : QOk (qtF x) := by
 unfold qtF
 split
 ·have := qt_len x
  refine ⟨?_, by lia, .inl (.inr (qt_first x))⟩
  have := qt_first x
  show 0 < (qt x).cps.size
  cases z : (qt x).cps.size with
  | zero =>
   rw [Array.getElem?_eq_none (by lia)] at this
   cases this
  | succ n => lia
 ·exact h
noncomputable def qtN : Nat → Str → Str
 | 0, w => w
 | n + 1, w => qtF (qtN n w)
theorem qtN_ok (m : Int) : ∀ n, n < 2 → QOk (qtN n (fmOut m))
 | 0, _ => qok_fm m
 | 1, _ => qok_qt (x := fmOut m) (qok_fm m) (by rw [fmOut_len10]; decide)
theorem qtN_len (m : Int) : ∀ n, n ≤ 2 → (qtN n (fmOut m)).length ≤ 262
 | 0, _ => by show (fmOut m).length ≤ 262; rw [fmOut_len10]; decide
 | 1, _ => by
  have := qtF_len (fmOut m)
  rw [fmOut_len10] at this
  show (qtF (fmOut m)).length ≤ 262
  lia
 | 2, _ => by
  have := qtF_len (fmOut m)
  rw [fmOut_len10] at this
  have := qtF_len (qtF (fmOut m))
  show (qtF (qtF (fmOut m))).length ≤ 262
  lia
theorem md_bd (x : Int) : 0 ≤ md x ∧ md x < 65536 := by
 unfold md
 rw [Int.fmod_eq_emod_of_nonneg _ (by decide), Int.fmod_eq_emod_of_nonneg _ (by decide)]
 lia
theorem wy_bd (x : Int) : 0 ≤ wy x ∧ wy x < 4 := by
 unfold wy
 rw [Int.fmod_eq_emod_of_nonneg _ (by decide)]
 lia
theorem gi_bd (x : Int) : 0 ≤ gi x ∧ gi x < 8 := by
 unfold gi
 rw [Int.fmod_eq_emod_of_nonneg _ (by decide)]
 lia
theorem sgOut_len (m : Int) : (sgOut m).length = 10 := sgText_len m 3
noncomputable def rN (x : Int) : Nat := ((wy x).fmod 3).toNat
noncomputable def rW1 (x : Int) : Str := qtN (rN x) (fmOut (md x + 65536 * wy x))
noncomputable def rW (x : Int) : Str := if wy x = 3 then "\\" ++ rW1 x else rW1 x
noncomputable def rSg (x : Int) : Str := sgOut (md x)
noncomputable def rK (x : Int) : List (Str × Str) := if wy x = 3 then [(chrAt (rSg x) 0, "kept")] else if 0 < wy x ∧ chrAt (rSg x) 0 = "?" then [(repS "'" (wy x - 1) ++ rSg x ++ repS "'" (wy x - 1), "kept")] else []
noncomputable def rS (x : Int) : Str := if wy x = 3 then Txt.slice (rSg x) (some 1) none else if 0 < wy x ∧ chrAt (rSg x) 0 = "?" then "" else rSg x
noncomputable def rG (x : Int) : List Str := (gapM[(gi x).toNat]?).getD []
noncomputable def rowStep (x : Int) : List (Str × Str) := rK x ++ ((chs (rS x)).map (fun c => (c, ("sign" : Str))) ++ (rG x).map (fun c => (c, ("gap" : Str))))
noncomputable def textStep (x : Int) : Str := rW x ++ Builtin.Str.glued "" (rG x)
theorem rN_le (x : Int) : rN x ≤ 2 := by
 have := wy_bd x
 unfold rN
 rw [Int.fmod_eq_emod_of_nonneg _ (by decide)]
 lia
theorem rW_len (x : Int) : (rW x).length ≤ 263 := by
 have h := qtN_len (md x + 65536 * wy x) (rN x) (rN_le x)
 unfold rW
 split
 ·simp only [Str.length_append, show (Str.ofString "\\").length = 1 from by decide +kernel]
  unfold rW1; lia
 ·unfold rW1; lia
theorem rG_mem (x : Int) : rG x ∈ gapM := by
 have := gi_bd x
 unfold rG
 have h : (gi x).toNat < gapM.length := by show (gi x).toNat < 8; lia
 rw [List.getElem?_eq_getElem h]
 exact List.getElem_mem h
theorem range_map {α β : Type} (f : α → β) (d : α) (g : List α) : (List.range g.length).map (fun i => f ((g[i]?).getD d)) = g.map f := by
 refine List.ext_getElem? fun i => ?_
 rw [List.getElem?_map, List.getElem?_map]
 by_cases h : i < g.length
 ·rw [List.getElem?_range h, List.getElem?_eq_getElem h]; simp [List.getElem?_eq_getElem h]
 ·rw [List.getElem?_eq_none (by simp; lia), List.getElem?_eq_none (by lia)]; rfl
theorem gapL_eq (g : List Str) : gapL g = (g.map fun c => (c, ("gap" : Str))).map ent := by
 unfold gapL
 simp only [range_map (fun c => ent (c, "gap")) ⟨#[]⟩ g, List.map_map]; rfl
theorem sgnL_eq (S : Str) : sgnL S = ((chs S).map fun c => (c, ("sign" : Str))).map ent := by
 unfold sgnL chs
 simp only [List.map_map, List.map_map]; rfl
theorem look_dup {a : Str} {v : AV} {L : List (Str × AV)} (h : L.lookup a = some v) (y : Str) : ((a, v) :: L).lookup y = L.lookup y := by
 simp only [List.lookup]
 by_cases e : y = a
 ·subst e; simp [h]
 ·simp only [show (y == a) = false from beq_eq_false_iff_ne.mpr e]
theorem look_cons {a : Str} {v : AV} {L L' : List (Str × AV)} (h : ∀ y, L.lookup y = L'.lookup y) (y : Str) : ((a, v) :: L).lookup y = ((a, v) :: L').lookup y := by
 simp only [List.lookup, h]
theorem look_ne {a x : Str} {v : AV} {L : List (Str × AV)} (h : x ≠ a) : ((a, v) :: L).lookup x = L.lookup x := by
 simp only [List.lookup]
 rw [show (x == a) = false from beq_eq_false_iff_ne.mpr h]
theorem LowL.put {k : Nat} {l : List (Str × AV)} {x : Str} {v : AV} (h : LowL k l) (hv : lowA k v = true) : LowL k (put l x v) := by
 intro y a e
 rw [lookup_put] at e
 split at e
 ·cases e; exact hv
 ·exact h y a e
end Mine
end
noncomputable section
namespace Mine
open PySem PySem.W PyProof.Rows PySem.Calls
theorem lowAs_ent (k : Nat) : ∀ l : List (Str × Str), lowAs k (l.map ent) = true
 | [] => rfl
 | e :: r => by
  show (lowA k (ent e) && lowAs k (r.map ent)) = true
  rw [lowAs_ent k r]; rfl
theorem lowAs_str (k : Nat) : ∀ l : List Str, lowAs k (l.map .str) = true
 | [] => rfl
 | e :: r => by
  show (lowA k (.str e) && lowAs k (r.map .str)) = true
  rw [lowAs_str k r]; rfl
theorem gap_pick (n : Nat) (hn : n < 8) : ∃ g, gapM[n]? = some g ∧ gapOs[n]? = some (.list (g.map .str)) := by
 have e : n < gapM.length := hn
 refine ⟨gapM[n], List.getElem?_eq_getElem e, ?_⟩
 unfold gapOs
 simp only [List.getElem?_map, List.getElem?_eq_getElem e]; rfl
theorem gap_facts : ∀ g ∈ gapM, g.length ≤ 2 ∧ (∀ x ∈ g, x.length ≤ 100) ∧ (Builtin.Str.glued "" g).length ≤ 20 := by decide +kernel
theorem eq_flat (i j : Nat) (h : i ≠ j) (x : Int) (e : x = (i : Int)) : (x == (j : Int)) = false := by
 rw [e]; exact beq_eq_false_iff_ne.mpr (by lia)
theorem eq_same (i : Nat) (x : Int) (e : x = (i : Int)) : (x == (i : Int)) = true := by rw [e]; exact beq_self_eq_true _
theorem run_rw_gap (x : Int) (L : List (Str × AV)) (r : AObj) : ∃ ds, exsW tRw 30 rwS5 (mkSt (("number", .sint x) :: L) [r] ds) (fun fl st' => fl = .next ∧ st' = mkSt (put (("number", .sint x) :: L) "gap" (.obj ((gi x).toNat + 1))) (r :: (gapOs ++ [gapTop])) []) := by
 refine el0_2 (gi_bd x) fun h0 h1 => ?_
 obtain ⟨r0, r1, r2, r3, r4, r5, r6, r7⟩ := run_rw_5 x L r (fun fl st' => fl = .next ∧ st' = mkSt (put (("number", .sint x) :: L) "gap" (.obj ((gi x).toNat + 1))) (r :: (gapOs ++ [gapTop])) [])
 have hc : gi x = ((0 : Nat) : Int) ∨ gi x = ((1 : Nat) : Int) ∨ gi x = ((2 : Nat) : Int) ∨ gi x = ((3 : Nat) : Int) ∨ gi x = ((4 : Nat) : Int) ∨ gi x = ((5 : Nat) : Int) ∨ gi x = ((6 : Nat) : Int) ∨ gi x = ((7 : Nat) : Int) := by lia
 rcases hc with e | e | e | e | e | e | e | e
 ·refine ⟨_, r0.mpr ⟨eq_same 0 _ e, rfl, ?_⟩⟩
  rw [e]; rfl
 ·refine ⟨_, r1.mpr ⟨eq_flat 1 0 (by decide) _ e, eq_same 1 _ e, rfl, ?_⟩⟩
  rw [e]; rfl
 ·refine ⟨_, r2.mpr ⟨eq_flat 2 0 (by decide) _ e, eq_flat 2 1 (by decide) _ e, eq_same 2 _ e, rfl, ?_⟩⟩
  rw [e]; rfl
 ·refine ⟨_, r3.mpr ⟨eq_flat 3 0 (by decide) _ e, eq_flat 3 1 (by decide) _ e, eq_flat 3 2 (by decide) _ e, eq_same 3 _ e, rfl, ?_⟩⟩
  rw [e]; rfl
 ·refine ⟨_, r4.mpr ⟨eq_flat 4 0 (by decide) _ e, eq_flat 4 1 (by decide) _ e, eq_flat 4 2 (by decide) _ e, eq_flat 4 3 (by decide) _ e, eq_same 4 _ e, rfl, ?_⟩⟩
  rw [e]; rfl
 ·refine ⟨_, r5.mpr ⟨eq_flat 5 0 (by decide) _ e, eq_flat 5 1 (by decide) _ e, eq_flat 5 2 (by decide) _ e, eq_flat 5 3 (by decide) _ e, eq_flat 5 4 (by decide) _ e, eq_same 5 _ e, rfl, ?_⟩⟩
  rw [e]; rfl
 ·refine ⟨_, r6.mpr ⟨eq_flat 6 0 (by decide) _ e, eq_flat 6 1 (by decide) _ e, eq_flat 6 2 (by decide) _ e, eq_flat 6 3 (by decide) _ e, eq_flat 6 4 (by decide) _ e, eq_flat 6 5 (by decide) _ e, eq_same 6 _ e, rfl, ?_⟩⟩
  rw [e]; rfl
 ·refine ⟨_, r7.mpr ⟨eq_flat 7 0 (by decide) _ e, eq_flat 7 1 (by decide) _ e, eq_flat 7 2 (by decide) _ e, eq_flat 7 3 (by decide) _ e, eq_flat 7 4 (by decide) _ e, eq_flat 7 5 (by decide) _ e, eq_flat 7 6 (by decide) _ e, eq_same 7 _ e, rfl, ?_⟩⟩
  rw [e]; rfl
structure RwN (L : List (Str × AV)) (x : Int) (t : Str) : Prop where
 number : L.lookup ("number" : Str) = some (.sint x)
 row : L.lookup ("row" : Str) = some (.obj 0)
 text : L.lookup ("text" : Str) = some (.sstr t)
 low : LowL 1 L
theorem RwN.cons {L : List (Str × AV)} {x : Int} {t : Str} (h : RwN L x t) {n : Str} {v : AV} (h1 : ("number" : Str) ≠ n) (h2 : ("row" : Str) ≠ n) (h3 : ("text" : Str) ≠ n) (hv : lowA 1 v = true) : RwN ((n, v) :: L) x t :=
 ⟨(look_ne h1).trans h.number, (look_ne h2).trans h.row, (look_ne h3).trans h.text, h.low.cons hv⟩
section
variable {cx : Cx} {A : Around}
theorem seqM {T : Tab} (C : CxOk cx) (TO : TabOk T cx A) (hA : A.handled = none) (VE : VErr cx) {N : Nat} {ss rest : List Stmt} {L : List (Str × AV)} {os : List AObj} {st2 : AS} (ds : List Bool) {ρ : Rho} {s : Shared} {Q : Flow → Shared → Prop} {E : Value → Shared → Prop}
  (w : exsW T N ss (mkSt L os ds) (fun fl st' => fl = .next ∧ st' = st2)) (R : Rel cx ρ (mkSt L os []) s)
  (k : ∀ ρ' s', PKeep ρ ρ' → TKeep s.heap s'.heap → Rel cx ρ' st2 s' → wpAny (model cx.prog cx.w) A (execs rest cx.env) Q E s') : wpAny (model cx.prog cx.w) A (execs (ss ++ rest) cx.env) Q E s :=
 seqW C TO hA VE (st := mkSt L os []) ds w R k
theorem ifM {T : Tab} (C : CxOk cx) (TO : TabOk T cx A) {N : Nat} {t : Expr} {body orelse : List Stmt} {pos : Pos} {L : List (Str × AV)} {os : List AObj} {st2 : AS} (ds : List Bool) {b : Bool} {ρ : Rho} {s : Shared} {Q : Flow → Shared → Prop} {E : Value → Shared → Prop}
  (w : trW T N t (mkSt L os ds) (fun c st' => c = b ∧ st' = st2)) (R : Rel cx ρ (mkSt L os []) s)
  (k : ∀ ρ' s', PKeep ρ ρ' → TKeep s.heap s'.heap → Rel cx ρ' st2 s' → wpAny (model cx.prog cx.w) A (execs (if b = true then body else orelse) cx.env) Q E s') : wpAny (model cx.prog cx.w) A (exec (.If t body orelse pos) cx.env) Q E s :=
 ifW C TO (st := mkSt L os []) ds w R k
theorem rw_a (C : CxOk cx) (TO : TabOk tRw cx A) (hA : A.handled = none) (VE : VErr cx) {x : Int} {L : List (Str × AV)} {row : List AV} {rest : List Stmt} {ρ : Rho} {s : Shared} {Q : Flow → Shared → Prop} {E : Value → Shared → Prop} (R : Rel cx ρ (mkSt (("number", .sint x) :: L) [.list row] []) s)
  (k : ∀ ρ' s', PKeep ρ ρ' → TKeep s.heap s'.heap → Rel cx ρ' (mkSt (("written", .sstr (fmOut (md x + 65536 * wy x))) :: ("signs", .sstr (rSg x)) :: ("way", .sint (wy x)) :: ("number", .sint x) :: L) [.list row] []) s' → wpAny (model cx.prog cx.w) A (execs rest cx.env) Q E s') :
  wpAny (model cx.prog cx.w) A (execs (rwS0 ++ (rwS1 ++ (rwS2 ++ rest))) cx.env) Q E s := by
 refine seqM C TO hA VE (N := 30) [] (by rw [run_rw_0]; exact ⟨rfl, rfl⟩) R fun ρ₁ s₁ p₁ t₁ R₁ => ?_
 have R₁ := Rel.cons (st := mkSt (("number", .sint x) :: L) [.list row] []) R₁
 refine seqM C TO hA VE (N := 30) [] (by rw [run_rw_1]; exact ⟨md_bd x, rfl, rfl⟩) R₁ fun ρ₂ s₂ p₂ t₂ R₂ => ?_
 have R₂ := Rel.cons (st := mkSt (("way", .sint (wy x)) :: ("number", .sint x) :: L) [.list row] []) R₂
 refine seqM C TO hA VE (N := 30) [] (by rw [run_rw_2]; exact ⟨IntMulOk.of_left (by decide), rfl, rfl⟩) R₂ fun ρ₃ s₃ p₃ t₃ R₃ => ?_
 have R₃ := Rel.cons (st := mkSt (("signs", .sstr (sgOut (md x))) :: ("way", .sint (wy x)) :: ("number", .sint x) :: L) [.list row] []) R₃
 exact k ρ₃ s₃ ((p₁.trans p₂).trans p₃) ((t₁.trans t₂).trans t₃) R₃
theorem rw_b (C : CxOk cx) (TOa : TabAll tRw cx A) (hA : A.handled = none) (VE : VErr cx) (KO : KOk2 cx.w cx.K) {x : Int} {t : Str} {L : List (Str × AV)} (N : RwN L x t) {row : List AV} {ρ : Rho} {s : Shared} {Q : Flow → Shared → Prop} {E : Value → Shared → Prop} (R : Rel cx ρ (mkSt (("written", .sstr (fmOut (md x + 65536 * wy x))) :: ("signs", .sstr (rSg x)) :: ("way", .sint (wy x)) :: L) [.list row] []) s)
  (k : ∀ ρ' s' L', PKeep ρ ρ' → TKeep s.heap s'.heap → RwN L' x t → Rel cx ρ' (mkSt (rwL (rW1 x) (.sstr (rSg x)) (wy x) x L') [.list row] []) s' → Q .next s') :
  wpAny (model cx.prog cx.w) A (exec rwStep cx.env) Q E s := by
 have TO : TabOk tRw cx A := by
  obtain ⟨p1, p2, p3, p4, p5, p6, p7, p8⟩ := cx
  exact TOa p5 p6 C
 have kR : cx.env.kindOf "range" = some .globalImplicit := (TO.kind "range").symm.trans (by kernel_rfl)
 generalize hw : fmOut (md x + 65536 * wy x) = w0 at R
 have hN : ((wy x).fmod 3) = (rN x : Int) := by
  have := wy_bd x
  unfold rN
  rw [Int.fmod_eq_emod_of_nonneg _ (by decide)]
  lia
 have hle := rN_le x
 refine for_range C TOa hA VE (n := rN x) (N := 30) (by lia) kR (KO.gl2 ("range", .type "range") (by decide +kernel)).1
  (fun i st' => ∃ L', st' = mkSt (("written", .sstr (qtN i w0)) :: L') [.list row] [] ∧ LowL 1 L' ∧ ∀ y, y ≠ ("step" : Str) → L'.lookup y = (((("signs" : Str), AV.sstr (rSg x)) :: (("way" : Str), AV.sint (wy x)) :: L : List (Str × AV))).lookup y)
  (fun st' => ∃ L', st' = mkSt (("written", .sstr (rW1 x)) :: L') [.list row] [] ∧ LowL 1 L' ∧ ∀ y, y ≠ ("step" : Str) → L'.lookup y = (((("signs" : Str), AV.sstr (rSg x)) :: (("way" : Str), AV.sint (wy x)) :: L : List (Str × AV))).lookup y)
  (by kernel_rfl) ⟨[], ?_⟩ (fun i st' hi hI _ => ?_) (fun st' hI _ => ?_) rfl R fun ρ' st' s' p' t' R' g' o' => ?_
 ·show evW tRw 30 rwIn.2.1 (mkSt (("written", .sstr w0) :: ("signs", .sstr (rSg x)) :: ("way", .sint (wy x)) :: L) [.list row] []) _
  rw [run_rw_e]
  exact ⟨.inr (by rw [hN]), ⟨_, rfl, (N.low.cons rfl).cons rfl, fun _ _ => rfl⟩, rfl⟩
 ·refine el1_3 hI fun L' q0_1 hl hL => ?_; subst q0_1
  refine ⟨[], ?_⟩
  show asgW tRw _ _ (mkSt (("written", .sstr (qtN i w0)) :: L') [.list row] []) _
  rw [run_rw_3]
  refine ⟨by rw [← hw]; exact qtN_ok _ i (by lia), rfl, _, rfl, hl.put rfl, fun y hy => ?_⟩
  rw [lookup_put, if_neg hy]
  exact hL y hy
 ·refine el1_3 hI fun L' q0_1 hl hL => ?_; subst q0_1
  refine ⟨[], rfl, rfl, L', ?_, hl, hL⟩
  unfold rW1; rw [hw]; rfl
 ·refine el1_3 o' fun L' q0_1 hl hL => ?_; subst q0_1
  have e1 : L'.lookup ("signs" : Str) = some (.sstr (rSg x)) := (hL _ (by decide +kernel)).trans (by kernel_rfl)
  have e2 : L'.lookup ("way" : Str) = some (.sint (wy x)) := (hL _ (by decide +kernel)).trans (by kernel_rfl)
  have e3 : ∀ y, y ≠ ("signs" : Str) → y ≠ ("way" : Str) → (((("signs" : Str), AV.sstr (rSg x)) :: (("way" : Str), AV.sint (wy x)) :: L : List (Str × AV))).lookup y = L.lookup y := fun y h1 h2 => (look_ne h1).trans (look_ne h2)
  have e4 : L'.lookup ("number" : Str) = some (.sint x) := ((hL _ (by decide +kernel)).trans (e3 _ (by decide +kernel) (by decide +kernel))).trans N.number
  have e5 : L'.lookup ("row" : Str) = some (.obj 0) := ((hL _ (by decide +kernel)).trans (e3 _ (by decide +kernel) (by decide +kernel))).trans N.row
  have e6 : L'.lookup ("text" : Str) = some (.sstr t) := ((hL _ (by decide +kernel)).trans (e3 _ (by decide +kernel) (by decide +kernel))).trans N.text
  refine k ρ' s' L' p' t' ⟨e4, e5, e6, hl⟩ (Rel.look (st := mkSt (("written", .sstr (rW1 x)) :: L') [.list row] []) R' fun y => ?_)
  refine look_cons (fun y => ?_) y
  refine (look_dup ?_ y).trans ((look_dup ?_ y).trans ((look_dup ?_ y).trans (look_dup e5 y)))
  ·rw [look_ne (by decide +kernel), look_ne (by decide +kernel), look_ne (by decide +kernel)]; exact e1
  ·rw [look_ne (by decide +kernel), look_ne (by decide +kernel)]; exact e2
  ·rw [look_ne (by decide +kernel)]; exact e4
end
end Mine
end
noncomputable section
namespace Mine
open PySem PySem.W PyProof.Rows PySem.Calls
theorem SmA.strs : ∀ l : List Str, SmA (l.map .str) (l.map .sstr)
 | [] => .nil
 | x :: r => .cons _ _ _ _ (.str x) (SmA.strs r)
noncomputable def LowE (k : Nat) (g : Str) (l : List (Str × AV)) : Prop := ∀ x a, x ≠ g → l.lookup x = some a → lowA k a = true
theorem LowL.e {k : Nat} {g : Str} {l : List (Str × AV)} (h : LowL k l) : LowE k g l := fun x a _ e => h x a e
theorem LowE.cons {k : Nat} {g : Str} {l : List (Str × AV)} {x : Str} {v : AV} (h : LowE k g l) (hv : x = g ∨ lowA k v = true) : LowE k g ((x, v) :: l) := by
 intro y a n e
 simp only [List.lookup] at e
 split at e
 ·rename_i q
  cases e
  rcases hv with rfl | hv
  ·exact (n (eq_of_beq q)).elim
  ·exact hv
 ·exact h y a n e
theorem LowE.close {k : Nat} {g : Str} {l : List (Str × AV)} {v : AV} (h : LowE k g l) (hv : lowA k v = true) : LowL k ((g, v) :: l) := by
 intro y a e
 by_cases q : y = g
 ·subst q
  simp only [List.lookup, beq_self_eq_true] at e
  cases e; exact hv
 ·rw [look_ne q] at e
  exact h y a q e
section
variable {cx : Cx} {A : Around}
theorem rSg_len (x : Int) : (rSg x).length = 10 := sgOut_len _
theorem rSg_in (x : Int) : InStr (rSg x) 0 := inStr_of (by decide) (by rw [rSg_len]; decide) (by rw [rSg_len]; decide)
theorem rw_c (C : CxOk cx) (TO : TabOk tRw cx A) (hA : A.handled = none) (VE : VErr cx) {x : Int} {t : Str} {L : List (Str × AV)} (N : RwN L x t) {er : List (Str × Str)} (hr : er.length ≤ 10000) {rest : List Stmt} {ρ : Rho} {s : Shared} {Q : Flow → Shared → Prop} {E : Value → Shared → Prop}
  (R : Rel cx ρ (mkSt (rwL (rW1 x) (.sstr (rSg x)) (wy x) x L) [.list (er.map ent)] []) s)
  (k : ∀ ρ' s' L' sA, PKeep ρ ρ' → TKeep s.heap s'.heap → RwN L' x t → L'.lookup ("written" : Str) = some (.sstr (rW x)) → L'.lookup ("signs" : Str) = some sA → (sA = .sstr (rS x) ∨ sA = .str (rS x)) → Rel cx ρ' (mkSt L' [.list ((er ++ rK x).map ent)] []) s' → wpAny (model cx.prog cx.w) A (execs rest cx.env) Q E s') :
  wpAny (model cx.prog cx.w) A (execs (rwS4 ++ rest) cx.env) Q E s := by
 have hl := rW_len x
 have hw := wy_bd x
 have nrw : ∀ W sA, lowA 1 sA = true → RwN (rwL W sA (wy x) x L) x t := fun W sA hs =>
  ⟨by unfold rwL; rw [look_ne (by decide +kernel), look_ne (by decide +kernel), look_ne (by decide +kernel)]; rfl,
   by unfold rwL; rw [look_ne (by decide +kernel), look_ne (by decide +kernel), look_ne (by decide +kernel), look_ne (by decide +kernel)]; rfl,
   by unfold rwL; rw [look_ne (by decide +kernel), look_ne (by decide +kernel), look_ne (by decide +kernel), look_ne (by decide +kernel), look_ne (by decide +kernel)]; exact N.text,
   ((((N.low.cons rfl).cons rfl).cons rfl).cons hs).cons rfl⟩
 have lsg : ∀ W sA, (rwL W sA (wy x) x L).lookup ("signs" : Str) = some sA := fun W sA => by unfold rwL; rw [look_ne (by decide +kernel)]; rfl
 have hr' : (er.map ent).length ≤ 100000 := by rw [List.length_map]; lia
 by_cases h3 : wy x = 3
 ·have hW : rW x = "\\" ++ rW1 x := by unfold rW; rw [if_pos h3]
  have hS : rS x = Txt.slice (rSg x) (some 1) none := by unfold rS; rw [if_pos h3]
  have hK : rK x = [(chrAt (rSg x) 0, ("kept" : Str))] := by unfold rK; rw [if_pos h3]
  refine seqM C TO hA VE (N := 30) [true] (by
   rw [run_rw_4a]
   exact ⟨by rw [h3]; rfl, sz_le (by rw [← Str.length_append, ← hW]; lia), rSg_in x, hr', sz_le (by rw [rSg_len]; decide), rfl, rfl⟩) R fun ρ₁ s₁ p₁ t₁ R₁ => ?_
  refine k ρ₁ s₁ _ (.sstr (rS x)) p₁ t₁ (nrw (rW x) _ rfl) rfl (lsg _ _) (.inl rfl) ?_
  rw [hW, hS, hK, List.map_append]
  exact R₁
 ·have hW : rW x = rW1 x := by unfold rW; rw [if_neg h3]
  have b3 : (wy x == 3) = false := beq_eq_false_iff_ne.mpr h3
  by_cases hq : 0 < wy x ∧ chrAt (rSg x) 0 = "?"
  ·have hS : rS x = "" := by unfold rS; rw [if_neg h3, if_pos hq]
   have hK : rK x = [(repS "'" (wy x - 1) ++ rSg x ++ repS "'" (wy x - 1), ("kept" : Str))] := by unfold rK; rw [if_neg h3, if_pos hq]
   rw [rwS4_eq]
   refine wpAny_execs_cons (ifM C TO (N := 30) (b := false) [false] (by
    rw [run_rw_t1]
    exact ⟨b3, rfl, rfl⟩) R fun ρ₁ s₁ p₁ t₁ R₁ => ?_)
   rw [if_neg (by decide)]
   refine wpAny_execs_cons (ifM C TO (N := 30) (b := true) [true, true] (by
    rw [run_rw_t2]
    exact ⟨decide_eq_true hq.1, rSg_in x, beq_iff_eq.mpr hq.2, rfl, rfl⟩) R₁ fun ρ₂ s₂ p₂ t₂ R₂ => ?_)
   rw [if_pos rfl]
   refine seqM C TO hA VE (N := 30) [] (by
    rw [run_rw_m1]
    exact ⟨by lia, rfl, rfl⟩) R₂ fun ρ₃ s₃ p₃ t₃ R₃ => ?_
   have R₃ : Rel cx ρ₃ (mkSt (("mark", .sstr (repS "'" (wy x - 1))) :: rwL (rW1 x) (.sstr (rSg x)) (wy x) x L) [.list (er.map ent)] []) s₃ := Rel.cons (st := mkSt (rwL (rW1 x) (.sstr (rSg x)) (wy x) x L) [.list (er.map ent)] []) R₃
   have lm : (repS "'" (wy x - 1)).length ≤ 1 := by
    have : wy x - 1 = 0 ∨ wy x - 1 = 1 := by lia
    rcases this with e | e <;> rw [e] <;> decide +kernel
   have ls := rSg_len x
   rw [← List.append_nil rwM2]
   refine seqM C TO hA VE (N := 30) [] (by
    rw [run_rw_m2]
    exact ⟨sz_le (by lia), sz_le (by rw [Str.length_append]; lia), hr', rfl, rfl⟩) R₃ fun ρ₄ s₄ p₄ t₄ R₄ => ?_
   refine wpAny_execs_nil (wpAny_execs_nil ?_)
   refine k ρ₄ s₄ _ (.str "") (((p₁.trans p₂).trans p₃).trans p₄) (((t₁.trans t₂).trans t₃).trans t₄) ((nrw (rW1 x) (.str "") rfl).cons (n := "mark") (v := .sstr (repS "'" (wy x - 1))) (by decide +kernel) (by decide +kernel) (by decide +kernel) rfl) ?_ ?_ (.inr (by rw [hS])) ?_
   ·rw [hW, look_ne (by decide +kernel)]; rfl
   ·rw [look_ne (by decide +kernel)]; exact lsg _ _
   ·rw [hK, List.map_append]
    exact R₄
  ·have hS : rS x = rSg x := by unfold rS; rw [if_neg h3, if_neg hq]
   have hK : rK x = [] := by unfold rK; rw [if_neg h3, if_neg hq]
   have fin : ∀ ρ₁ s₁, PKeep ρ ρ₁ → TKeep s.heap s₁.heap → Rel cx ρ₁ (mkSt (rwL (rW1 x) (.sstr (rSg x)) (wy x) x L) [.list (er.map ent)] []) s₁ → wpAny (model cx.prog cx.w) A (execs rest cx.env) Q E s₁ := by
    intro ρ₁ s₁ p₁ t₁ R₁
    refine k ρ₁ s₁ _ (.sstr (rSg x)) p₁ t₁ (nrw (rW1 x) _ rfl) (by rw [hW]; rfl) (lsg _ _) (.inl (by rw [hS])) ?_
    rw [hK, List.append_nil]
    exact R₁
   by_cases h0 : 0 < wy x
   ·have hc : chrAt (rSg x) 0 ≠ "?" := fun e => hq ⟨h0, e⟩
    refine seqM C TO hA VE (N := 30) [false, true, false] (by
     rw [run_rw_4c]
     exact ⟨b3, decide_eq_true h0, rSg_in x, beq_eq_false_iff_ne.mpr hc, rfl, rfl⟩) R fin
   ·refine seqM C TO hA VE (N := 30) [false, false] (by
     rw [run_rw_4b]
     exact ⟨b3, decide_eq_false h0, rfl, rfl⟩) R fin
theorem rw_d (C : CxOk cx) (TO : TabOk tRw cx A) (hA : A.handled = none) (VE : VErr cx) {x : Int} {t : Str} {L : List (Str × AV)} (N : RwN L x t) {er : List (Str × Str)} {rest ss : List Stmt} (hss : rwS5 = ss) {ρ : Rho} {s : Shared} {Q : Flow → Shared → Prop} {E : Value → Shared → Prop}
  (R : Rel cx ρ (mkSt L [.list (er.map ent)] []) s)
  (k : ∀ ρ' s' v, TKeep s.heap s'.heap → Rel cx ρ' (mkSt (("gap", .obj 1) :: ("gap", v) :: ("number", .sint x) :: L) [.list (er.map ent), .list ((rG x).map .str)] []) s' → wpAny (model cx.prog cx.w) A (execs rest cx.env) Q E s') :
  wpAny (model cx.prog cx.w) A (execs (ss ++ rest) cx.env) Q E s := by
 refine el1_1 (run_rw_gap x L (.list (er.map ent))) fun ds w => ?_
 have R := Rel.look (st := mkSt L [.list (er.map ent)] []) (loc' := ("number", .sint x) :: L) R (look_dup N.number)
 rw [hss] at w
 refine seqM C TO hA VE ds w R fun ρ₁ s₁ p₁ t₁ R₁ => ?_
 have R₁ : Rel cx ρ₁ (mkSt (("gap", .obj ((gi x).toNat + 1)) :: ("number", .sint x) :: L) (.list (er.map ent) :: (gapOs ++ [gapTop])) []) s₁ := Rel.cons (st := mkSt (("number", .sint x) :: L) (.list (er.map ent) :: (gapOs ++ [gapTop])) []) R₁
 have hb := gi_bd x
 refine el1_2 (gap_pick (gi x).toNat (by lia)) fun g h1 h2 => ?_
 have hg : rG x = g := by unfold rG; rw [h1]; rfl
 have hj : (AObj.list (er.map ent) :: (gapOs ++ [gapTop]))[(gi x).toNat + 1]? = some (.list (g.map .str)) := by
  have hz : gapOs.length = 8 := by decide +kernel
  rw [List.getElem?_cons_succ, List.getElem?_append_left (by rw [hz]; lia)]; exact h2
 have hlk : (mkSt (("gap", .obj ((gi x).toNat + 1)) :: ("number", .sint x) :: L) (.list (er.map ent) :: (gapOs ++ [gapTop])) []).loc.lookup ("gap" : Str) = some (.obj ((gi x).toNat + 1)) := by
  show List.lookup (Str.ofString "gap") ((Str.ofString "gap", AV.obj ((gi x).toNat + 1)) :: _) = _
  rw [List.lookup_cons_self]
 refine el2_1 (Rel.pick (g := "gap") (j := (gi x).toNat) R₁ (o0 := .list (er.map ent)) (oj := .list (g.map .str)) rfl hj (lowAs_ent 1 er) (lowAs_str 1 g) hlk (fun y a hy e => (LowE.cons (N.low.cons (x := ("number" : Str)) (v := .sint x) rfl).e (.inl rfl)) y a hy e)) fun p0 pj R₂ => ?_
 refine k [p0, pj] s₁ (.obj ((gi x).toNat + 1)) t₁ ?_
 rw [hg]; exact R₂
theorem rw_e (C : CxOk cx) (TO : TabOk tRw cx A) (TC1 : TabComp tC1 cx A rwX.s1) (TC2 : TabComp tC2 cx A rwX.s2) (hA : A.handled = none) (VE : VErr cx) {x : Int} {t : Str} {L : List (Str × AV)} (N : RwN L x t) (ht : t.length ≤ 100000) {sA v : AV} (hW : L.lookup ("written" : Str) = some (.sstr (rW x))) (hs : L.lookup ("signs" : Str) = some sA) (hS : sA = .sstr (rS x) ∨ sA = .str (rS x))
  (zS : (rS x).cps.size ≤ 1000) {er : List (Str × Str)} (hr : er.length ≤ 10000) {ρ : Rho} {s : Shared} {Q : Flow → Shared → Prop} {E : Value → Shared → Prop}
  (R : Rel cx ρ (mkSt (("gap", .obj 1) :: ("gap", v) :: ("number", .sint x) :: L) [.list (er.map ent), .list ((rG x).map .str)] []) s)
  (k : ∀ ρ' s' L', TKeep s.heap s'.heap → RwN L' x (t ++ textStep x) → Rel cx ρ' (mkSt L' [.list ((er ++ ((chs (rS x)).map (fun c => (c, ("sign" : Str))) ++ (rG x).map (fun c => (c, ("gap" : Str))))).map ent)] []) s' → Q .next s') :
  wpAny (model cx.prog cx.w) A (execs (rwExt :: rwS7) cx.env) Q E s := by
 refine el0_3 (gap_facts _ (rG_mem x)) fun z1 z2 z3 => ?_
 have zW := rW_len x
 generalize hL2 : (("gap", v) :: ("number", AV.sint x) :: L : List (Str × AV)) = L2 at R
 have ne2 : ∀ y, y ≠ ("gap" : Str) → y ≠ ("number" : Str) → L2.lookup y = L.lookup y := fun y h1 h2 => by rw [← hL2]; exact (look_ne h1).trans (look_ne h2)
 have l2s : L2.lookup ("signs" : Str) = some sA := (ne2 _ (by decide +kernel) (by decide +kernel)).trans hs
 have l2w : L2.lookup ("written" : Str) = some (.sstr (rW x)) := (ne2 _ (by decide +kernel) (by decide +kernel)).trans hW
 have l2r : L2.lookup ("row" : Str) = some (.obj 0) := (ne2 _ (by decide +kernel) (by decide +kernel)).trans N.row
 have l2t : L2.lookup ("text" : Str) = some (.sstr t) := (ne2 _ (by decide +kernel) (by decide +kernel)).trans N.text
 have l2n : L2.lookup ("number" : Str) = some (.sint x) := by rw [← hL2, look_ne (by decide +kernel)]; rfl
 have low2 : LowE 1 "gap" L2 := by rw [← hL2]; exact LowE.cons (N.low.cons (x := ("number" : Str)) (v := .sint x) rfl).e (.inl rfl)
 have lsA : lowA 1 sA = true := by rcases hS with rfl | rfl <;> rfl
 have R := Rel.look (st := mkSt (("gap", .obj 1) :: L2) [.list (er.map ent), .list ((rG x).map .str)] []) (loc' := ("gap", .obj 1) :: ("signs", sA) :: L2) R (fun y => look_cons (look_dup l2s) y)
 refine wpAny_execs_cons (rw_ext C TO TC1 TC2 hA hS (g := rG x) (row := er.map ent) (by rw [look_ne (by decide +kernel), look_ne (by decide +kernel)]; exact l2r) zS (by lia) (by rw [List.length_map]; exact hr) R fun ρ₁ s₁ p₁ t₁ R₁ => ?_)
 have R₁ := Rel.look (loc' := ("text", .sstr t) :: ("gap", .obj 1) :: ("written", .sstr (rW x)) :: (("gap", .obj 1) :: ("signs", sA) :: L2)) R₁ (fun y => by
  refine (look_dup ?_ y).trans ((look_dup ?_ y).trans (look_dup ?_ y))
  ·rw [look_ne (by decide +kernel), look_ne (by decide +kernel), look_ne (by decide +kernel), look_ne (by decide +kernel)]; exact l2t
  ·rw [look_ne (by decide +kernel)]; rfl
  ·rw [look_ne (by decide +kernel), look_ne (by decide +kernel)]; exact l2w)
 generalize hB : (("gap", AV.obj 1) :: ("signs", sA) :: L2 : List (Str × AV)) = B at R₁
 have lowB : LowE 1 "gap" B := by rw [← hB]; exact (low2.cons (.inr lsA)).cons (.inl rfl)
 have w : exsW tRw 30 rwS7 (mkSt (("text", .sstr t) :: ("gap", .obj 1) :: ("written", .sstr (rW x)) :: B) [.list (er.map ent ++ (sgnL (rS x) ++ gapL (rG x))), .list ((rG x).map .str), .list (sgnL (rS x)), .list (gapL (rG x)), .list (sgnL (rS x) ++ gapL (rG x))] [])
   (fun fl st' => fl = .next ∧ st' = mkSt (put (("text", .sstr t) :: ("gap", .obj 1) :: ("written", .sstr (rW x)) :: B) "text" (.sstr (t ++ textStep x))) [.list (er.map ent ++ (sgnL (rS x) ++ gapL (rG x))), .list ((rG x).map .str), .list (sgnL (rS x)), .list (gapL (rG x)), .list (sgnL (rS x) ++ gapL (rG x))] []) := by
  rw [run_rw_7]
  refine ⟨rG x, SmA.strs _, by decide +kernel, by lia, z2, by lia, ?_⟩
  refine ⟨sz_le (by lia), sz_le ?_, rfl, rfl⟩
  show t.length + (rW x ++ Builtin.Str.glued "" (rG x)).length ≤ 1000000
  rw [Str.length_append]; lia
 rw [← List.append_nil rwS7]
 refine seqM C TO hA VE (N := 30) [] w R₁ fun ρ₂ s₂ p₂ t₂ R₂ => wpAny_execs_nil ?_
 have R₂ := Rel.cons (st := mkSt (("text", .sstr t) :: ("gap", .obj 1) :: ("written", .sstr (rW x)) :: B) [.list (er.map ent ++ (sgnL (rS x) ++ gapL (rG x))), .list ((rG x).map .str), .list (sgnL (rS x)), .list (gapL (rG x)), .list (sgnL (rS x) ++ gapL (rG x))] []) R₂
 have erow : er.map ent ++ (sgnL (rS x) ++ gapL (rG x)) = (er ++ ((chs (rS x)).map (fun c => (c, ("sign" : Str))) ++ (rG x).map (fun c => (c, ("gap" : Str))))).map ent := by
  rw [List.map_append, List.map_append, ← sgnL_eq, ← gapL_eq]
 rw [erow] at R₂
 have lowC : LowE 1 "gap" (("text", .sstr (t ++ textStep x)) :: ("text", .sstr t) :: ("gap", .obj 1) :: ("written", .sstr (rW x)) :: B) := (((lowB.cons (.inr rfl)).cons (.inl rfl)).cons (.inr rfl)).cons (.inr rfl)
 obtain ⟨a, R₃⟩ := R₂.dropTo 1 (g := "gap") (j := 1) (by show (lowAs 1 _ && true) = true; rw [lowAs_ent]; rfl) (by rw [look_ne (by decide +kernel), look_ne (by decide +kernel)]; rfl) lowC
 refine k _ s₂ _ (t₁.trans t₂) ⟨?_, ?_, ?_, lowC.close rfl⟩ R₃
 ·rw [look_ne (by decide +kernel), look_ne (by decide +kernel), look_ne (by decide +kernel), look_ne (by decide +kernel), look_ne (by decide +kernel), ← hB, look_ne (by decide +kernel), look_ne (by decide +kernel)]; exact l2n
 ·rw [look_ne (by decide +kernel), look_ne (by decide +kernel), look_ne (by decide +kernel), look_ne (by decide +kernel), look_ne (by decide +kernel), ← hB, look_ne (by decide +kernel), look_ne (by decide +kernel)]; exact l2r
 ·rw [look_ne (by decide +kernel)]; rfl
end
end Mine
end
noncomputable section
namespace Mine
open PySem PySem.W PyProof.Rows PySem.Calls
noncomputable def rowL (xs : List Int) : List (Str × Str) := xs.foldl (fun r x => r ++ rowStep x) []
noncomputable def textL (xs : List Int) : Str := xs.foldl (fun t x => t ++ textStep x) ""
theorem rowL_snoc (xs : List Int) (x : Int) : rowL (xs ++ [x]) = rowL xs ++ rowStep x := by simp [rowL]
theorem textL_snoc (xs : List Int) (x : Int) : textL (xs ++ [x]) = textL xs ++ textStep x := by simp [textL]
theorem rS_le (x : Int) : (rS x).cps.size ≤ 10 := by
 show (rS x).length ≤ 10
 have h := rSg_len x
 unfold rS
 split
 ·have := Txt.slice_le (rSg x) (some 1) none
  lia
 ·split
  ·decide +kernel
  ·lia
theorem rowStep_len (x : Int) : (rowStep x).length ≤ 20 := by
 have h1 := rS_le x
 have h2 := (gap_facts _ (rG_mem x)).1
 have h3 : (rK x).length ≤ 1 := by
  unfold rK
  split
  ·simp
  ·split <;> simp
 unfold rowStep
 simp only [List.length_append, List.length_map, chs, List.length_range]
 lia
theorem textStep_len (x : Int) : (textStep x).length ≤ 300 := by
 have h1 := rW_len x
 have h2 := (gap_facts _ (rG_mem x)).2.2
 unfold textStep
 rw [Str.length_append]
 lia
theorem take_snoc {α : Type} {xs : List α} {i : Nat} {x : α} (h : xs[i]? = some x) : xs.take (i + 1) = xs.take i ++ [x] := by
 rw [List.take_add_one, h]; rfl
theorem rowL_len (xs : List Int) : ∀ i, (rowL (xs.take i)).length ≤ 20 * i
 | 0 => by simp [rowL]
 | i + 1 => by
  have ih := rowL_len xs i
  cases h : xs[i]? with
  | none => rw [List.take_of_length_le (by have := List.getElem?_eq_none_iff.mp h; lia)]; rw [List.take_of_length_le (by have := List.getElem?_eq_none_iff.mp h; lia)] at ih; lia
  | some x =>
   rw [take_snoc h, rowL_snoc, List.length_append]
   have := rowStep_len x
   lia
theorem textL_len (xs : List Int) : ∀ i, (textL (xs.take i)).length ≤ 300 * i
 | 0 => by simp [textL]; decide +kernel
 | i + 1 => by
  have ih := textL_len xs i
  cases h : xs[i]? with
  | none => rw [List.take_of_length_le (by have := List.getElem?_eq_none_iff.mp h; lia)]; rw [List.take_of_length_le (by have := List.getElem?_eq_none_iff.mp h; lia)] at ih; lia
  | some x =>
   simp only [take_snoc h, textL_snoc, Str.length_append]
   have := textStep_len x
   lia
structure RwI (L : List (Str × AV)) (t : Str) : Prop where
 row : L.lookup ("row" : Str) = some (.obj 0)
 text : L.lookup ("text" : Str) = some (.sstr t)
 low : LowL 1 L
theorem RwN.i {L : List (Str × AV)} {x : Int} {t : Str} (h : RwN L x t) : RwI L t := ⟨h.row, h.text, h.low⟩
theorem RwI.n {L : List (Str × AV)} {t : Str} (h : RwI L t) (x : Int) : RwN (("number", .sint x) :: L) x t :=
 ⟨List.lookup_cons_self, (look_ne (by decide +kernel)).trans h.row, (look_ne (by decide +kernel)).trans h.text, h.low.cons rfl⟩
section
variable {cx : Cx} {A : Around}
theorem rw_turn (C : CxOk cx) (TOa : TabAll tRw cx A) (TC1 : TabComp tC1 cx A rwX.s1) (TC2 : TabComp tC2 cx A rwX.s2) (hA : A.handled = none) (VE : VErr cx) (KO : KOk2 cx.w cx.K) {x : Int} {t : Str} {L : List (Str × AV)} (N : RwI L t) (ht : t.length ≤ 100000) {er : List (Str × Str)} (hr : er.length ≤ 9000) {ρ : Rho} {s : Shared} {Q : Flow → Shared → Prop} {E : Value → Shared → Prop}
  (R : Rel cx ρ (mkSt (("number", .sint x) :: L) [.list (er.map ent)] []) s)
  (k : ∀ ρ' s' L', TKeep s.heap s'.heap → RwI L' (t ++ textStep x) → Rel cx ρ' (mkSt L' [.list ((er ++ rowStep x).map ent)] []) s' → Q .next s') :
  wpAny (model cx.prog cx.w) A (execs rwB cx.env) Q E s := by
 have TO : TabOk tRw cx A := by
  obtain ⟨p1, p2, p3, p4, p5, p6, p7, p8⟩ := cx
  exact TOa p5 p6 C
 have zK : (rK x).length ≤ 1 := by
  unfold rK
  split
  ·simp
  ·split <;> simp
 rw [rwB_split]
 generalize hs5 : rwS5 = ss5
 refine rw_a C TO hA VE R fun ρ₁ s₁ p₁ t₁ R₁ => wpAny_execs_cons ?_
 refine rw_b C TOa hA VE KO (N.n x) R₁ fun ρ₂ s₂ L₂ p₂ t₂ N₂ R₂ => ?_
 refine rw_c C TO hA VE N₂ (by lia) R₂ fun ρ₃ s₃ L₃ sA p₃ t₃ N₃ hW hs hS R₃ => ?_
 refine rw_d C TO hA VE N₃ hs5 R₃ fun ρ₄ s₄ v t₄ R₄ => ?_
 refine rw_e C TO TC1 TC2 hA VE N₃ ht hW hs hS (by have := rS_le x; lia) (by rw [List.length_append]; lia) R₄ fun ρ₅ s₅ L₅ t₅ N₅ R₅ => ?_
 refine k ρ₅ s₅ L₅ ((((t₁.trans t₂).trans t₃).trans t₄).trans t₅) N₅.i ?_
 rw [List.append_assoc] at R₅
 exact R₅
end
theorem rw_tabs {cx : Cx} {A : Around} {k : Nat} (KO : KOk2 cx.w cx.K) (hp : cx.prog = prog0) (Rm : Room A (k + 2)) (hsc : cx.env.scope = scopeOf dRow) : TabAll tRw cx A ∧ TabComp tC1 cx A rwX.s1 ∧ TabComp tC2 cx A rwX.s2 := by
 refine ⟨fun h mt C => ?_, fun h Cc C => ?_, fun h Cc C => ?_⟩
 ·exact tabN_ok (cx := cx.sub h mt cx.env) (A := A) KO hsc bmF_ok (fun f avs st Qa w => smRw_ok (k := k) ⟨C, KO, hp, Rm⟩ w) (fun f i st Qa w => w.elim)
 ·exact tabN_ok (cx := cx.sub h [Cc] (compEnv rwX.s1 Cc cx.env)) (A := A) KO rfl (fun p hp => nomatch hp) (fun f avs st Qa w => w.elim) (fun f i st Qa w => w.elim)
 ·exact tabN_ok (cx := cx.sub h [Cc] (compEnv rwX.s2 Cc cx.env)) (A := A) KO rfl (fun p hp => nomatch hp) (fun f avs st Qa w => w.elim) (fun f i st Qa w => w.elim)
theorem wr_list {I ax : Addr} {items : Array Value} : Wr [I] (fun i v h => items[i]? = some v ∧ h.IsListIter I ax (i + 1) ∧ h.IsList ax items) (fun i h => h.IsListIter I ax i ∧ h.IsList ax items) where
 st i h st b hb vs n' q := by
  rw [List.mem_singleton.mp hb] at q
  refine el1_3 st.1 fun o ho _ hd => ?_
  rw [ho] at q
  cases q; cases hd
 md i v h m b hb vs n' q := by
  rw [List.mem_singleton.mp hb] at q
  refine el1_3 m.2.1 fun o ho _ hd => ?_
  rw [ho] at q
  cases q; cases hd
 live i h st b hb q := by
  rw [List.mem_singleton.mp hb] at q
  refine el1_2 st.1 fun o ho _ => ?_
  rw [ho] at q; cases q
theorem row_ok {cx : Cx} {A : Around} {k : Nat} (G : Gd2 cx A (k + 3)) {xs : List Int} (hx : xs.length ≤ 20) {st : AS} {ρ : Rho} {s : Shared} {a : Addr} {vs : List Value} {n : Nat} {R : Result → Shared → Prop} (R₀ : Rel cx ρ st s) (ha : s.heap.get? a = some (lstObj vs n)) (hv : VRels s.heap [] (xs.map .sint) vs)
  (kv : ∀ s' T b t rvs nn m, (∀ b o, s.heap.get? b = some o → s'.heap.get? b = some o) → Rel cx ρ st s' → s'.heap.get? T = some (tupObj [.str (textL xs) t, .ref b] m) → s.heap.get? b = none → s'.heap.get? b = some (lstObj rvs nn) → VRels s'.heap [] ((rowL xs).map ent) rvs → R (.ok (.ret (.ref T))) s') :
  codeAny (model cx.prog cx.w) A (.call (.ref 810) ⟨[.ref a], []⟩) R s := by
 refine enterP G.C (ns := nm ["numbers"]) (avs := [.val (.ref a)]) (G.hp ▸ G.KO.fRow) G.KO.nl (by have := G.Rm.depth; lia) (by decide +kernel) rfl R₀ (.cons _ _ _ _ (.val _) .nil) fun env s₁ EO C' R₁ => ?_
 have Rm : Room (A.deeper env) (k + 2) := G.Rm.deeper env
 have ve : VErr (cx.sub s.heap [] env) := G.KO.ve
 have hA := Rm.handled
 refine el0_3 (rw_tabs (cx := cx.sub s.heap [] env) (A := A.deeper env) (k := k) G.KO G.hp Rm EO.scope) fun TOa TC1 TC2 => ?_
 have TO : TabOk tRw (cx.sub s.heap [] env) (A.deeper env) := TOa _ _ C'
 rw [rw_split]
 have kp₁ : ∀ b o, s.heap.get? b = some o → s₁.heap.get? b = some o := fun b o e => R₁.keep b o e (by intro z; cases z)
 refine seqM (L := (nm ["numbers"]).zip [.val (.ref a)]) (os := []) C' TO hA ve (N := 30) [] (by rw [run_rw_head]; exact ⟨rfl, rfl⟩) R₁ fun ρ₂ s₂ p₂ t₂ R₂ => ?_
 have R₂ : Rel (cx.sub s.heap [] env) ρ₂ (mkSt [("numbers", .val (.ref a)), ("text", .sstr ""), ("row", .obj 0)] [.list []] []) s₂ :=
  R₂.swap ⟨.cons _ _ _ _ _ (.same _) (.cons _ _ _ _ _ (.str _) (.refl _)), .refl _, rfl⟩
 have kN : env.kindOf "numbers" = some .local := (TO.kind "numbers").symm.trans (by kernel_rfl)
 have kM : env.kindOf "number" = some .local := (TO.kind "number").symm.trans (by kernel_rfl)
 refine wpAny_execs_cons (wpAny_For (local_name C' R₂ kN (by decide +kernel) (av := .val (.ref a)) (by kernel_rfl) fun v r => ?_) (fun _ => rfl))
 w_dflts r
 have kp₂ : ∀ b o, s.heap.get? b = some o → s₂.heap.get? b = some o := fun b o e => R₂.keep b o e (by intro z; cases z)
 have ha₂ := kp₂ _ _ ha
 have hil : s₂.heap.IsList a vs.toArray := ⟨_, ha₂, rfl, n, rfl⟩
 refine wpAny_pyIter_list hil ?_
 have hne : a ≠ s₂.heap.objs.size := fun q => by have := no_get s₂.heap; rw [← q, ha₂] at this; cases this
 have R₃ : Rel (cx.sub s.heap [] env) ρ₂ (mkSt [("numbers", .val (.ref a)), ("text", .sstr ""), ("row", .obj 0)] [.list []] []) { s₂ with heap := s₂.heap.push { cls := .type "list_iterator", data := .fields #[.ref a, .int 0 0] } } := R₂.ext push_keep rfl rfl
 refine el0_2 (fresh_place R₂ (no_get s₂.heap)) fun f1 f2 => ?_
 have hlen : vs.length = xs.length := by rw [← hv.length, List.length_map]
 have hsz : vs.toArray.size = xs.length := by rw [List.size_toArray, hlen]
 have aold : ∀ {ρ' : Rho} {st' : AS} {s' : Shared}, Rel (cx.sub s.heap [] env) ρ' st' s' → a ∉ env.locals :: foot st'.objs ρ' := by
  intro ρ' st' s' R' hm
  exact (R'.own_ne hm ha (by intro z; cases z)) rfl
 have TC1' : ∀ h os ρ', TabComp tC1 ((cx.sub s.heap [] env).now h os ρ') (A.deeper env) rwX.s1 := fun h os ρ' h' Cc C1 => TC1 h' Cc C1
 have TC2' : ∀ h os ρ', TabComp tC2 ((cx.sub s.heap [] env).now h os ρ') (A.deeper env) rwX.s2 := fun h os ρ' h' Cc C1 => TC2 h' Cc C1
 have TOa' : ∀ h os ρ', TabAll tRw ((cx.sub s.heap [] env).now h os ρ') (A.deeper env) := fun h os ρ' h' mt C1 => TOa h' mt C1
 refine forK (A := A.deeper env) C' (KTurns.ofWalks (Walks.list hA s₂.heap.objs.size a hne vs.toArray) fun i v s Q E st q => by rw [name_go]; exact wpAny_pure q) wr_list
  (fun i ρ' st' => ∃ L, st' = mkSt L [.list ((rowL (xs.take i)).map ent)] [] ∧ RwI L (textL (xs.take i)))
  (fun ρ' st' => ∃ L, st' = mkSt L [.list ((rowL xs).map ent)] [] ∧ RwI L (textL xs))
  (fun i v ρ' st' s' E hi _ hP hI C₁ R' hg' => ?_) (fun ρ' st' s' E hI C₁ R' hg' => ?_) ⟨_, rfl, ?_⟩ rfl R₃ ?_ ?_ ?_ fun ρ' st' s' t' R' g' o' => ?_
 ·refine el1_2 hI fun L q0_1 hL => ?_; subst q0_1
  have hP : vs.toArray[i]? = some v := hP
  rw [List.getElem?_toArray] at hP
  refine el1_2 (hv.getElem hP) fun av h1 h2 => ?_
  rw [List.getElem?_map] at h1
  cases hxi : xs[i]? with
  | none => rw [hxi] at h1; exact nS h1
  | some x =>
   rw [hxi] at h1
   cases h1
   cases h2
   refine wpAny_assign_Name (store_ok C₁ kM R' (.sint x _) fun s₄ t₄ R₄ => ?_)
   have R₄ := Rel.cons (st := mkSt L [.list ((rowL (xs.take i)).map ent)] []) R₄
   have hi' : i < xs.length := (List.getElem?_eq_some_iff.mp hxi).1
   have z1 := textL_len xs i
   have z2 := rowL_len xs i
   refine rw_turn C₁ (TOa' _ _ _) (TC1' _ _ _) (TC2' _ _ _) hA ve G.KO hL (by lia) (by lia) R₄ fun ρ₅ s₅ L₅ t₅ N₅ R₅ => ?_
   refine ⟨ρ₅, _, R₅, rfl, L₅, ?_, ?_⟩
   ·rw [take_snoc hxi, rowL_snoc]
   ·rw [take_snoc hxi, textL_snoc]; exact N₅
 ·refine el1_2 hI fun L q0_1 hL => ?_; subst q0_1
  rw [hsz, List.take_length] at hL
  refine wpAny_execs_nil ⟨rfl, ρ', _, R', rfl, L, ?_, hL⟩
  rw [hsz, List.take_length]
 ·exact ⟨by kernel_rfl, by kernel_rfl, fun x av e => by
   simp only [List.lookup] at e
   split at e
   ·cases e; rfl
   ·split at e
    ·cases e; rfl
    ·split at e
     ·cases e; rfl
     ·cases e⟩
 ·exact ⟨⟨_, Heap.get?_push_size _ rfl, rfl, rfl⟩, hil.at fun o e => push_keep _ _ e⟩
 ·intro b' hb'
  rcases List.mem_cons.mp hb' with rfl | hb'
  ·exact ⟨f1, by rw [Heap.get?_push_size _ rfl]; simp⟩
  ·rw [List.mem_singleton.mp hb']
   exact ⟨aold R₂, by rw [push_keep _ _ ha₂]; simp⟩
 ·intro b' hb'
  rw [List.mem_singleton.mp hb']; exact f2
 ·refine el1_2 o' fun L q0_1 hL => ?_; subst q0_1
  have R₄ := Rel.look (st := mkSt L [.list ((rowL xs).map ent)] []) (loc' := ("text", .sstr (textL xs)) :: ("row", .obj 0) :: L) R' (fun y => (look_dup (by rw [look_ne (by decide +kernel)]; exact hL.text) y).trans (look_dup hL.row y))
  refine el0_2 (stm_ok C' TO hA ve 30) fun _ exT => ?_
  have wt : exsW tRw 30 rwTail (mkSt (("text", .sstr (textL xs)) :: ("row", .obj 0) :: L) [.list ((rowL xs).map ent)] []) (fun fl st' => fl = .ret (.tup [.sstr (textL xs), .obj 0]) ∧ st' = mkSt (("text", .sstr (textL xs)) :: ("row", .obj 0) :: L) [.list ((rowL xs).map ent)] []) := by rw [run_rw_tail]; exact ⟨rfl, rfl⟩
  refine exT rwTail _ _ wt ρ' s' _ _ R₄ (fun ρ₅ s₅ f af st₅ p₅ t₅ R₅ F₅ q₅ => ?_) fun _ _ _ _ _ _ _ _ _ _ _ q => by cases q.1
  refine el0_2 q₅ fun q0_0 q0_1 => ?_; subst q0_0; subst q0_1
  obtain ⟨_, rfl, _⟩ := FRel.ret_inv F₅
  rename_i v r
  refine el0_2 (backP R₀ R₅) fun Rb kb => ?_
  cases r with
  | tup _ us T m hT rs =>
   obtain ⟨u1, _, rfl, r1, rs⟩ := rs.cons_inv
   obtain ⟨u2, _, rfl, r2, rs⟩ := rs.cons_inv
   w_dflts rs
   cases r1 with
   | sstr _ tk =>
    cases r2 with
    | obj _ b d e =>
     refine el1_3 (R₅.objs.get (i := 0) (o := .list ((rowL xs).map ent)) rfl) fun p e1 e2 e3 => ?_
     have : p = (b, d) := Option.some.inj (e1.symm.trans e)
     subst this
     refine el2_2 e2 fun rvs nn h1 h2 => ?_
     have fresh : s.heap.get? b = none := by
      rcases R₅.own b (.tail _ (e3 b (by simp [fp]))) with q | q
      ·cases q
      ·exact q
     have h3 : VRels s₅.heap [] ((rowL xs).map ent) rvs := by
      have := VRels.low (k := 0) (lowAs_ent 0 (rowL xs)) h2
      rwa [List.take_zero] at this
     exact kv s₅ T b tk rvs nn m kb Rb hT fresh h1 h3
end Mine
end
noncomputable section
namespace Mine
open PySem PySem.W PyProof.Rows PySem.Calls
noncomputable def tdP : (Expr × List Stmt × (Pos × Pos × Pos)) × (Expr × List Stmt × List Stmt × Pos) × Unit := match (bodyOf dTold).drop 3 with
 | .For t (.Name _ p2) [.If c g e p4] _ p3 :: _ => ((t, [], (p2, p2, p3)), (c, g, e, p4), ())
 | _ => default
noncomputable def tdT : Expr := tdP.1.1
noncomputable def tdC : Expr := tdP.2.1.1
noncomputable def tdGs : List Stmt := tdP.2.1.2.1
noncomputable def tdEs : List Stmt := tdP.2.1.2.2.1
noncomputable def tdHead := (bodyOf dTold).take 3
noncomputable def tdB : List Stmt := [.If tdC tdGs tdEs tdP.2.1.2.2.2]
noncomputable def tdF1 := ((bodyOf dTold).drop 4).take 1
noncomputable def tdF2 := ((bodyOf dTold).drop 5).take 1
noncomputable def tdF3 := ((bodyOf dTold).drop 6).take 1
noncomputable def tdF4 := (bodyOf dTold).drop 7
theorem td_split : bodyOf dTold = tdHead ++ (.For tdT (.Name "row" tdP.1.2.2.1) tdB [] tdP.1.2.2.2.2 :: (tdF1 ++ (tdF2 ++ (tdF3 ++ tdF4)))) := by kernel_rfl
noncomputable def tdTP : Nat × Pos × Pos × Pos := match tdT with
 | .Tuple [.Name _ p1, .Name _ p2] x p3 => (x, p1, p2, p3)
 | _ => default
theorem tdT_eq : tdT = .Tuple [.Name "piece" tdTP.2.1, .Name "role" tdTP.2.2.1] tdTP.1 tdTP.2.2.2 := by kernel_rfl
noncomputable def tdG1 := tdGs.take 1
noncomputable def tdG2 := (tdGs.drop 1).take 1
noncomputable def tdG3 := tdGs.drop 2
theorem tdGs_split : tdGs = tdG1 ++ (tdG2 ++ tdG3) := by kernel_rfl
noncomputable def tdE1 := tdEs.take 1
noncomputable def tdE2 := (tdEs.drop 1).take 1
noncomputable def tdE3 := tdEs.drop 2
theorem tdEs_split : tdEs = tdE1 ++ (tdE2 ++ tdE3) := by kernel_rfl
noncomputable def smTd (f : Value) (avs : List AV) (st : AS) (Q : PostV) : Prop := match f, avs with
 | .builtin id, [a, b] => (match id == "list.append", a, b with
  | true, .obj i, v => lsAppW i v st Q
  | _, _, _ => False)
 | .builtin id, [a] => (match id == "list.pop", a with
  | true, .obj i => lsPopW i st Q
  | _, _ => False)
 | _, _ => False
theorem smTd_ok {cx : Cx} {A : Around} {f : Value} {avs : List AV} {st : AS} {Qa : PostV} (w : smTd f avs st Qa) : SmOk cx A f avs st Qa := by
 rcases f with ⟨⟩
 all_goals try exact False.elim w
 rcases avs with _ | ⟨a, _ | ⟨b, _ | ⟨c, r⟩⟩⟩
 ·exact False.elim w
 ·unfold smTd at w
  dsimp only at w
  split at w
  ·rename_i e; rw [eq_of_beq e]; exact lsPopW_ok w
  ·exact w.elim
 ·unfold smTd at w
  dsimp only at w
  split at w
  ·rename_i e; rw [eq_of_beq e]; exact lsAppW_ok w
  ·exact w.elim
 ·exact False.elim w
noncomputable def bmT : List (Nat × Str × String) := [(1, "append", "list.append"), (1, "pop", "list.pop")]
theorem bmT_ok : ∀ p ∈ bmT, BmAt p.1 p.2.1 p.2.2 := by
 intro p hp
 simp only [bmT, List.mem_cons, List.not_mem_nil, or_false] at hp
 rcases hp with rfl | rfl
 ·exact ⟨pa_list, F.slot_list_append, F.type_list_append⟩
 ·exact ⟨pa_list, F.slot_list_pop, F.type_list_pop⟩
noncomputable def tTd : Tab := tabN (scopeOf dTold) bmT smTd noSp
noncomputable def tdL (ln : Int) (m mk : Str) (L : List (Str × AV)) : List (Str × AV) := ("told", .obj 0) :: ("line", .sint ln) :: ("made", .sstr m) :: ("marks", .sstr mk) :: L
noncomputable def tdHd (r p : Str) (ln : Int) (m mk : Str) (L : List (Str × AV)) : List (Str × AV) := ("role", .sstr r) :: ("piece", .sstr p) :: tdL ln m mk L
theorem run_td_head (v : Value) (mk e : Str) (P : PostF) : exsW tTd 30 tdHead (mkSt ((nm ["row", "marks", "end"]).zip [.val v, .sstr mk, .sstr e]) [] []) P =
  P .next (mkSt [("row", .val v), ("marks", .sstr mk), ("end", .sstr e), ("told", .obj 0), ("line", .int 1), ("made", .str "")] [.list []] []) := by kernel_rfl
theorem run_td_c (r p : Str) (ln : Int) (m mk : Str) (L : List (Str × AV)) (os : List AObj) (d : Bool) (P : Bool → AS → Prop) : trW tTd 30 tdC (mkSt (tdHd r p ln m mk L) os [d]) P = ((r == ("gap" : Str)) = d ∧ P d (mkSt (tdHd r p ln m mk L) os [])) := by kernel_rfl
theorem run_td_g1t (r p : Str) (ln : Int) (m mk : Str) (L : List (Str × AV)) (os : List AObj) (P : PostF) : exsW tTd 30 tdG1 (mkSt (tdHd r p ln m mk L) os [true]) P = (InStr p (-1) ∧ (chrAt p (-1) == ("\n" : Str)) = true ∧ P .next (mkSt (tdHd r p (ln + 1) m mk L) os [])) := by kernel_rfl
theorem run_td_g1f (r p : Str) (ln : Int) (m mk : Str) (L : List (Str × AV)) (os : List AObj) (P : PostF) : exsW tTd 30 tdG1 (mkSt (tdHd r p ln m mk L) os [false]) P = (InStr p (-1) ∧ (chrAt p (-1) == ("\n" : Str)) = false ∧ P .next (mkSt (tdHd r p ln m mk L) os [])) := by kernel_rfl
theorem run_td_g2t (r p : Str) (ln : Int) (m mk : Str) (L : List (Str × AV)) (xs : List AV) (os : List AObj) (P : PostF) : exsW tTd 30 tdG2 (mkSt (tdHd r p ln m mk L) (.list xs :: os) [true]) P =
  ((m != ("" : Str)) = true ∧ xs.length ≤ 100000 ∧ ∃ ys y, xs = ys ++ [y] ∧ setAtW y (.int 1) (.sint ln) (mkSt (tdHd r p ln m mk L) (.list xs :: os) []) fun st => P .next st) := by kernel_rfl
theorem run_td_g2f (r p : Str) (ln : Int) (m mk : Str) (L : List (Str × AV)) (os : List AObj) (P : PostF) : exsW tTd 30 tdG2 (mkSt (tdHd r p ln m mk L) os [false]) P = ((m != ("" : Str)) = false ∧ P .next (mkSt (tdHd r p ln m mk L) os [])) := by kernel_rfl
theorem run_td_g3 (r p : Str) (ln : Int) (m mk : Str) (L : List (Str × AV)) (os : List AObj) (P : PostF) : exsW tTd 30 tdG3 (mkSt (tdHd r p ln m mk L) os []) P = P .next (mkSt (("role", .sstr r) :: ("piece", .sstr p) :: ("told", .obj 0) :: ("line", .sint ln) :: ("made", .str "") :: ("marks", .sstr mk) :: L) os []) := by kernel_rfl
theorem run_td_e1a (r p : Str) (ln : Int) (m mk : Str) (L : List (Str × AV)) (os : List AObj) (P : PostF) : exsW tTd 30 tdE1 (mkSt (tdHd r p ln m mk L) os [true, true]) P = ((r == ("sign" : Str)) = true ∧ inStr p mk = true ∧ P .next (mkSt (put (tdHd r p ln m mk L) "kind" (.str "run")) os [])) := by kernel_rfl
theorem run_td_e1b (r p : Str) (ln : Int) (m mk : Str) (L : List (Str × AV)) (os : List AObj) (P : PostF) : exsW tTd 30 tdE1 (mkSt (tdHd r p ln m mk L) os [true, false]) P = ((r == ("sign" : Str)) = true ∧ inStr p mk = false ∧ P .next (mkSt (put (tdHd r p ln m mk L) "kind" (.str "word")) os [])) := by kernel_rfl
theorem run_td_e1c (r p : Str) (ln : Int) (m mk : Str) (L : List (Str × AV)) (os : List AObj) (P : PostF) : exsW tTd 30 tdE1 (mkSt (tdHd r p ln m mk L) os [false]) P = ((r == ("sign" : Str)) = false ∧ P .next (mkSt (put (tdHd r p ln m mk L) "kind" (.str "word")) os [])) := by kernel_rfl
theorem run_td_e2t (k r p : Str) (ln : Int) (m mk : Str) (L : List (Str × AV)) (xs : List AV) (os : List AObj) (P : PostF) : exsW tTd 30 tdE2 (mkSt (("kind", .str k) :: tdHd r p ln m mk L) (.list xs :: os) [true]) P =
  ((k == m) = true ∧ xs.length ≤ 100000 ∧ ∃ ys y, xs = ys ++ [y] ∧ (match y, AV.int 0 with
    | .obj j, .int i => itemW (.obj j) (.int i) (mkSt (("kind", .str k) :: tdHd r p ln m mk L) (.list xs :: os) []) fun old st => inpW .Add old (.sstr p) st fun r st => setAtW (.obj j) (.int i) r st fun st => P .next st
    | _, _ => False)) := by kernel_rfl
theorem run_td_e2f (k r p : Str) (ln : Int) (m mk : Str) (L : List (Str × AV)) (xs : List AV) (os : List AObj) (P : PostF) : exsW tTd 30 tdE2 (mkSt (("kind", .str k) :: tdHd r p ln m mk L) (.list xs :: os) [false]) P =
  ((k == m) = false ∧ xs.length ≤ 100000 ∧ P .next (mkSt (("kind", .str k) :: tdHd r p ln m mk L) (.list (xs ++ [.obj (os.length + 1)]) :: (os ++ [.list [.sstr p, .sint ln]])) [])) := by kernel_rfl
theorem run_td_e3 (k r p : Str) (ln : Int) (m mk : Str) (L : List (Str × AV)) (os : List AObj) (P : PostF) : exsW tTd 30 tdE3 (mkSt (("kind", .str k) :: tdHd r p ln m mk L) os []) P = P .next (mkSt (("kind", .str k) :: ("role", .sstr r) :: ("piece", .sstr p) :: ("told", .obj 0) :: ("line", .sint ln) :: ("made", .str k) :: ("marks", .sstr mk) :: L) os []) := by kernel_rfl
noncomputable def tdFn (e : Str) (ln : Int) (m mk : Str) (L : List (Str × AV)) : List (Str × AV) := ("end", .sstr e) :: tdL ln m mk L
theorem run_td_f1t (e : Str) (ln : Int) (m mk : Str) (L : List (Str × AV)) (xs : List AV) (os : List AObj) (P : PostF) : exsW tTd 30 tdF1 (mkSt (tdFn e ln m mk L) (.list xs :: os) [true]) P =
  ((e == ("" : Str)) = true ∧ lstAddW 0 (((os ++ [AObj.list [.none, .sint ln]]) ++ [AObj.list [.none, .sint ln]]).length + 1) (mkSt (tdFn e ln m mk L) (.list xs :: (((os ++ [.list [.none, .sint ln]]) ++ [.list [.none, .sint ln]]) ++ [.list [.obj (os.length + 1), .obj ((os ++ [AObj.list [.none, .sint ln]]).length + 1)]])) []) fun a st => P (.ret a) st) := by kernel_rfl
theorem run_td_f1f (e : Str) (ln : Int) (m mk : Str) (L : List (Str × AV)) (os : List AObj) (P : PostF) : exsW tTd 30 tdF1 (mkSt (tdFn e ln m mk L) os [false]) P = ((e == ("" : Str)) = false ∧ P .next (mkSt (tdFn e ln m mk L) os [])) := by kernel_rfl
theorem run_td_f2t (e : Str) (ln : Int) (m mk : Str) (L : List (Str × AV)) (xs : List AV) (os : List AObj) (P : PostF) : exsW tTd 30 tdF2 (mkSt (tdFn e ln m mk L) (.list xs :: os) [true]) P =
  ((m == ("word" : Str)) = true ∧ xs.length ≤ 100000 ∧ ∃ ys y, xs = ys ++ [y] ∧ itemW y (.int 0) (mkSt (tdFn e ln m mk L) (.list ys :: os) []) fun a st => P .next { st with loc := put st.loc "begun" a }) := by kernel_rfl
theorem run_td_f2f (e : Str) (ln : Int) (m mk : Str) (L : List (Str × AV)) (os : List AObj) (P : PostF) : exsW tTd 30 tdF2 (mkSt (tdFn e ln m mk L) os [false]) P = ((m == ("word" : Str)) = false ∧ P .next (mkSt (put (tdFn e ln m mk L) "begun" (.str "")) os [])) := by kernel_rfl
theorem run_td_f3t (g e : Str) (ln : Int) (m mk : Str) (L : List (Str × AV)) (os : List AObj) (P : PostF) : exsW tTd 30 tdF3 (mkSt (("begun", .sstr g) :: tdFn e ln m mk L) os [true]) P =
  ((e == ("\\" : Str)) = true ∧ P .next (mkSt (put (("begun", .sstr g) :: tdFn e ln m mk L) "refusal" (.obj os.length)) (os ++ [.list [.str "No escaped character", .sint ln, .sstr e, .sstr g]]) [])) := by kernel_rfl
theorem run_td_f3f (g e : Str) (ln : Int) (m mk : Str) (L : List (Str × AV)) (os : List AObj) (P : PostF) : exsW tTd 30 tdF3 (mkSt (("begun", .sstr g) :: tdFn e ln m mk L) os [false]) P =
  ((e == ("\\" : Str)) = false ∧ g.length + mk.length ≤ sizeLine ∧ P .next (mkSt (put (("begun", .sstr g) :: tdFn e ln m mk L) "refusal" (.obj os.length)) (os ++ [.list [.str "No closing quotation", .sint ln, .sstr e, .sstr (g ++ mk)]]) [])) := by kernel_rfl
theorem run_td_f4 (q : Nat) (g e : Str) (ln : Int) (m mk : Str) (L : List (Str × AV)) (os : List AObj) (P : PostF) : exsW tTd 30 tdF4 (mkSt (("refusal", .obj q) :: ("begun", .sstr g) :: tdFn e ln m mk L) os []) P =
  lstAddW 0 os.length (mkSt (("refusal", .obj q) :: ("begun", .sstr g) :: tdFn e ln m mk L) (os ++ [.list [.obj q, .obj q]]) []) fun a st => P (.ret a) st := by kernel_rfl
end Mine
end
noncomputable section
namespace Mine
open PySem PySem.W PyProof.Rows PySem.Calls
noncomputable def tlA (e : Str × Int) : List AV := [.sstr e.1, .sint e.2]
noncomputable def hnd (n : Nat) : List AV := (List.range n).map fun i => .obj (i + 1)
noncomputable def inn (l : List (Str × Int)) : List AObj := l.map fun e => .list (tlA e)
noncomputable def tdOs (l : List (Str × Int)) : List AObj := .list (hnd l.length) :: inn l
theorem hnd_succ (n : Nat) : hnd (n + 1) = hnd n ++ [.obj (n + 1)] := by unfold hnd; rw [List.range_succ, List.map_append]; rfl
theorem inn_snoc (l : List (Str × Int)) (q : Str × Int) : inn (l ++ [q]) = inn l ++ [.list (tlA q)] := by unfold inn; rw [List.map_append]; rfl
theorem inn_len (l : List (Str × Int)) : (inn l).length = l.length := by simp [inn]
theorem tdOs_snoc (l : List (Str × Int)) (q : Str × Int) : tdOs (l ++ [q]) = .list (hnd l.length ++ [.obj (l.length + 1)]) :: (inn l ++ [.list (tlA q)]) := by
 unfold tdOs
 rw [inn_snoc, List.length_append, List.length_singleton, hnd_succ]
theorem inn_last (x : AObj) (l : List (Str × Int)) (q : Str × Int) : (x :: (inn l ++ [.list (tlA q)]))[l.length + 1]? = some (.list (tlA q)) := by
 rw [List.getElem?_cons_succ, List.getElem?_append_right (by rw [inn_len]; exact Nat.le_refl _), inn_len, Nat.sub_self]; rfl
theorem inn_set (x : AObj) (l : List (Str × Int)) (q : Str × Int) (o : AObj) : (x :: (inn l ++ [.list (tlA q)])).set (l.length + 1) o = x :: (inn l ++ [o]) := by
 rw [List.set_cons_succ, List.set_append_right _ _ (by rw [inn_len]; exact Nat.le_refl _), inn_len, Nat.sub_self]; rfl
theorem setAt_last (L : List (Str × AV)) (x : AObj) (l : List (Str × Int)) (q : Str × Int) (ln : Int) (K : AS → Prop) (k : K (mkSt L (x :: (inn l ++ [.list (tlA (q.1, ln))])) [])) :
  setAtW (.obj (l.length + 1)) (.int 1) (.sint ln) (mkSt L (x :: (inn l ++ [.list (tlA q)])) []) K := by
 unfold setAtW
 dsimp only [mkSt]
 rw [inn_last]
 show _ ∧ K _
 refine ⟨by show 1 < 2; decide, ?_⟩
 rw [inn_set]
 exact k
theorem bch_f {P Q : Prop} (h : Q) : bch false P Q := h
theorem addAt_last (L : List (Str × AV)) (x : AObj) (l : List (Str × Int)) (q : Str × Int) (p : Str) (hz : q.1.length + p.length ≤ sizeLine) (K : AS → Prop) (k : K (mkSt L (x :: (inn l ++ [.list (tlA (q.1 ++ p, q.2))])) [])) :
  itemW (.obj (l.length + 1)) (.int 0) (mkSt L (x :: (inn l ++ [.list (tlA q)])) []) fun old st => inpW .Add old (.sstr p) st fun r st => setAtW (.obj (l.length + 1)) (.int 0) r st fun st => K st := by
 unfold itemW
 dsimp only [isS, isI, mkSt]
 rw [inn_last]
 dsimp only
 refine bch_f ?_
 unfold atW
 show ∃ y, (tlA q)[(0 : Int).toNat]? = some y ∧ _
 refine ⟨.sstr q.1, rfl, ?_⟩
 show _ ∧ _
 refine ⟨hz, ?_⟩
 unfold setAtW
 dsimp only
 rw [inn_last]
 show _ ∧ K _
 refine ⟨by show 0 < 2; decide, ?_⟩
 rw [inn_set]
 exact k
noncomputable abbrev TdS := List (Str × Int) × Int × Str
noncomputable def setLast (l : List (Str × Int)) (f : Str × Int → Str × Int) : List (Str × Int) := l.dropLast ++ (l.getLast?.map f).toList
theorem setLast_snoc (l : List (Str × Int)) (q : Str × Int) (f : Str × Int → Str × Int) : setLast (l ++ [q]) f = l ++ [f q] := by simp [setLast]
noncomputable def tdKind (mk : Str) (e : Str × Str) : Str := if e.2 = "sign" ∧ inStr e.1 mk = true then "run" else "word"
noncomputable def tdStep (mk : Str) (z : TdS) (e : Str × Str) : TdS :=
 if e.2 = "gap" then (if z.2.2 = "" then z.1 else setLast z.1 fun q => (q.1, if chrAt e.1 (-1) = "\n" then z.2.1 + 1 else z.2.1), if chrAt e.1 (-1) = "\n" then z.2.1 + 1 else z.2.1, "")
 else (if tdKind mk e = z.2.2 then setLast z.1 fun q => (q.1 ++ e.1, q.2) else z.1 ++ [(e.1, z.2.1)], z.2.1, tdKind mk e)
theorem inStr_last {x : Str} (h1 : 0 < x.length) (h2 : x.length < 1000) : InStr x (-1) := by
 refine ⟨by lia, by lia, ?_⟩
 have : seqIndex? (-1) x.length = some (x.length - 1) := by
  unfold seqIndex?
  have hn : (-1 : Int) < 0 := by lia
  simp only [hn, if_true]
  rw [if_pos (by simp only [Bool.and_eq_true, decide_eq_true_eq]; lia)]
  congr 1
  lia
 rw [this]
 show (x.cps[x.length - 1]?).isSome = true
 have : x.length - 1 < x.cps.size := by have : x.length = x.cps.size := rfl; lia
 rw [Array.getElem?_eq_getElem this]; rfl
structure TdI (z : TdS) (i : Nat) : Prop where
 made : z.2.2 ≠ "" → z.1 ≠ []
 len : z.1.length ≤ i
 sz : ∀ e ∈ z.1, e.1.length ≤ 100 * i
theorem mem_setLast {l : List (Str × Int)} {f : Str × Int → Str × Int} {e : Str × Int} (h : e ∈ setLast l f) : e ∈ l ∨ ∃ q ∈ l, e = f q := by
 unfold setLast at h
 rcases List.mem_append.mp h with h | h
 ·exact .inl (List.dropLast_subset _ h)
 ·cases hq : l.getLast? with
  | none => rw [hq] at h; cases h
  | some q =>
   rw [hq] at h
   exact .inr ⟨q, List.mem_of_getLast? hq, by simpa using h⟩
theorem setLast_len (l : List (Str × Int)) (f : Str × Int → Str × Int) : (setLast l f).length = l.length := by
 cases h : l.getLast? with
 | none => rw [List.getLast?_eq_none_iff] at h; subst h; rfl
 | some q =>
  have : l ≠ [] := by rintro rfl; exact nS h
  have := List.length_pos_iff.mpr this
  simp [setLast, h]; lia
theorem setLast_ne {l : List (Str × Int)} {f : Str × Int → Str × Int} (h : l ≠ []) : setLast l f ≠ [] := by
 have := setLast_len l f
 intro e
 rw [e] at this
 exact h (List.length_eq_zero_iff.mp this.symm)
theorem tdStep_ok {mk : Str} {z : TdS} {i : Nat} (I : TdI z i) {e : Str × Str} (he : e.1.length ≤ 100) : TdI (tdStep mk z e) (i + 1) := by
 unfold tdStep
 split
 ·refine ⟨fun h => (h rfl).elim, ?_, fun q hq => ?_⟩
  ·dsimp only
   split
   ·have := I.len; lia
   ·rw [setLast_len]; have := I.len; lia
  ·dsimp only at hq
   split at hq
   ·have := I.sz q hq; lia
   ·rcases mem_setLast hq with hq | ⟨q', hq', rfl⟩
    ·have := I.sz q hq; lia
    ·have := I.sz q' hq'; dsimp only; lia
 ·refine ⟨fun _ => ?_, ?_, fun q hq => ?_⟩
  ·dsimp only
   split
   ·rename_i h
    refine setLast_ne (I.made (h ▸ ?_))
    unfold tdKind
    split <;> decide +kernel
   ·simp
  ·dsimp only
   split
   ·rw [setLast_len]; have := I.len; lia
   ·rw [List.length_append, List.length_singleton]; have := I.len; lia
  ·dsimp only at hq
   split at hq
   ·rcases mem_setLast hq with hq | ⟨q', hq', rfl⟩
    ·have := I.sz q hq; lia
    ·have := I.sz q' hq'; dsimp only; rw [Str.length_append]; lia
   ·rcases List.mem_append.mp hq with hq | hq
    ·have := I.sz q hq; lia
    ·rw [List.mem_singleton.mp hq]; dsimp only; lia
theorem snoc_of {l : List (Str × Int)} (h : l ≠ []) : ∃ init q, l = init ++ [q] := ⟨l.dropLast, l.getLast h, (List.dropLast_concat_getLast h).symm⟩
section
variable {cx : Cx} {A : Around}
theorem tdL_look {loc : List (Str × AV)} {ln : Int} {m mk : Str} (h1 : loc.lookup ("told" : Str) = some (.obj 0)) (h2 : loc.lookup ("line" : Str) = some (.sint ln)) (h3 : loc.lookup ("made" : Str) = some (.sstr m)) (h4 : loc.lookup ("marks" : Str) = some (.sstr mk)) (y : Str) :
  (tdL ln m mk loc).lookup y = loc.lookup y := by
 unfold tdL
 refine (look_dup ?_ y).trans ((look_dup ?_ y).trans ((look_dup ?_ y).trans (look_dup h4 y)))
 ·rw [look_ne (by decide +kernel), look_ne (by decide +kernel), look_ne (by decide +kernel)]; exact h1
 ·rw [look_ne (by decide +kernel), look_ne (by decide +kernel)]; exact h2
 ·rw [look_ne (by decide +kernel)]; exact h3
theorem td_turn (C : CxOk cx) (TO : TabOk tTd cx A) (hA : A.handled = none) (VE : VErr cx) {e : Str × Str} {z : TdS} {i : Nat} (I : TdI z i) (hi : i ≤ 1000) (h0 : 0 < e.1.length) (h1 : e.1.length ≤ 100) {mk en : Str} {L : List (Str × AV)} (hL : L.lookup ("end" : Str) = some (.sstr en)) {ρ : Rho} {s : Shared} {Q : Flow → Shared → Prop} {E : Value → Shared → Prop}
  (R : Rel cx ρ (mkSt (tdHd e.2 e.1 z.2.1 z.2.2 mk L) (tdOs z.1) []) s)
  (k : ∀ ρ' s' L', TKeep s.heap s'.heap → L'.lookup ("end" : Str) = some (.sstr en) → Rel cx ρ' (mkSt (tdL (tdStep mk z e).2.1 (tdStep mk z e).2.2 mk L') (tdOs (tdStep mk z e).1) []) s' → Q .next s') :
  wpAny (model cx.prog cx.w) A (execs tdB cx.env) Q E s := by
 obtain ⟨p, r⟩ := e
 obtain ⟨told, ln, m⟩ := z
 dsimp only at R h0 h1
 have hlen := I.len
 dsimp only at hlen
 have lxs : ∀ n, n ≤ 1000 → (hnd n).length ≤ 100000 := fun n hn => by simp [hnd]; lia
 unfold tdB
 refine wpAny_execs_cons (ifM C TO (N := 30) (b := (r == ("gap" : Str))) [(r == ("gap" : Str))] (by rw [run_td_c]; exact ⟨rfl, rfl, rfl⟩) R fun ρ₁ s₁ p₁ t₁ R₁ => ?_)
 by_cases hg : r = "gap"
 ·have eg : (r == ("gap" : Str)) = true := beq_iff_eq.mpr hg
  rw [eg, if_pos rfl, tdGs_split]
  -- the line
  have hin : InStr p (-1) := inStr_last h0 (by lia)
  generalize hln' : (if chrAt p (-1) = "\n" then ln + 1 else ln) = ln'
  have step1 : ∃ ds, exsW tTd 30 tdG1 (mkSt (tdHd r p ln m mk L) (tdOs told) ds) (fun fl st' => fl = .next ∧ st' = mkSt (tdHd r p ln' m mk L) (tdOs told) []) := by
   by_cases hn : chrAt p (-1) = "\n"
   ·refine ⟨[true], ?_⟩
    rw [run_td_g1t]
    refine ⟨hin, beq_iff_eq.mpr hn, rfl, ?_⟩
    rw [← hln', if_pos hn]
   ·refine ⟨[false], ?_⟩
    rw [run_td_g1f]
    refine ⟨hin, beq_eq_false_iff_ne.mpr hn, rfl, ?_⟩
    rw [← hln', if_neg hn]
  refine el1_1 step1 fun ds w => ?_
  generalize hg1 : tdG1 = g1 at w ⊢
  refine seqM C TO hA VE ds w R₁ fun ρ₂ s₂ p₂ t₂ R₂ => ?_
  clear w ds
  have step2 : ∃ ds, exsW tTd 30 tdG2 (mkSt (tdHd r p ln' m mk L) (tdOs told) ds) (fun fl st' => fl = .next ∧ st' = mkSt (tdHd r p ln' m mk L) (tdOs (if m = "" then told else setLast told fun q => (q.1, ln'))) []) := by
   by_cases hm : m = ""
   ·refine ⟨[false], ?_⟩
    rw [run_td_g2f]
    refine ⟨by rw [hm]; exact bne_self_eq_false _, rfl, ?_⟩
    rw [if_pos hm]
   ·refine el2_1 (snoc_of (I.made hm)) fun init q q0_2 => ?_; subst q0_2
    refine ⟨[true], ?_⟩
    rw [tdOs_snoc, run_td_g2t]
    refine ⟨bne_iff_ne.mpr hm, ?_, _, _, rfl, ?_⟩
    ·simp [hnd] at hlen ⊢; lia
    ·refine setAt_last _ _ init q ln' _ ⟨rfl, ?_⟩
     rw [if_neg hm, setLast_snoc, tdOs_snoc]
  refine el1_1 step2 fun ds w => ?_
  generalize hg2 : tdG2 = g2 at w ⊢
  refine seqM C TO hA VE ds w R₂ fun ρ₃ s₃ p₃ t₃ R₃ => ?_
  clear w ds
  rw [← List.append_nil tdG3]
  refine seqM C TO hA VE (N := 30) [] (by rw [run_td_g3]; exact ⟨rfl, rfl⟩) R₃ fun ρ₄ s₄ p₄ t₄ R₄ => wpAny_execs_nil (wpAny_execs_nil ?_)
  have R₅ := R₄.swap (st' := mkSt (("role", .sstr r) :: ("piece", .sstr p) :: ("told", .obj 0) :: ("line", .sint ln') :: ("made", .sstr "") :: ("marks", .sstr mk) :: L) (tdOs (if m = "" then told else setLast told fun q => (q.1, ln'))) [])
   ⟨.cons _ _ _ _ _ (.same _) (.cons _ _ _ _ _ (.same _) (.cons _ _ _ _ _ (.same _) (.cons _ _ _ _ _ (.same _) (.cons _ _ _ _ _ (.str _) (.refl _))))), .refl _, rfl⟩
  have est : tdStep mk (told, ln, m) (p, r) = (if m = "" then told else setLast told fun q => (q.1, ln'), ln', ("" : Str)) := by
   unfold tdStep
   rw [if_pos hg]
   dsimp only
   rw [hln']
  rw [est] at k
  refine k ρ₄ s₄ _ (((t₁.trans t₂).trans t₃).trans t₄) ?_ (Rel.look R₅ (fun y => tdL_look (by kernel_rfl) (by kernel_rfl) (by kernel_rfl) (by kernel_rfl) y))
  dsimp only [mkSt]
  rw [look_ne (by decide +kernel), look_ne (by decide +kernel), look_ne (by decide +kernel), look_ne (by decide +kernel), look_ne (by decide +kernel), look_ne (by decide +kernel)]; exact hL
 ·have eg : (r == ("gap" : Str)) = false := beq_eq_false_iff_ne.mpr hg
  rw [eg, if_neg (by decide), tdEs_split]
  generalize hkd : tdKind mk (p, r) = kd
  have step1 : ∃ ds, exsW tTd 30 tdE1 (mkSt (tdHd r p ln m mk L) (tdOs told) ds) (fun fl st' => fl = .next ∧ st' = mkSt (put (tdHd r p ln m mk L) "kind" (.str kd)) (tdOs told) []) := by
   by_cases hs : r = "sign"
   ·by_cases hi' : inStr p mk = true
    ·refine ⟨[true, true], ?_⟩
     rw [run_td_e1a]
     refine ⟨beq_iff_eq.mpr hs, hi', rfl, ?_⟩
     rw [← hkd]; unfold tdKind; rw [if_pos ⟨hs, hi'⟩]
    ·refine ⟨[true, false], ?_⟩
     rw [run_td_e1b]
     refine ⟨beq_iff_eq.mpr hs, by simpa using hi', rfl, ?_⟩
     rw [← hkd]; unfold tdKind; rw [if_neg fun h => hi' h.2]
   ·refine ⟨[false], ?_⟩
    rw [run_td_e1c]
    refine ⟨beq_eq_false_iff_ne.mpr hs, rfl, ?_⟩
    rw [← hkd]; unfold tdKind; rw [if_neg fun h => hs h.1]
  refine el1_1 step1 fun ds w => ?_
  generalize hg1 : tdE1 = g1 at w ⊢
  refine seqM C TO hA VE ds w R₁ fun ρ₂ s₂ p₂ t₂ R₂ => ?_
  clear w ds
  have R₂ : Rel cx ρ₂ (mkSt (("kind", .str kd) :: tdHd r p ln m mk L) (tdOs told) []) s₂ := Rel.cons (st := mkSt (tdHd r p ln m mk L) (tdOs told) []) R₂
  have step2 : ∃ ds, exsW tTd 30 tdE2 (mkSt (("kind", .str kd) :: tdHd r p ln m mk L) (tdOs told) ds) (fun fl st' => fl = .next ∧ st' = mkSt (("kind", .str kd) :: tdHd r p ln m mk L) (tdOs (if kd = m then setLast told fun q => (q.1 ++ p, q.2) else told ++ [(p, ln)])) []) := by
   by_cases hk : kd = m
   ·have hne : m ≠ "" := by
     rw [← hk, ← hkd]
     unfold tdKind
     split <;> decide +kernel
    refine el2_1 (snoc_of (I.made hne)) fun init q q0_2 => ?_; subst q0_2
    refine ⟨[true], ?_⟩
    rw [tdOs_snoc, run_td_e2t]
    refine ⟨beq_iff_eq.mpr hk, ?_, _, _, rfl, ?_⟩
    ·simp [hnd] at hlen ⊢; lia
    ·have hq := I.sz q (by simp)
     refine addAt_last _ _ init q p (sz_le (by lia)) _ ⟨rfl, ?_⟩
     rw [if_pos hk, setLast_snoc, tdOs_snoc]
   ·refine ⟨[false], ?_⟩
    show exsW tTd 30 tdE2 (mkSt _ (.list (hnd told.length) :: inn told) _) _
    rw [run_td_e2f]
    refine ⟨beq_eq_false_iff_ne.mpr hk, lxs _ (by lia), rfl, ?_⟩
    rw [if_neg hk, tdOs_snoc, inn_len]; rfl
  refine el1_1 step2 fun ds w => ?_
  generalize hg2 : tdE2 = g2 at w ⊢
  refine seqM C TO hA VE ds w R₂ fun ρ₃ s₃ p₃ t₃ R₃ => ?_
  clear w ds
  rw [← List.append_nil tdE3]
  refine seqM C TO hA VE (N := 30) [] (by rw [run_td_e3]; exact ⟨rfl, rfl⟩) R₃ fun ρ₄ s₄ p₄ t₄ R₄ => wpAny_execs_nil (wpAny_execs_nil ?_)
  have R₅ := R₄.swap (st' := mkSt (("kind", .str kd) :: ("role", .sstr r) :: ("piece", .sstr p) :: ("told", .obj 0) :: ("line", .sint ln) :: ("made", .sstr kd) :: ("marks", .sstr mk) :: L) (tdOs (if kd = m then setLast told fun q => (q.1 ++ p, q.2) else told ++ [(p, ln)])) [])
   ⟨.cons _ _ _ _ _ (.same _) (.cons _ _ _ _ _ (.same _) (.cons _ _ _ _ _ (.same _) (.cons _ _ _ _ _ (.same _) (.cons _ _ _ _ _ (.same _) (.cons _ _ _ _ _ (.str _) (.refl _)))))), .refl _, rfl⟩
  have est : tdStep mk (told, ln, m) (p, r) = (if kd = m then setLast told fun q => (q.1 ++ p, q.2) else told ++ [(p, ln)], ln, kd) := by
   unfold tdStep
   rw [if_neg hg]
   dsimp only
   rw [hkd]
  rw [est] at k
  refine k ρ₄ s₄ _ (((t₁.trans t₂).trans t₃).trans t₄) ?_ (Rel.look R₅ (fun y => tdL_look (by kernel_rfl) (by kernel_rfl) (by kernel_rfl) (by kernel_rfl) y))
  dsimp only [mkSt]
  rw [look_ne (by decide +kernel), look_ne (by decide +kernel), look_ne (by decide +kernel), look_ne (by decide +kernel), look_ne (by decide +kernel), look_ne (by decide +kernel), look_ne (by decide +kernel)]; exact hL
end
end Mine
end
noncomputable section
namespace Mine
open PySem PySem.W PyProof.Rows PySem.Calls
noncomputable def InnerAt (h : Heap) : List Value → List (List AV) → Prop
 | [], [] => True
 | v :: vs, it :: items => (∃ d us m, v = .ref d ∧ h.get? d = some (lstObj us m) ∧ VRels h [] it us) ∧ InnerAt h vs items
 | _, _ => False
noncomputable def ToldAt (h : Heap) (c : Addr) (items : List (List AV)) : Prop := ∃ vs n, h.get? c = some (lstObj vs n) ∧ InnerAt h vs items
noncomputable def LinkA (os : List AObj) : List AV → List (List AV) → Prop
 | [], [] => True
 | a :: hs, it :: items => (∃ k, a = .obj k ∧ os[k]? = some (.list it)) ∧ LinkA os hs items
 | _, _ => False
theorem LinkA.append {os : List AObj} : ∀ {hs hs' : List AV} {is is' : List (List AV)}, LinkA os hs is → LinkA os hs' is' → LinkA os (hs ++ hs') (is ++ is')
 | [], _, [], _, _, h => h
 | _ :: _, _, _ :: _, _, h, h' => ⟨h.1, LinkA.append h.2 h'⟩
 | [], _, _ :: _, _, h, _ => h.elim
 | _ :: _, _, [], _, h, _ => h.elim
theorem inner_of {h : Heap} {ρ : Rho} {os : List AObj} (O : OsRel h ρ os ρ) : ∀ {hs : List AV} {items : List (List AV)} {vs : List Value}, LinkA os hs items → (∀ it ∈ items, lowAs 0 it = true) → VRels h ρ hs vs → InnerAt h vs items
 | [], [], _, _, _, .nil => trivial
 | a :: hs, it :: items, _, l, lo, .cons _ v _ vs r rs => by
  obtain ⟨⟨k, rfl, e⟩, l⟩ := l
  cases r with
  | obj _ d d' e' =>
   obtain ⟨p, e1, e2, e3⟩ := O.get e
   have : p = (d, d') := Option.some.inj (e1.symm.trans e')
   subst this
   obtain ⟨us, m, h1, h2⟩ := e2
   have h3 := VRels.low (k := 0) (lo it (.head _)) h2
   rw [List.take_zero] at h3
   exact ⟨⟨d, us, m, rfl, h1, h3⟩, inner_of O l (fun i hi => lo i (.tail _ hi)) rs⟩
 | [], _ :: _, _, l, _, _ => l.elim
 | _ :: _, [], _, l, _, _ => l.elim
theorem told_of {h : Heap} {ρ : Rho} {os : List AObj} (O : OsRel h ρ os ρ) {k : Nat} {hs : List AV} {items : List (List AV)} {v : Value} (hk : os[k]? = some (.list hs)) (l : LinkA os hs items) (lo : ∀ it ∈ items, lowAs 0 it = true) (r : VRel h ρ (.obj k) v) :
  ∃ c, v = .ref c ∧ ToldAt h c items := by
 cases r with
 | obj _ d d' e' =>
  refine el1_3 (O.get hk) fun p e1 e2 e3 => ?_
  have : p = (d, d') := Option.some.inj (e1.symm.trans e')
  subst this
  refine el2_2 e2 fun us m h1 h2 => ?_
  exact ⟨d, rfl, us, m, h1, inner_of O l lo h2⟩
noncomputable def toldLoop (mk : Str) (er : List (Str × Str)) : TdS := er.foldl (tdStep mk) ([], 1, "")
theorem toldLoop_snoc (mk : Str) (er : List (Str × Str)) (e : Str × Str) : toldLoop mk (er ++ [e]) = tdStep mk (toldLoop mk er) e := by simp [toldLoop]
noncomputable def begunOf (z : TdS) : Str := if z.2.2 = "word" then ((z.1.getLast?.map (·.1)).getD "") else ""
noncomputable def finOf (z : TdS) : List (Str × Int) := if z.2.2 = "word" then z.1.dropLast else z.1
noncomputable def refusalOf (mk en : Str) (z : TdS) : List AV := if en = "\\" then [.str "No escaped character", .sint z.2.1, .sstr en, .sstr (begunOf z)] else [.str "No closing quotation", .sint z.2.1, .sstr en, .sstr (begunOf z ++ mk)]
noncomputable def toldOut (mk : Str) (er : List (Str × Str)) (en : Str) : List (List AV) :=
 if en = "" then (toldLoop mk er).1.map tlA ++ [[.none, .sint (toldLoop mk er).2.1], [.none, .sint (toldLoop mk er).2.1]]
 else (finOf (toldLoop mk er)).map tlA ++ [refusalOf mk en (toldLoop mk er), refusalOf mk en (toldLoop mk er)]
theorem td_inv (mk : Str) (er : List (Str × Str)) (h : ∀ e ∈ er, e.1.length ≤ 100) : ∀ i, i ≤ er.length → TdI (toldLoop mk (er.take i)) i
 | 0, _ => ⟨fun h => (h rfl).elim, Nat.le_refl _, fun e he => nomatch he⟩
 | i + 1, hi => by
  have ih := td_inv mk er h i (by lia)
  have e : er[i]? = some er[i] := List.getElem?_eq_getElem (by lia)
  rw [take_snoc e, toldLoop_snoc]
  exact tdStep_ok ih (h _ (List.getElem_mem _))
theorem link_hnd (x : AObj) (rest : List AObj) : ∀ l : List (Str × Int), LinkA (x :: (inn l ++ rest)) (hnd l.length) (l.map tlA) := by
 intro l
 have key : ∀ (l : List (Str × Int)) (n : Nat) (os : List AObj), (∀ i e, l[i]? = some e → os[n + i + 1]? = some (.list (tlA e))) → LinkA os ((List.range' n l.length).map fun i => .obj (i + 1)) (l.map tlA) := by
  intro l
  induction l with
  | nil => intro n os _; exact trivial
  | cons e r ih =>
   intro n os h
   refine ⟨⟨n + 1, rfl, h 0 e rfl⟩, ?_⟩
   exact ih (n + 1) os fun i e' he => by have := h (i + 1) e' (by simpa using he); rw [show n + 1 + i + 1 = n + (i + 1) + 1 by lia]; exact this
 have := key l 0 (x :: (inn l ++ rest)) fun i e he => by
  have hi : i < l.length := (List.getElem?_eq_some_iff.mp he).1
  rw [show 0 + i + 1 = i + 1 by lia, List.getElem?_cons_succ, List.getElem?_append_left (by rw [inn_len]; exact hi)]
  unfold inn
  rw [List.getElem?_map, he]; rfl
 unfold hnd
 rw [List.range_eq_range']
 exact this
theorem low_tlA (l : List (Str × Int)) : ∀ it ∈ l.map tlA, lowAs 0 it = true := by
 intro it h
 obtain ⟨e, _, rfl⟩ := List.mem_map.mp h
 rfl
theorem td_tabs {cx : Cx} {A : Around} (KO : KOk2 cx.w cx.K) (hsc : cx.env.scope = scopeOf dTold) : TabAll tTd cx A := fun h mt C =>
 tabN_ok (cx := cx.sub h mt cx.env) (A := A) KO hsc bmT_ok (fun f avs st Qa w => smTd_ok w) (fun f i st Qa w => w.elim)
theorem lstAdd_of {os : List AObj} {L : List (Str × AV)} {i j : Nat} {xs ys : List AV} {Q : PostV} (h1 : os[i]? = some (.list xs)) (h2 : os[j]? = some (.list ys)) (hz : xs.length + ys.length ≤ 100000) (q : Q (.obj os.length) (mkSt L (os ++ [.list (xs ++ ys)]) [])) : lstAddW i j (mkSt L os []) Q := by
 unfold lstAddW
 dsimp only [mkSt]
 rw [h1, h2]
 exact ⟨hz, q⟩
theorem LinkA.mono {os os' : List AObj} (h : ∀ (k : Nat) (o : AObj), os[k]? = some o → os'[k]? = some o) : ∀ {hs : List AV} {is : List (List AV)}, LinkA os hs is → LinkA os' hs is
 | [], [], _ => trivial
 | _ :: _, _ :: _, l => let ⟨⟨k, e, q⟩, r⟩ := l; ⟨⟨k, e, h _ _ q⟩, LinkA.mono h r⟩
 | [], _ :: _, l => l.elim
 | _ :: _, [], l => l.elim
theorem get_app {os r : List AObj} (k : Nat) (o : AObj) (h : os[k]? = some o) : (os ++ r)[k]? = some o := by
 rw [List.getElem?_append_left (List.getElem?_eq_some_iff.mp h).1]; exact h
theorem get_end {os : List AObj} {o : AObj} : (os ++ [o])[os.length]? = some o := by simp
section
variable {cx : Cx} {A : Around}
noncomputable def TdEnd (items : List (List AV)) (a : AV) (st : AS) : Prop := ∃ k hs, a = .obj k ∧ st.objs[k]? = some (.list hs) ∧ LinkA st.objs hs items
theorem td_fin (C : CxOk cx) (TO : TabOk tTd cx A) (hA : A.handled = none) (VE : VErr cx) {mk en : Str} {z : TdS} (I : TdI z 1000) (hmk : mk.length ≤ 1000) {L : List (Str × AV)} (hL : L.lookup ("end" : Str) = some (.sstr en)) {items : List (List AV)}
  (hit : items = if en = "" then z.1.map tlA ++ [[.none, .sint z.2.1], [.none, .sint z.2.1]] else (finOf z).map tlA ++ [refusalOf mk en z, refusalOf mk en z]) {ρ : Rho} {s : Shared} {Q : Flow → Shared → Prop} {E : Value → Shared → Prop}
  (R : Rel cx ρ (mkSt (tdL z.2.1 z.2.2 mk L) (tdOs z.1) []) s)
  (k : ∀ ρ' s' a st' v, TKeep s.heap s'.heap → TdEnd items a st' → VRel s'.heap ρ' a v → Rel cx ρ' st' s' → Q (.ret v) s') :
  wpAny (model cx.prog cx.w) A (execs (tdF1 ++ (tdF2 ++ (tdF3 ++ tdF4))) cx.env) Q E s := by
 obtain ⟨told, ln, m⟩ := z
 have hlen := I.len
 dsimp only at hlen hit R
 have lxs : ∀ n, n ≤ 1000 → (hnd n).length ≤ 1000 := fun n hn => by simp [hnd]; lia
 have R : Rel cx ρ (mkSt (tdFn en ln m mk L) (tdOs told) []) s := Rel.look (st := mkSt (tdL ln m mk L) (tdOs told) []) R (look_dup (by unfold tdL; rw [look_ne (by decide +kernel), look_ne (by decide +kernel), look_ne (by decide +kernel), look_ne (by decide +kernel)]; exact hL))
 refine el0_2 (stm_ok C TO hA VE 30) fun _ exO => ?_
 by_cases he : en = ""
 ·rw [if_pos he] at hit
  refine execs_append ?_
  have w : exsW tTd 30 tdF1 (mkSt (tdFn en ln m mk L) (tdOs told) [true]) (fun fl st' => ∃ a, fl = .ret a ∧ TdEnd items a st') := by
   unfold tdOs
   rw [run_td_f1t]
   refine ⟨beq_iff_eq.mpr he, ?_⟩
   refine lstAdd_of (xs := hnd told.length) (ys := [.obj ((inn told).length + 1), .obj (((inn told) ++ [AObj.list [.none, .sint ln]]).length + 1)]) rfl (by rw [List.getElem?_cons_succ]; exact get_end) (by have := lxs told.length hlen; simp only [List.length_cons, List.length_nil]; lia) ?_
   refine ⟨_, rfl, _, _, rfl, get_end, ?_⟩
   rw [hit]
   refine LinkA.append (LinkA.mono (os := .list (hnd told.length) :: (inn told ++ [])) (fun k o h => get_app k o ?_) (link_hnd _ [] told)) ⟨⟨_, rfl, get_app _ _ ?_⟩, ⟨_, rfl, get_app _ _ ?_⟩, trivial⟩
   ·rw [List.append_nil] at h
    rcases k with _ | k
    ·exact h
    ·
     rw [List.getElem?_cons_succ] at h ⊢
     exact get_app _ _ (get_app _ _ (get_app _ _ h))
   ·rw [List.getElem?_cons_succ]; exact get_app _ _ (get_app _ _ get_end)
   ·rw [List.getElem?_cons_succ]; exact get_app _ _ get_end
  generalize tdF1 = g1 at w ⊢
  refine exO g1 _ _ w ρ s _ _ R.dec (fun ρ₂ s₂ f af st₂ p₂ t₂ R₂ F₂ q₂ => ?_) fun _ _ _ _ _ _ _ _ _ _ _ q => by obtain ⟨a, q, _⟩ := q; cases q
  obtain ⟨a, rfl, q₂⟩ := q₂
  obtain ⟨_, rfl, _⟩ := FRel.ret_inv F₂
  rename_i v r
  exact k ρ₂ s₂ a st₂ v t₂ q₂ r R₂
 ·rw [if_neg he] at hit
  refine seqM C TO hA VE (N := 30) [false] (by rw [run_td_f1f]; exact ⟨beq_eq_false_iff_ne.mpr he, rfl, rfl⟩) R fun ρ₁ s₁ p₁ t₁ R₁ => ?_
  generalize hbg : begunOf (told, ln, m) = g at hit
  generalize hfn : finOf (told, ln, m) = fin at hit
  have step2 : ∃ ds bA ex, exsW tTd 30 tdF2 (mkSt (tdFn en ln m mk L) (tdOs told) ds) (fun fl st' => fl = .next ∧ st' = mkSt (put (tdFn en ln m mk L) "begun" bA) (.list (hnd fin.length) :: (inn fin ++ ex)) []) ∧ (bA = .sstr g ∨ bA = .str g) ∧ g.length ≤ 100000 ∧ fin.length ≤ 1000 := by
   by_cases hm : m = "word"
   ·obtain ⟨init, q, rfl⟩ := snoc_of (I.made (by dsimp only; rw [hm]; decide +kernel))
    have e1 : fin = init := by rw [← hfn]; unfold finOf; dsimp only; rw [if_pos hm, List.dropLast_concat]
    have e2 : g = q.1 := by rw [← hbg]; unfold begunOf; dsimp only; rw [if_pos hm]; simp
    refine ⟨[true], .sstr q.1, [.list (tlA q)], ?_, .inl (by rw [e2]), ?_, ?_⟩
    ·rw [tdOs_snoc, run_td_f2t]
     refine ⟨beq_iff_eq.mpr hm, ?_, _, _, rfl, ?_⟩
     ·simp [hnd] at hlen ⊢; lia
     ·unfold itemW
      dsimp only [isS, isI, mkSt]
      rw [inn_last]
      dsimp only
      refine bch_f ?_
      unfold atW
      show ∃ y, (tlA q)[(0 : Int).toNat]? = some y ∧ _
      refine ⟨.sstr q.1, rfl, rfl, ?_⟩
      rw [e1]
    ·have := I.sz q (by simp); rw [e2]; lia
    ·rw [e1]; simp at hlen; lia
   ·have e1 : fin = told := by rw [← hfn]; unfold finOf; dsimp only; rw [if_neg hm]
    have e2 : g = "" := by rw [← hbg]; unfold begunOf; dsimp only; rw [if_neg hm]
    refine ⟨[false], .str "", [], ?_, .inr (by rw [e2]), ?_, by rw [e1]; exact hlen⟩
    ·rw [run_td_f2f]
     refine ⟨beq_eq_false_iff_ne.mpr hm, rfl, ?_⟩
     rw [e1, List.append_nil]; rfl
    ·rw [e2]; decide +kernel
  refine el3_4 step2 fun ds bA ex w hb hgl hfl => ?_
  generalize hg2 : tdF2 = g2 at w ⊢
  refine seqM C TO hA VE ds w R₁ fun ρ₂ s₂ p₂ t₂ R₂ => ?_
  clear w ds
  have R₂ : Rel cx ρ₂ (mkSt (("begun", bA) :: tdFn en ln m mk L) (.list (hnd fin.length) :: (inn fin ++ ex)) []) s₂ := Rel.cons (st := mkSt (tdFn en ln m mk L) (.list (hnd fin.length) :: (inn fin ++ ex)) []) R₂
  have R₂ : Rel cx ρ₂ (mkSt (("begun", .sstr g) :: tdFn en ln m mk L) (.list (hnd fin.length) :: (inn fin ++ ex)) []) s₂ := by
   rcases hb with rfl | rfl
   ·exact R₂
   ·exact R₂.swap ⟨.cons _ _ _ _ _ (.str _) (.refl _), .refl _, rfl⟩
  generalize hos : (AObj.list (hnd fin.length) :: (inn fin ++ ex)) = os at R₂
  have step3 : ∃ ds, exsW tTd 30 tdF3 (mkSt (("begun", .sstr g) :: tdFn en ln m mk L) os ds) (fun fl st' => fl = .next ∧ st' = mkSt (put (("begun", .sstr g) :: tdFn en ln m mk L) "refusal" (.obj os.length)) (os ++ [.list (refusalOf mk en (told, ln, m))]) []) := by
   by_cases hb : en = "\\"
   ·refine ⟨[true], ?_⟩
    rw [run_td_f3t]
    refine ⟨beq_iff_eq.mpr hb, rfl, ?_⟩
    unfold refusalOf
    rw [if_pos hb, hbg]
   ·refine ⟨[false], ?_⟩
    rw [run_td_f3f]
    refine ⟨beq_eq_false_iff_ne.mpr hb, sz_le (by lia), rfl, ?_⟩
    unfold refusalOf
    rw [if_neg hb, hbg]
  refine el1_1 step3 fun ds w => ?_
  generalize hg3 : tdF3 = g3 at w ⊢
  refine seqM C TO hA VE ds w R₂ fun ρ₃ s₃ p₃ t₃ R₃ => ?_
  clear w ds
  generalize hrf : refusalOf mk en (told, ln, m) = rf at hit R₃
  have R₃ : Rel cx ρ₃ (mkSt (("refusal", .obj os.length) :: ("begun", .sstr g) :: tdFn en ln m mk L) (os ++ [.list rf]) []) s₃ := Rel.cons (st := mkSt (("begun", .sstr g) :: tdFn en ln m mk L) (os ++ [.list rf]) []) R₃
  have w : exsW tTd 30 tdF4 (mkSt (("refusal", .obj os.length) :: ("begun", .sstr g) :: tdFn en ln m mk L) (os ++ [.list rf]) []) (fun fl st' => ∃ a, fl = .ret a ∧ TdEnd items a st') := by
   rw [run_td_f4]
   refine lstAdd_of (xs := hnd fin.length) (ys := [.obj os.length, .obj os.length]) (by rw [← hos]; rfl) get_end (by have := lxs fin.length hfl; simp only [List.length_cons, List.length_nil]; lia) ?_
   refine ⟨_, rfl, _, _, rfl, get_end, ?_⟩
   rw [hit]
   have lk := link_hnd (.list (hnd fin.length)) ex fin
   rw [hos] at lk
   refine LinkA.append (lk.mono fun k o h => get_app _ _ (get_app _ _ (get_app _ _ h))) ⟨⟨_, rfl, get_app _ _ (get_app _ _ get_end)⟩, ⟨_, rfl, get_app _ _ (get_app _ _ get_end)⟩, trivial⟩
  generalize tdF4 = g4 at w ⊢
  refine exO g4 _ _ w ρ₃ s₃ _ _ R₃ (fun ρ₄ s₄ f af st₄ p₄ t₄ R₄ F₄ q₄ => ?_) fun _ _ _ _ _ _ _ _ _ _ _ q => by obtain ⟨a, q, _⟩ := q; cases q
  obtain ⟨a, rfl, q₄⟩ := q₄
  obtain ⟨_, rfl, _⟩ := FRel.ret_inv F₄
  rename_i v r
  exact k ρ₄ s₄ a st₄ v (((t₁.trans t₂).trans t₃).trans t₄) q₄ r R₄
end
end Mine
end
noncomputable section
namespace Mine
open PySem PySem.W PyProof.Rows PySem.Calls
theorem lstGo {elts : List Expr} {x1 : Nat} {pos : Pos} {I l : Addr} {i : Nat} {v : Value} {prog : Program} {w : World} {A : Around} {E : Value → Shared → Prop} {s : Shared} {Q : Unit → Shared → Prop} (hit : s.heap.IsListIter I l i) (hQ : Q () s) :
  wpAny (model prog w) A (letOwnedTupleGo (.Tuple elts x1 pos) (.ref I) v) Q E s := by
 refine el1_3 hit fun o ho hc hd => ?_
 unfold letOwnedTupleGo
 cases v with
 | ref T =>
  refine wpAny_bind (wpAny_load ho ?_)
  rw [hc, hd]
  show wpAny _ A (if (["enumerate", "zip", "dict_itemiterator", "dict_reverseitemiterator", "odict_iterator", "itertools.zip_longest", "itertools.pairwise"].contains "list_iterator" &&
    (#[.ref l, .int i 0] : Array Value)[0]? == some (rawInt T)) = true then _ else _) Q E s
  rw [if_neg (by
   intro h
   rw [show (["enumerate", "zip", "dict_itemiterator", "dict_reverseitemiterator", "odict_iterator", "itertools.zip_longest", "itertools.pairwise"].contains "list_iterator") = false from by decide, Bool.false_and] at h
   cases h)]
  exact wpAny_pure hQ
 | _ => exact wpAny_pure hQ
theorem told_ok {cx : Cx} {A : Around} {k : Nat} (G : Gd2 cx A (k + 1)) {er : List (Str × Str)} (hx : er.length ≤ 999) (hp0 : ∀ e ∈ er, 0 < e.1.length) (hp1 : ∀ e ∈ er, e.1.length ≤ 100) {mk en : Str} (hmk : mk.length ≤ 1000) {st : AS} {ρ : Rho} {s : Shared} {b : Addr} {rvs : List Value} {n : Nat} {vm ve : Value} {R : Result → Shared → Prop} (R₀ : Rel cx ρ st s) (hb : s.heap.get? b = some (lstObj rvs n)) (hv : VRels s.heap [] (er.map ent) rvs)
  (hm : VRel s.heap [] (.sstr mk) vm) (he : VRel s.heap [] (.sstr en) ve)
  (kv : ∀ s' c, (∀ b o, s.heap.get? b = some o → s'.heap.get? b = some o) → Rel cx ρ st s' → ToldAt s'.heap c (toldOut mk er en) → R (.ok (.ret (.ref c))) s') :
  codeAny (model cx.prog cx.w) A (.call (.ref 817) ⟨[.ref b, vm, ve], []⟩) R s := by
 refine enterP G.C (ns := nm ["row", "marks", "end"]) (avs := [.val (.ref b), .sstr mk, .sstr en]) (G.hp ▸ G.KO.fTold) G.KO.nl (by have := G.Rm.depth; lia) (by decide +kernel) rfl R₀ (.cons _ _ _ _ (.val _) (.cons _ _ _ _ hm (.cons _ _ _ _ he .nil))) fun env s₁ EO C' R₁ => ?_
 have Rm : Room (A.deeper env) k := G.Rm.deeper env
 have ve : VErr (cx.sub s.heap [] env) := G.KO.ve
 have hA := Rm.handled
 have TOa : TabAll tTd (cx.sub s.heap [] env) (A.deeper env) := td_tabs (cx := cx.sub s.heap [] env) (A := A.deeper env) G.KO EO.scope
 have TO : TabOk tTd (cx.sub s.heap [] env) (A.deeper env) := TOa _ _ C'
 rw [td_split]
 refine seqM (L := (nm ["row", "marks", "end"]).zip [.val (.ref b), .sstr mk, .sstr en]) (os := []) C' TO hA ve (N := 30) [] (by rw [run_td_head]; exact ⟨rfl, rfl⟩) R₁ fun ρ₂ s₂ p₂ t₂ R₂ => ?_
 have R₂ := R₂.swap (st' := mkSt [("row", .val (.ref b)), ("marks", .sstr mk), ("end", .sstr en), ("told", .obj 0), ("line", .sint 1), ("made", .sstr "")] [.list []] [])
  ⟨.cons _ _ _ _ _ (.same _) (.cons _ _ _ _ _ (.same _) (.cons _ _ _ _ _ (.same _) (.cons _ _ _ _ _ (.same _) (.cons _ _ _ _ _ (.int _) (.cons _ _ _ _ _ (.str _) .nil))))), .refl _, rfl⟩
 have kN : env.kindOf "row" = some .local := (TO.kind "row").symm.trans (by kernel_rfl)
 have kP : env.kindOf "piece" = some .local := (TO.kind "piece").symm.trans (by kernel_rfl)
 have kR : env.kindOf "role" = some .local := (TO.kind "role").symm.trans (by kernel_rfl)
 refine wpAny_execs_cons (wpAny_For (local_name C' R₂ kN (by decide +kernel) (av := .val (.ref b)) (by kernel_rfl) fun v r => ?_) (fun _ => rfl))
 w_dflts r
 have R₂ := Rel.look (loc' := tdL 1 "" mk [("row", .val (.ref b)), ("marks", .sstr mk), ("end", .sstr en), ("told", .obj 0), ("line", .sint 1), ("made", .sstr "")]) R₂ (fun y => tdL_look (by kernel_rfl) (by kernel_rfl) (by kernel_rfl) (by kernel_rfl) y)
 have kp₂ : ∀ b o, s.heap.get? b = some o → s₂.heap.get? b = some o := fun b o e => R₂.keep b o e (by intro z; cases z)
 have hb₂ := kp₂ _ _ hb
 have hil : s₂.heap.IsList b rvs.toArray := ⟨_, hb₂, rfl, n, rfl⟩
 refine wpAny_pyIter_list hil ?_
 have hne : b ≠ s₂.heap.objs.size := fun q => by have := no_get s₂.heap; rw [← q, hb₂] at this; cases this
 have R₃ : Rel (cx.sub s.heap [] env) ρ₂ (mkSt (tdL 1 "" mk [("row", .val (.ref b)), ("marks", .sstr mk), ("end", .sstr en), ("told", .obj 0), ("line", .sint 1), ("made", .sstr "")]) [.list []] []) { s₂ with heap := s₂.heap.push { cls := .type "list_iterator", data := .fields #[.ref b, .int 0 0] } } := R₂.ext push_keep rfl rfl
 refine el0_2 (fresh_place R₂ (no_get s₂.heap)) fun f1 f2 => ?_
 have hlen : rvs.length = er.length := by rw [← hv.length, List.length_map]
 have hsz : rvs.toArray.size = er.length := by rw [List.size_toArray, hlen]
 have bold : ∀ {ρ' : Rho} {st' : AS} {s' : Shared}, Rel (cx.sub s.heap [] env) ρ' st' s' → b ∉ env.locals :: foot st'.objs ρ' := by
  intro ρ' st' s' R' hm
  exact (R'.own_ne hm hb (by intro z; cases z)) rfl
 have TOa' : ∀ h os ρ', TabAll tTd ((cx.sub s.heap [] env).now h os ρ') (A.deeper env) := fun h os ρ' h' mt C1 => TOa h' mt C1
 refine forK (A := A.deeper env) C' (KTurns.ofWalks (Walks.list hA s₂.heap.objs.size b hne rvs.toArray) fun i v s Q E st q => by rw [tdT_eq]; exact lstGo st.1 q) wr_list
  (fun i ρ' st' => ∃ L, st' = mkSt (tdL (toldLoop mk (er.take i)).2.1 (toldLoop mk (er.take i)).2.2 mk L) (tdOs (toldLoop mk (er.take i)).1) [] ∧ L.lookup ("end" : Str) = some (.sstr en))
  (fun ρ' st' => ∃ L, st' = mkSt (tdL (toldLoop mk er).2.1 (toldLoop mk er).2.2 mk L) (tdOs (toldLoop mk er).1) [] ∧ L.lookup ("end" : Str) = some (.sstr en))
  (fun i v ρ' st' s' E hi tk hP hI C₁ R' hg' => ?_) (fun ρ' st' s' E hI C₁ R' hg' => ?_) ⟨_, rfl, by kernel_rfl⟩ rfl R₃ ?_ ?_ ?_ fun ρ' st' s' t' R' g' o' => ?_
 ·refine el1_2 hI fun L q0_1 hL => ?_; subst q0_1
  have hP : rvs.toArray[i]? = some v := hP
  rw [List.getElem?_toArray] at hP
  refine el1_2 (hv.getElem hP) fun av h1 h2 => ?_
  rw [List.getElem?_map] at h1
  cases hei : er[i]? with
  | none => rw [hei] at h1; exact nS h1
  | some e =>
   rw [hei] at h1
   cases h1
   have hi' : i < er.length := (List.getElem?_eq_some_iff.mp hei).1
   have tks : TKeep s.heap s'.heap := (TKeep.of fun b o e => push_keep _ _ (kp₂ b o e)).trans tk
   have h3 : VRel s'.heap [] (ent e) v := VRel.mono tks (PKeep.refl _) h2
   cases h3 with
   | tup _ us T m hT rs =>
    obtain ⟨u1, _, rfl, r1, rs⟩ := rs.cons_inv
    obtain ⟨u2, _, rfl, r2, rs⟩ := rs.cons_inv
    w_dflts rs
    have hmem : e ∈ er := List.mem_of_getElem? hei
    rw [tdT_eq]
    refine asg_pair C₁ hA kP kR ⟨_, hT, rfl, m, rfl⟩ (a := .sstr e.1) (b := .sstr e.2) (by w_dflts r1; exact .sstr _ _) (by w_dflts r2; exact .sstr _ _) R' fun s₄ t₄ R₄ => ?_
    have R₄ := Rel.look (loc' := tdHd e.2 e.1 (toldLoop mk (er.take i)).2.1 (toldLoop mk (er.take i)).2.2 mk L) R₄ (fun y => by
     show _ = List.lookup y (put (put _ _ _) _ _)
     rw [lookup_put, lookup_put]
     unfold tdHd
     by_cases hr : y = "role"
     ·rw [if_pos hr, hr, List.lookup_cons_self]
     ·rw [if_neg hr, look_ne hr]
      by_cases hp : y = "piece"
      ·rw [if_pos hp, hp, List.lookup_cons_self]
      ·rw [if_neg hp, look_ne hp]; rfl)
    refine td_turn C₁ (TOa' s'.heap (tdOs (toldLoop mk (er.take i)).1) ρ' _ _ C₁) hA ve (td_inv mk er hp1 i (by lia)) (by lia) (hp0 e hmem) (hp1 e hmem) hL R₄ fun ρ₅ s₅ L₅ t₅ hL₅ R₅ => ?_
    refine ⟨ρ₅, _, R₅, rfl, L₅, ?_, hL₅⟩
    rw [take_snoc hei, toldLoop_snoc]
 ·refine el1_2 hI fun L q0_1 hL => ?_; subst q0_1
  rw [hsz, List.take_length] at R' ⊢
  exact wpAny_execs_nil ⟨rfl, ρ', _, R', rfl, L, rfl, hL⟩
 ·exact ⟨⟨_, Heap.get?_push_size _ rfl, rfl, rfl⟩, hil.at fun o e => push_keep _ _ e⟩
 ·intro b' hb'
  rcases List.mem_cons.mp hb' with rfl | hb'
  ·exact ⟨f1, by rw [Heap.get?_push_size _ rfl]; simp⟩
  ·rw [List.mem_singleton.mp hb']
   exact ⟨bold R₂, by rw [push_keep _ _ hb₂]; simp⟩
 ·intro b' hb'
  rw [List.mem_singleton.mp hb']; exact f2
 ·refine el1_2 o' fun L q0_1 hL => ?_; subst q0_1
  have I := td_inv mk er hp1 er.length (Nat.le_refl _)
  rw [List.take_length] at I
  refine td_fin C' TO hA ve (z := toldLoop mk er) (items := toldOut mk er en) ⟨I.made, by have := I.len; lia, fun e he => by have := I.sz e he; lia⟩ hmk hL rfl R' fun ρ₅ s₅ a st₅ v t₅ T₅ V₅ R₅ => ?_
  refine el2_3 T₅ fun kk hs q0_2 h1 h2 => ?_; subst q0_2
  refine el0_2 (backP R₀ R₅) fun Rb kb => ?_
  obtain ⟨c, rfl, hc⟩ := told_of R₅.objs h1 h2 (fun it hit => by
   unfold toldOut at hit
   split at hit
   ·rcases List.mem_append.mp hit with h | h
    ·exact low_tlA _ it h
    ·rcases List.mem_cons.mp h with rfl | h
     ·rfl
     ·rw [List.mem_singleton.mp h]; rfl
   ·have hrf : lowAs 0 (refusalOf mk en (toldLoop mk er)) = true := by unfold refusalOf; split <;> rfl
    rcases List.mem_append.mp hit with h | h
    ·exact low_tlA _ it h
    ·rcases List.mem_cons.mp h with rfl | h
     ·exact hrf
     ·rw [List.mem_singleton.mp h]; exact hrf) V₅
  exact kv s₅ c kb Rb hc
end Mine
end
noncomputable section
namespace Mine
open PySem PySem.W PyProof.Rows PySem.Calls
theorem mro_dq : mroOf (.type "collections.deque") = pure [.type "collections.deque", .type "object"] := by rw [mroOf_type]; kernel_rfl
theorem new_dq : typeLookup (.type "collections.deque") "__new__" = pure (some (.builtin "collections.deque.__new__")) := by rw [typeLookup_type, builtinLookup_eq_fast]; kernel_rfl
theorem slot_dq_init : Slot "collections.deque" "__init__" "collections.deque.__init__" :=
 Slot.of (owner := "collections.deque") (n := "__init__") (by rw [typeLookup_type, builtinLookup_eq_fast]; kernel_rfl) (by decide +kernel) (by decide +kernel) (by decide +kernel) (.inl (by decide +kernel)) (by rw [isSubtype_type]; kernel_rfl)
theorem called_dq : TypeCalled "collections.deque" "collections.deque.__new__" "collections.deque.__init__" :=
 ⟨by decide +kernel, by decide +kernel, ⟨_, _, mro_dq⟩, madeBy_type mro_dq new_dq (by decide +kernel), by decide +kernel, by rw [isSubtype_type]; kernel_rfl, slot_dq_init⟩
theorem entry_dq_new : entryFor table "collections.deque.__new__" = some Builtin.«collections.deque.__new__» := entryFor_of_tree (by kernel_rfl)
theorem entry_dq_init : entryFor table "collections.deque.__init__" = some Builtin.«collections.deque.__init__» := entryFor_of_tree (by kernel_rfl)
theorem sub_dq_self : isSubtype (.type "collections.deque") (.type "collections.deque") = pure true := by rw [isSubtype_type]; kernel_rfl
theorem dq_new_meets : Meets (Builtin.«collections.deque.__new__» ⟨[.type "collections.deque"], []⟩) (fun _ R s => R (.ok (.ret (.ref s.heap.objs.size))) { s with heap := s.heap.push (deqObj [] 0) }) :=
 .of_wp fun prog w A R s h => by
  have hsub := sub_dq_self
  wp_walk
  refine wpAny_of_eq hsub ?_
  wp_walk
  exact ⟨_, rfl, h⟩
theorem dq_init_meets (a : Addr) : Meets (Builtin.«collections.deque.__init__» ⟨[.ref a], []⟩) (fun _ R s => s.heap.get? a = some (deqObj [] 0) ∧ ∀ h', Heap.SameBut a s.heap h' → h'.get? a = some (deqObj [] 0) → R (.ok (.ret .none)) { s with heap := h' }) :=
 .of_wp fun prog w A R s h => by
  refine el0_2 h fun ha h => ?_
  unfold Builtin.«collections.deque.__init__»
  show wpAny _ _ (setField (.ref a) 0 .none >>= fun _ => _) _ _ s
  refine wpAny_bind (wpAny_setField ha rfl (by simp) ?_)
  have sb : Heap.SameBut a s.heap (s.heap.update a (Obj.mapFields (·.setIfInBounds 0 Value.none))) := Heap.SameBut.update ..
  have g : (s.heap.update a (Obj.mapFields (·.setIfInBounds 0 Value.none))).get? a = some (deqObj [] 0) := Heap.get?_update_self _ ha rfl
  unfold Builtin.Deque.clear Builtin.Deque.items
  refine wpAny_bind (wpAny_bind (wpAny_bind (wpAny_fieldsOf g rfl (wpAny_pure ?_))))
  show wpAny _ _ (pure () >>= fun _ => _) _ _ _
  refine wpAny_bind (wpAny_pure ?_)
  refine wpAny_pure ?_
  exact wpAny_pure ⟨_, rfl, h _ sb g⟩
theorem dq_make {prog : Program} {w : World} {A : Around} {Q E : Value → Shared → Prop} {s : Shared} (q : ∀ h', (∀ b o, s.heap.get? b = some o → h'.get? b = some o) → h'.get? s.heap.objs.size = some (deqObj [] 0) → Q (.ref s.heap.objs.size) { s with heap := h' }) :
  wpAny (model prog w) A (call (.type "collections.deque") []) Q E s := by
 refine callType_meets called_dq (by kernel_rfl) (by kernel_rfl) entry_dq_new entry_dq_init dq_new_meets (Q₁ := fun v s' => v = .ref s.heap.objs.size ∧ s' = { s with heap := s.heap.push (deqObj [] 0) }) ⟨rfl, rfl⟩ fun obj s₁ h => ?_
 obtain ⟨rfl, rfl⟩ := h
 have g : (s.heap.push (deqObj [] 0)).get? s.heap.objs.size = some (deqObj [] 0) := Heap.get?_push_size _ rfl
 refine ⟨⟨_, g, rfl⟩, by unfold argsOk; kernel_rfl, _, dq_init_meets _, g, fun h' sb g' => ⟨rfl, q h' (fun b o e => ?_) g'⟩⟩
 exact sb.extBut b o (fun z => by rw [z, no_get] at e; cases e) (push_keep _ _ e)
end Mine
end
noncomputable section
namespace Mine
open PySem PySem.W PyProof.Rows PySem.Calls
noncomputable def P1 (K : Frag) {α : Type} (t : Sem α) (r : α) : Prop := ∀ S, peek K S t = some r
theorem P1.lk {K : Frag} {α : Type} {t : Sem α} {r : α} (e : P1 K t r) {M : Model} {h : Heap} (X : K.In h) : Looks M h t r := Looks.of_peek X (e _)
structure KNew (K : Frag) : Prop where
 obj : ∃ oc od cd sl, K.lookup 597 = some ⟨oc, od, .cls cd, sl⟩ ∧ cd.abstract = false ∧ cd.hasDel = false
 mro : ∃ c l, P1 K (mroOf (.ref 597)) (c :: l)
 chk : P1 K (checkBuiltinCall "object.__new__" ⟨[.ref 597], []⟩) ()
 isT : P1 K (isType (.ref 597)) true
 here : P1 K (Bind.madeHere "object.__new__" (.ref 597)) ()
 by_ : P1 K (Bind.madeBy (.ref 597)) none
 call : specialIn K (.ref 597) "__call__" = some (some (.builtin "type.__call__"))
 inst : instIn K (.ref 597) (.type "type") = some true
 self : mroIn K 597 (.ref 597) = some true
 reads : ∃ mc, typeIn K (.ref 597) = some mc ∧ readsIn K 597 mc = true ∧ findCls K (.ref 597) mc "__new__" = some (.get (.builtin "staticmethod.__get__") (.ref 94) .none (.ref 597))
 sm : recIn K 94 "staticmethod" = some [.ref 90]
 init : findIn K (.ref 597) "__init__" = some (some (.ref 367)) ∧ typeIn K (.ref 367) = some (.type "function")
section
variable {prog : Program} {w : World} {A : Around} {K : Frag} {R : Result → Shared → Prop} {s : Shared}
theorem new_N (X : K.In s.heap) (N : KNew K) (hq : R (.ok (.ret (.ref (s.heap.objs.size + 1)))) { s with heap := (s.heap.push emptyDict).push (instObj 597 s.heap.objs.size) }) :
  codeAny (model prog w) A (.call (.builtin "object.__new__") ⟨[.ref 597], []⟩) R s := by
 refine el4_3 N.obj fun oc od cd sl ho e1 e2 => ?_
 have hC := X _ _ ho
 have F := PySem.F.objNew
 refine codeAny_call_builtin_code (Code.quiet_builtin _ F.quiet) ((N.chk.lk X).here ?_)
 refine codeAny_builtin F.entry ?_
 unfold Builtin.«object.__new__»
 refine wpAny_bind ((N.isT.lk X).here ?_)
 refine wpAny_bind ((N.here.lk X).here ?_)
 obtain ⟨h, g, d, t, os⟩ := s
 have hcl : Looks (model prog w) h (classData 597) cd := (Looks.ld (part := none) hC).andThen .now
 refine wpAny_bind (hcl.here ?_)
 dsimp only
 rw [e1]
 show wpAny _ _ ((alloc emptyDict >>= fun x => pure (some x)) >>= _) _ _ _
 refine wpAny_bind (wpAny_bind (wpAny_alloc (wpAny_pure (wpAny_bind ?_))))
 show wpAny _ _ (newObjAsIs _ _ _) _ _ _
 unfold newObjAsIs classHasDel
 refine wpAny_bind (wpAny_alloc (wpAny_bind (wpAny_bind (wpAny_load (Heap.get?_push_of_some _ (Heap.get?_push_of_some _ hC)) (wpAny_pure ?_)))))
 rw [e2]
 refine wpAny_pure (wpAny_pure ?_)
 show R _ _
 rw [Heap.size_push]
 exact hq
end
end Mine
end
noncomputable section
namespace Mine
open PySem PySem.W PyProof.Rows PySem.Calls
structure FnRec (prog : Program) (w : World) (K : Frag) (f : Addr) (fd : FuncData) (bd : List Stmt) (sc : Scope) : Prop where
 at_ : ∃ oc od sl, K.lookup f = some ⟨oc, od, .func fd, sl⟩
 body : fd.body = .stmts bd
 scope : fd.scope = sc
 gl : fd.globals = mainGlobals
 bi : fd.builtins = builtinsNs
 cl : fd.closure = []
 code : codeIn K fd.code fd.qualname = true
 co : sc.isCoroutine = false
 gen : sc.isGenerator = false
 kf : sc.kind = .function
 cell : ∀ x ∈ sc.names, x.2 ≠ .cell
section
variable {cx : Cx} {A : Around} {R : Result → Shared → Prop} {s : Shared} {f : Addr} {fd : FuncData} {body : List Stmt} {scope : Scope} {ns : List Str} {ρ : Rho} {st : AS}
theorem enterB {args : Args} (Pa : List AV → Prop) (C : CxOk cx) (F : FnRec cx.prog cx.w cx.K f fd body scope) (NL : nsOkIn cx.K cStatics = true ∧ nsIn cx.K cStatics "sys.recursionlimit" = some none) (hroom : A.depth < recursionLimit) (nd : ns.Nodup) (hns : ∀ n ∈ ns, scope.names.lookup n = some .local)
  (R₀ : Rel cx ρ st s)
  (hb : ∀ (Q : List (Str × Value) → Shared → Prop), (∀ h' vs tk avs, Pa avs → ns.length = avs.length → (∀ b o, s.heap.get? b = some o → h'.get? b = some o) → VRels h' ρ avs vs → Q (ns.zip vs) { s with heap := h', toks := tk }) → wpAny (model cx.prog cx.w) A.in1 (bindArgs fd args) Q (fun e s' => R (.error e) s') s)
  (h : ∀ env s₁ L avs, Pa avs → EnvOk env scope L → s.heap.get? L = none → CxOk (cx.sub s.heap (foot st.objs ρ) env) → (∀ b o, s.heap.get? b = some o → s₁.heap.get? b = some o) → Rel (cx.sub s.heap (foot st.objs ρ) env) ρ { loc := ns.zip avs, objs := st.objs, dec := [] } s₁ →
   wpAny (model cx.prog cx.w) (A.deeper env) (execs body env) (fun fl s' => R (.ok (.ret (match fl with | .ret v => v | _ => .none))) s')
    (fun e s' => wpAny (model cx.prog cx.w) (A.deeper env) (leaving env e) (fun _ s'' => R (.error e) s'') (fun e' s'' => R (.error e') s'') s') s₁) :
  codeAny (model cx.prog cx.w) A (.call (.ref f) args) R s := by
 have X := R₀.kin C
 refine el3_1 F.at_ fun oc od sl hf => ?_
 have hsc := F.scope
 have hcl := F.cl
 refine codeAny_call_function hroom (X _ _ hf) rfl (by rw [hsc]; exact F.co) (by rw [hsc]; exact F.gen) F.body (codeRec_of X F.code) ?_
 refine hb _ fun h' vs tk avs pa hl keep V => ?_
 have nl : Heap.NoLimit h' := nolimit_of (X.keeps keep) NL.1 NL.2
 refine wpAny_newFunctionEnv (by rw [hsc]; exact F.cell) (fun x hx => ?_) (fun h₁ hns₁ hsb => ⟨nl.fresh _ hsb, ?_⟩) (by rw [hsc]; exact F.kf)
 ·rw [hsc]
  exact hns _ (List.of_mem_zip hx).1
 refine codeAny_func ?_
 have noL : s.heap.get? h'.objs.size = none := by
  cases q : s.heap.get? h'.objs.size with
  | none => rfl
  | some o => have := keep _ _ q; rw [no_get] at this; cases this
 have keep₁ : ∀ b o, s.heap.get? b = some o → h₁.get? b = some o := fun b o e => (hsb.2 b (fun q => by rw [q, noL] at e; cases e)).trans (Heap.get?_push_of_some _ (keep _ _ e))
 have keep₂ : ∀ b o, h'.get? b = some o → h₁.get? b = some o := fun b o e => (hsb.2 b (Nat.ne_of_lt (Heap.lt_size e))).trans (Heap.get?_push_of_some _ e)
 refine h _ _ h'.objs.size avs pa ⟨hsc, rfl, F.gl, F.bi, rfl, hcl⟩ noL ?_ keep₁ ?_
 ·exact ⟨by show fd.scope.kind = _; rw [hsc]; exact F.kf, F.gl, F.bi, C.kin, fun b o e => R₀.base C b o e, fun a ha => foot_fresh C R₀ a ha⟩
 ·refine ⟨fun b o e _ => keep₁ b o e, ⟨_, hns₁, fun x => ?_⟩, OsRel.keeps (.of keep₁) (PKeep.refl _) R₀.objs fun a _ ob => keep₁ a ob, ?_, ?_, R₀.gens, R₀.os, fun _ hp => (nomatch hp), List.nodup_nil⟩
  ·exact (lookup_zip V nd hl x).mono (.of keep₂) (PKeep.refl _)
  ·show (h'.objs.size :: foot st.objs ρ).Nodup
   refine List.nodup_cons.mpr ⟨fun hm => ?_, (List.nodup_cons.mp R₀.nodup).2⟩
   refine el1_2 (R₀.objs.here _ hm) fun ob hob _ => ?_
   rw [noL] at hob; cases hob
  ·intro a ha
   rcases List.mem_cons.mp ha with rfl | ha
   ·exact .inr noL
   ·exact .inl ha
end
end Mine
end
noncomputable section
namespace Mine
open PySem PySem.W PyProof.Rows PySem.Calls
noncomputable def fnPar (n : Str) : List Stmt → Arguments
 | [] => { posonlyargs := [], args := [], vararg := none, kwonlyargs := [], kw_defaults := [], kwarg := none, defaults := [] }
 | .FunctionDef m a _ _ _ _ _ _ _ _ :: r => match m == n with
  | true => a
  | false => fnPar n r
 | _ :: r => fnPar n r
noncomputable def iobB : List Stmt := clsBody "IOBase" topBody
noncomputable def dNew := fnIn "__new__" iobB
noncomputable def newPar : Arguments := fnPar "__new__" iobB
noncomputable def argP (o : Option Arg) : Pos := match o with
 | some a => a.pos
 | none => default
theorem newPar_eq : newPar = { posonlyargs := [{ arg := "cls", annotation := none, pos := argP newPar.posonlyargs.head? }], args := [], vararg := some { arg := "args", annotation := none, pos := argP newPar.vararg }, kwonlyargs := [], kw_defaults := [], kwarg := some { arg := "kwargs", annotation := none, pos := argP newPar.kwarg }, defaults := [] } := by kernel_rfl
theorem bind_new {M : Model} {A : Around} {E : Value → Shared → Prop} {s : Shared} {fd : FuncData} {c v : Value} (hp : fd.params = newPar) (hd : fd.defaults = .none) {Q : List (Str × Value) → Shared → Prop}
  (q : ∀ h', (∀ b o, s.heap.get? b = some o → h'.get? b = some o) → ∀ t d : Addr, Q [("cls", c), ("args", .ref t), ("kwargs", .ref d)] { s with heap := h' }) : wpAny M A (bindArgs fd ⟨[c, v], []⟩) Q E s := by
 unfold bindArgs
 rw [hp, newPar_eq, hd]
 obtain ⟨h, g, d, t, os⟩ := s
 wp_walk
 exact q _ (fun b o e => push_keep _ _ (push_keep _ _ e)) _ _
structure MadeI (C : Addr) (s s' : Shared) (x d : Addr) : Prop where
 keep : ∀ b o, s.heap.get? b = some o → s'.heap.get? b = some o
 inst : s'.heap.get? x = some (instObj C d)
 dict : s'.heap.get? d = some emptyDict
 nx : s.heap.get? x = none
 nd : s.heap.get? d = none
 ne : x ≠ d
 gens : s'.gens = s.gens
 os : s'.os = s.os
theorem MadeI.under {C : Addr} {s s₁ s' : Shared} {x d : Addr} (m : MadeI C s₁ s' x d) (k : ∀ b o, s.heap.get? b = some o → s₁.heap.get? b = some o) (g : s₁.gens = s.gens) (os : s₁.os = s.os) : MadeI C s s' x d := by
 have none_of : ∀ a, s₁.heap.get? a = none → s.heap.get? a = none := fun a h => by
  cases q : s.heap.get? a with
  | none => rfl
  | some o => have := k _ _ q; rw [h] at this; cases this
 exact ⟨fun b o e => m.keep _ _ (k _ _ e), m.inst, m.dict, none_of _ m.nx, none_of _ m.nd, m.ne, m.gens.trans g, m.os.trans os⟩
structure KNew2 (w : World) (K : Frag) : Prop extends KNew K where
 fNew : ∃ fd, FnRec prog0 w K 90 fd (bodyOf dNew) (scopeOf dNew) ∧ fd.params = newPar ∧ fd.defaults = .none
 gB : nsIn K mainGlobals "BytesIO" = some (some (.ref 350))
 gS : nsIn K mainGlobals "StringIO" = some (some (.ref 597))
 gO : nsIn K mainGlobals "object" = some none ∧ nsIn K builtinsNs "object" = some (some (.type "object"))
 c350 : ∃ o, K.lookup 350 = some o
 c597 : ∃ o, K.lookup 597 = some o ∧ o.cls = .type "type"
noncomputable def nwX : (Expr × Expr × Pos) × (Expr × Expr × Pos) × (Pos × List Stmt × Pos) × (Pos × Pos × Pos × Pos × Pos) := match bodyOf dNew with
 | [.If (.BoolOp _ [.Compare a1 _ [b1] p1, .Compare a2 _ [b2] p2] p3) bd _ p4, .Return (some (.Call (.Attribute (.Name _ q1) _ q2) [.Name _ q3] _ q4)) q5] => ((a1, b1, p1), (a2, b2, p2), (p3, bd, p4), (q1, q2, q3, q4, q5))
 | _ => default
theorem nw_body : bodyOf dNew = [.If (.BoolOp .And [.Compare nwX.1.1 [.IsNot] [nwX.1.2.1] nwX.1.2.2, .Compare nwX.2.1.1 [.IsNot] [nwX.2.1.2.1] nwX.2.1.2.2] nwX.2.2.1.1) nwX.2.2.1.2.1 [] nwX.2.2.1.2.2, .Return (some (.Call (.Attribute (.Name "object" nwX.2.2.2.1) "__new__" nwX.2.2.2.2.1) [.Name "cls" nwX.2.2.2.2.2.1] [] nwX.2.2.2.2.2.2.1)) nwX.2.2.2.2.2.2.2] := by kernel_rfl
noncomputable def eP (e : Expr) : Pos := match e with
 | .Name _ p => p
 | _ => default
theorem nw_a1 : nwX.1.1 = .Name "cls" (eP nwX.1.1) := by kernel_rfl
theorem nw_b1 : nwX.1.2.1 = .Name "BytesIO" (eP nwX.1.2.1) := by kernel_rfl
theorem nw_a2 : nwX.2.1.1 = .Name "cls" (eP nwX.2.1.1) := by kernel_rfl
theorem nw_b2 : nwX.2.1.2.1 = .Name "StringIO" (eP nwX.2.1.2.1) := by kernel_rfl
theorem meth_ty {prog : Program} {w : World} {A : Around} {K : Frag} {s : Shared} {E : Value → Shared → Prop} {Q : Value × List Value → Shared → Prop} {pl : Sem Bool} (X : K.In s.heap) {T : String} {name : Str} {r : CFound} (hT : typeOf (.type T) = pure (.type "type"))
  (hs : Manifest.isStub T = false) (e : findCls K (.type T) (.type "type") name = some r)
  (h : wpAny (model prog w) A.in1 r.run (fun fin s' => match fin with | .done (.ret v) => wpAny (model prog w) A (handedOut v) (fun v s' => Q (v, []) s') E s' | _ => False) (fun _ _ => False) { s with toks := s.toks + 1 }) : wpAny (model prog w) A (getMethod (.type T) name pl) Q E s := by
 have ho : opaqueClassAbove (.type T) = pure none := by unfold opaqueClassAbove; dsimp only; rw [hs]; rfl
 have L0 : Looks (model prog w) s.heap (typeOf (.type T)) (.type "type") := Looks.of_pure hT
 have hg : findIn K (.type "type") "__getattribute__" = some (some (.builtin "type.__getattribute__")) := type_tga
 unfold getMethod specialOf
 refine wpAny_bind (wpAny_bind (L0.here ((looks_findIn X hg).here ?_)))
 dsimp only
 rw [if_pos canon_tga]
 refine wpAny_bind (wpAny_mono (Q := fun v s' => Q (v, []) s') (E := E) ?_ (fun _ _ z => wpAny_pure z) fun _ _ z => z)
 exact cls_open X (Looks.of_pure ho) L0 hg (looks_hook X (r := none) (by rfl)) (by show subIn K _ _ = _; rfl) e h
end Mine
end
noncomputable section
namespace Mine
open PySem PySem.W PyProof.Rows PySem.Calls
theorem iob_new {cx : Cx} {A : Around} {k : Nat} (C : CxOk cx) (KB : KBase cx.K) (N : KNew2 cx.w cx.K) (hp : cx.prog = prog0) (Rm : Room A (k + 2)) {ρ : Rho} {st : AS} {s : Shared} (R₀ : Rel cx ρ st s) {v : Value} {R : Result → Shared → Prop}
  (kv : ∀ s' x d, MadeI 597 s s' x d → R (.ok (.ret (.ref x))) s') : codeAny (model cx.prog cx.w) A (.call (.ref 90) ⟨[.ref 597, v], []⟩) R s := by
 refine el1_3 N.fNew fun fd F hpar hdef => ?_
 refine enterB (ns := nm ["cls", "args", "kwargs"]) (fun avs => ∃ t d, avs = [.val (.ref 597), .val (.ref t), .val (.ref d)]) C (hp ▸ F) KB.nl (by have := Rm.depth; omega) (by decide +kernel) (by decide +kernel) R₀
  (fun Q q => bind_new hpar hdef fun h' keep t d => q h' [.ref 597, .ref t, .ref d] s.toks _ ⟨t, d, rfl⟩ rfl keep (.cons _ _ _ _ (.val _) (.cons _ _ _ _ (.val _) (.cons _ _ _ _ (.val _) .nil)))) fun env s₁ L avs pa EO nL C' t₁ R₁ => ?_
 refine el2_1 pa fun t d q0_2 => ?_; subst q0_2
 have kC : env.kindOf "cls" = some .local := by show env.scope.names.lookup _ = _; rw [EO.scope]; kernel_rfl
 have kB : env.kindOf "BytesIO" = some .globalImplicit := by show env.scope.names.lookup _ = _; rw [EO.scope]; kernel_rfl
 have kS : env.kindOf "StringIO" = some .globalImplicit := by show env.scope.names.lookup _ = _; rw [EO.scope]; kernel_rfl
 have kO : env.kindOf "object" = some .globalImplicit := by show env.scope.names.lookup _ = _; rw [EO.scope]; kernel_rfl
 refine el1_1 N.c350 fun o350 h350 => ?_
 refine el1_2 N.c597 fun o597 h597 hc597 => ?_
 have X₁ : cx.K.In s₁.heap := Rel.kin (cx := cx.sub s.heap (foot st.objs ρ) env) C' R₁
 rw [nw_body, nw_a1, nw_b1, nw_a2, nw_b2]
 refine wpAny_execs_cons (wpAny_If (isTrue_and (wpAny_isTrue_Compare1 (local_name (cx := cx.sub s.heap (foot st.objs ρ) env) C' R₁ kC (by decide +kernel) (av := .val (.ref 597)) (by kernel_rfl) fun v r => ?_) (by kernel_rfl))))
 cases r
 refine global_name (cx := cx.sub s.heap (foot st.objs ρ) env) C' R₁ kB (by decide +kernel) (.inl N.gB) (wpAny_isNot_ref_other (by decide) (X₁ _ _ h597) (X₁ _ _ h350) (by rw [hc597]; decide) (wpAny_truthy_bool ?_))
 rw [if_pos rfl]
 refine isTrue_and (wpAny_isTrue_Compare1 (local_name (cx := cx.sub s.heap (foot st.objs ρ) env) C' R₁ kC (by decide +kernel) (av := .val (.ref 597)) (by kernel_rfl) fun v r => ?_) (by kernel_rfl))
 cases r
 refine global_name (cx := cx.sub s.heap (foot st.objs ρ) env) C' R₁ kS (by decide +kernel) (.inl N.gS) (wpAny_isNot_ref_self (wpAny_truthy_bool ?_))
 rw [if_neg (by decide), if_neg (by decide)]
 refine wpAny_execs_nil (wpAny_execs_cons (wpAny_Return_some (Call_attr rfl (by kernel_rfl) (by decide) rfl (global_name (cx := cx.sub s.heap (foot st.objs ρ) env) C' R₁ kO (by decide +kernel) (.inr N.gO) ?_))))
 with_reducible refine meth_ty X₁ (by kernel_rfl) (by decide +kernel) (r := .val (.builtin "object.__new__")) (by kernel_rfl) (wpAny_pure ?_)
 show wpAny _ _ (handedOut _) _ _ _
 rw [handedOut_of (by decide +kernel)]
 refine wpAny_pure ?_
 refine callWith_ok (K := cx.K) (es := [_]) rfl (fun h _ => keeper_plain (fun a q => by cases q) h) ?_
 have R₂ := Rel.toks (t := s₁.toks + 1) R₁
 refine spliced_more (local_name (cx := cx.sub s.heap (foot st.objs ρ) env) C' R₂ kC (by decide +kernel) (av := .val (.ref 597)) (by kernel_rfl) fun v r => ?_) rfl
 cases r
 refine Calls.spliced_nil ⟨X₁, wpAny_call ?_⟩
 refine new_N X₁ N.toKNew ?_
 refine kv _ (s₁.heap.objs.size + 1) s₁.heap.objs.size (MadeI.under (s₁ := { s₁ with toks := s₁.toks + 1 }) ⟨fun b o e => push_keep _ _ (push_keep _ _ e), ?_, push_keep _ _ (Heap.get?_push_size _ rfl), ?_, no_get _, Nat.succ_ne_self _, rfl, rfl⟩ t₁ (R₁.gens.trans R₀.gens.symm) (R₁.os.trans R₀.os.symm))
 ·have := Heap.get?_push_size (s₁.heap.push emptyDict) (o := instObj 597 s₁.heap.objs.size) rfl
  rw [Heap.size_push] at this
  exact this
 ·cases q : s₁.heap.get? (s₁.heap.objs.size + 1) with
  | none => rfl
  | some o => exact absurd (Heap.lt_size q) (Nat.not_lt.mpr (Nat.le_succ _))
end Mine
end
noncomputable section
namespace Mine
open PySem PySem.W PyProof.Rows PySem.Calls
noncomputable def gL3 : List (Str × Value) := [("type", .type "type"), ("str", .type "str"), ("isinstance", .builtin "isinstance"), ("StringIO", .ref 597), ("deque", .type "collections.deque")]
noncomputable def meL3 : List (Addr × Str × Addr) := [(597, "_StringIO__translated", 374)]
noncomputable def dTrans := fnIn "__translated" sioB
noncomputable def dSinit := fnIn "__init__" sioB
noncomputable def dLinit := fnIn "__init__" lexB
structure KOk3 (w : World) (K : Frag) : Prop extends KOk2 w K where
 new : KNew2 w K
 gl3 : ∀ p ∈ gL3, (nsIn K mainGlobals p.1 = some (some p.2) ∨ (nsIn K mainGlobals p.1 = some none ∧ nsIn K builtinsNs p.1 = some (some p.2))) ∧ (∀ a, p.2 = .ref a → keepIn K p.2 = true)
 me3 : ∀ p ∈ meL3, MethAt K p.1 p.2.1 p.2.2
 fTrans : FnAt prog0 w K 374 (bodyOf dTrans) (scopeOf dTrans) 2 (fun vs => (nm ["self", "s"]).zip vs)
 fSinit : ∃ t0, FnAt prog0 w K 367 (bodyOf dSinit) (scopeOf dSinit) 2 (fun vs => (nm ["self", "initial_value", "newline"]).zip (vs ++ [.str "\n" t0]))
noncomputable def tabK (sc : Scope) (sm : Value → List AV → AS → PostV → Prop) : Tab where
 kind x := sc.names.lookup x
 G x := lookG x gL3
 pl := plT
 me C x := look3 C x meL3
 pr C x := none
 bm k x := none
 sm := sm
 sp := noSp
theorem tabK_ok {cx : Cx} {A : Around} (KO : KOk3 cx.w cx.K) {sc : Scope} {sm : Value → List AV → AS → PostV → Prop} (e : cx.env.scope = sc)
  (hm : ∀ f avs st Qa, sm f avs st Qa → SmOk cx A f avs st Qa) : TabOk (tabK sc sm) cx A where
 kind x := by show sc.names.lookup x = cx.env.scope.names.lookup x; rw [e]
 G x v h := KO.gl3 _ (lookG_mem h)
 pl C x h := by
  change plT C x = true at h
  unfold plT at h
  split at h
  ·rename_i q; rw [eq_of_beq q]; exact KO.pl1 x (List.contains_iff_mem.mp h)
  ·split at h
   ·rename_i q; rw [eq_of_beq q]; exact KO.pl2 x (List.contains_iff_mem.mp h)
   ·cases h
 me C x f h := KO.me3 _ (look3_mem h)
 pr C x f h := by cases h
 bm k x id h := by cases h
 sm := hm
 sp f i st Q h := h.elim
structure Gd3 (cx : Cx) (A : Around) (k : Nat) : Prop where
 C : CxOk cx
 KO : KOk3 cx.w cx.K
 hp : cx.prog = prog0
 Rm : Room A k
noncomputable def tTr : Tab := tabK (scopeOf dTrans) smNone
noncomputable def trO (o0 : AObj) : List AObj := [o0, .inst 597 [("_StringIO__newline", .str "\n"), ("_StringIO__buf", .str ""), ("_StringIO__pos", .int 0)]]
theorem run_trans (x : Str) (o0 : AObj) (P : PostF) : exsW tTr 30 (bodyOf dTrans) { loc := (nm ["self", "s"]).zip [.obj 1, .sstr x], objs := trO o0, dec := [] } P =
  P (.ret (.sstr x)) { loc := (nm ["self", "s", "newline"]).zip [.obj 1, .sstr x, .str "\n"], objs := trO o0, dec := [] } := by kernel_rfl
noncomputable def smSi (f : Value) (avs : List AV) (st : AS) (Q : PostV) : Prop := match f, avs with
 | .ref a, [.obj 1, .sstr x] => (match a == 374 with
  | true => (∃ o0, st.objs = trO o0) ∧ Q (.sstr x) st
  | false => False)
 | .type id, [a] => (match id == "type" with
  | true => typeW a st Q
  | false => False)
 | _, _ => False
noncomputable def tSi : Tab := tabK (scopeOf dSinit) smSi
theorem run_sinit (x : Str) (o0 : AObj) (P : AF → List AObj → Prop) : exsW tSi 40 (bodyOf dSinit) { loc := (nm ["self", "initial_value", "newline"]).zip [.obj 1, .sstr x, .str "\n"], objs := [o0, .inst 597 []], dec := [] } (fun fl st' => P fl st'.objs) =
  ((∃ o0', trO o0 = trO o0') ∧ P .next [o0, .inst 597 [("_StringIO__newline", .str "\n"), ("_StringIO__buf", .sstr x), ("_StringIO__pos", .int 0)]]) := by kernel_rfl
theorem trans_ok {cx : Cx} {A : Around} {k : Nat} (G : Gd3 cx A (k + 1)) {x : Str} {st : AS} {Qa : PostV} {o0 : AObj} (ho : st.objs = trO o0) (q : Qa (.sstr x) st) : CallOk cx A (.ref 374) [.obj 1, .sstr x] st Qa := by
 refine sharedFn G.C G.KO.toKBase G.hp (k := k) G.Rm (T := tTr) (N := 30) (ns := nm ["self", "s"]) (ds := []) (avs' := [.obj 1, .sstr x]) G.KO.fTrans (by decide +kernel) ?_ (fun _ _ _ V => V) rfl ?_
 ·intro cx' A' C' hp' hw' hK' sc' Rm'
  exact tabK_ok (by rw [hw', hK']; exact G.KO) sc' fun f avs st Qa w => w.elim
 ·rw [ho, run_trans]
  exact ⟨_, _, .inl rfl, .same _, by rw [← ho]; exact q⟩
theorem sinit_ok {cx : Cx} {A : Around} {k : Nat} (G : Gd3 cx A (k + 2)) {x : Str} {st : AS} {Qa : PostV} {o0 : AObj} (ho : st.objs = [o0, .inst 597 []]) (q : Qa .none { st with objs := [o0, .inst 597 [("_StringIO__newline", .str "\n"), ("_StringIO__buf", .sstr x), ("_StringIO__pos", .int 0)]] }) : CallOk cx A (.ref 367) [.obj 1, .sstr x] st Qa := by
 refine el1_1 G.KO.fSinit fun t0 F => ?_
 refine sharedFnD G.C G.KO.toKBase G.hp (k := k + 1) G.Rm (T := tSi) (N := 40) (ns := nm ["self", "initial_value", "newline"]) (ds := []) (avs' := [.obj 1, .sstr x, .str "\n"]) (more := [.str "\n" t0]) (amore := []) F rfl (by decide +kernel) ?_ (fun h ρ vs V => VRels.append V (.cons _ _ _ _ (.str _ _) .nil)) rfl ?_
 ·intro cx' A' C' hp' hw' hK' sc' Rm'
  have KO' : KOk3 cx'.w cx'.K := by rw [hw', hK']; exact G.KO
  refine tabK_ok KO' sc' fun f avs st Qa w => ?_
  rcases f with ⟨⟩
  all_goals try exact False.elim w
  ·rcases avs with _ | ⟨a, _ | ⟨b, r⟩⟩
   ·exact False.elim w
   ·unfold smSi at w
    dsimp only at w
    refine el0_2 (bt w) fun e w => ?_
    ·skip
     rw [eq_of_beq e]; exact typeW_ok w
   ·exact False.elim w
  ·rcases avs with _ | ⟨a, _ | ⟨b, r⟩⟩
   ·exact False.elim w
   ·rcases a with ⟨⟩
    all_goals try exact False.elim w
    rename_i i
    rcases i with _ | _ | i <;> exact False.elim w
   ·rcases a with ⟨⟩
    all_goals try exact False.elim w
    rename_i i
    rcases i with _ | _ | i
    ·exact False.elim w
    ·rcases r with _ | ⟨c, r⟩
     ·rcases b with ⟨⟩
      all_goals try exact False.elim w
      conv at w => whnf
      refine el0_2 (bt w) fun e w => ?_
      ·skip
       rw [eq_of_beq e]
       refine el0_2 w fun z0_0 w => ?_; refine el1_1 z0_0 fun o0 h => ?_
       exact (trans_ok (k := k) ⟨C', KO', hp', Rm'⟩ h w).sm
     ·rcases b with ⟨⟩ <;> exact False.elim w
    ·exact False.elim w
 ·rw [ho, run_sinit]
  exact ⟨⟨o0, rfl⟩, _, _, .inr ⟨rfl, rfl⟩, .same _, q⟩
end Mine
end
noncomputable section
namespace Mine
open PySem PySem.W PyProof.Rows PySem.Calls
theorem sio_call {cx : Cx} {A : Around} {k : Nat} (G : Gd3 cx A (k + 4)) {x : Str} {st : AS} {Qa : PostV} {o0 : AObj} (ho : st.objs = [o0]) (q : Qa (.obj 1) { st with objs := [o0, .inst 597 [("_StringIO__newline", .str "\n"), ("_StringIO__buf", .sstr x), ("_StringIO__pos", .int 0)]] }) : CallOk cx A (.ref 597) [.sstr x] st Qa := by
 intro ρ s vs R R₀ V kv
 refine el2_3 V.cons_inv fun v _ q0_2 r rs => ?_; subst q0_2
 w_dflts rs
 have X := R₀.kin G.C
 have N := G.KO.new
 refine el4_3 N.obj fun oc od cd sl ho5 e1 e2 => ?_
 refine el2_1 N.mro fun mc0 ml hmro => ?_
 have M := model cx.prog cx.w
 refine codeAny_of_tree ?_
 show wpAny _ _ (callAny (.ref 597) _) _ _ _
 refine nd_load (X _ _ ho5) ?_
 show wpAny _ _ (callAny.viaDunder (.ref 597) _) _ _ _
 unfold callAny.viaDunder
 refine wpAny_bind ((looks_specialIn X N.call).here ?_)
 dsimp only
 rw [tc_bind]
 refine wpAny_bind (wpAny_pure (wpAny_bind (wpAny_pure ?_)))
 refine wpAny_pure (a := Fin.again (.call (.builtin "type.__call__") ⟨[.ref 597, v], []⟩)) (And.intro rfl ?_)
 with_reducible refine codeAny_call_builtin_at (Code.quiet_builtin _ (by decide +kernel)) entry_typeCall (check_slot tc_kind tc_split (looks_instIn X N.inst) (tc_args _ _ _) ?_)
 generalize hAu : A.under (Code.builtin "type.__call__" ⟨[.ref 597, v], []⟩) = Au
 unfold Builtin.«type.__call__»
 dsimp only
 refine wpAny_bind ((hmro.lk X).here ?_)
 dsimp only [List.isEmpty]
 refine wpAny_bind ((N.by_.lk X).here ?_)
 dsimp only
 have RmU : Room Au (k + 3) := by
  subst hAu
  exact ⟨by have := G.Rm.depth; show A.depth + 1 + (k + 3) < recursionLimit; lia, by have := G.Rm.units; show A.units + 1 + 20 * (k + 3) < cLine; lia, G.Rm.handled⟩
 refine el1_3 N.reads fun mc hm1 hm2 hm3 => ?_
 refine wpAny_bind (cls_bind X hm2 hm3 (wpAny_call (sm_get (s := { s with toks := s.toks + 1 }) X N.sm (handed_on (by decide +kernel) ?_))))
 refine wpAny_bind (wpAny_holding (wpAny_call (iob_new (k := k + 1) G.C G.KO.toKBase N G.hp RmU (R₀.toks (t := s.toks + 1)) fun s' y d mk => ?_)))
 have X' : cx.K.In s'.heap := X.keeps mk.keep
 have t1 : Looks (model cx.prog cx.w) s'.heap (typeOf (.ref y)) (.ref 597) := (Looks.ld mk.inst).andThen .now
 have t2 : Looks (model cx.prog cx.w) s'.heap (isInstance (.ref y) (.ref 597)) true := by unfold isInstance; exact t1.andThen (looks_mroIn X' N.self)
 refine wpAny_bind (t2.here ?_)
 rw [if_neg (by decide)]
 have hne : y ≠ d := mk.ne
 have len : ρ.length = 1 := by rw [← R₀.objs.len, ho]; rfl
 have R₁ : Rel cx (ρ ++ [(y, d)]) { st with objs := [o0, .inst 597 []] } s' := by
  have := R₀.new (s' := s') (o := .inst 597 []) (p := (y, d)) mk.keep ⟨mk.inst, fun _ => none, ⟨emptyDict, #[], _, mk.dict, rfl, (fun e he => absurd he (by simp)), fun _ => rfl, rfl⟩, fun _ => trivial⟩ (fun a ha => ?_) (by simp [fp, hne]) (fun a ha => ?_) mk.gens mk.os
  ·rw [ho] at this; exact this
  ·simp only [fp, List.mem_cons, List.not_mem_nil, or_false] at ha
   rcases ha with rfl | rfl
   ·exact mk.nx
   ·exact mk.nd
  ·simp only [fp, List.mem_cons, List.not_mem_nil, or_false] at ha
   rcases ha with rfl | rfl
   ·exact R₀.newAddr mk.nx
   ·exact R₀.newAddr mk.nd
 have hy : (ρ ++ [(y, d)])[1]? = some (y, d) := by rw [← len]; simp
 refine wpAny_bind (wpAny_holding ?_)
 refine wpAny_bind (wpAny_bind (t1.here ((looks_findIn X' N.init.1).here (wpAny_holding (wpAny_bind ((bind_fn X' _ N.init.2).here (wpAny_bind (wpAny_call ?_))))))))
 refine sinit_ok (k := k + 1) (A := Au) ⟨G.C, G.KO, G.hp, RmU⟩ (o0 := o0) (x := x) (st := { st with objs := [o0, .inst 597 []] }) rfl (Qa := fun a st' => a = .none ∧ Qa (.obj 1) st') ⟨rfl, q⟩ _ s' [.ref y, v] _ R₁ (.cons _ _ _ _ (.obj _ _ _ hy) (.cons _ _ _ _ (by w_dflts r; exact .sstr _ _) .nil)) fun ρ₂ s₂ v₂ av₂ st₂ p₂ t₂ R₂ V₂ q₂ => ?_
 obtain ⟨rfl, q₂⟩ := q₂
 w_dflts V₂
 refine wpAny_pure ?_
 refine wpAny_pure ?_
 exact kv ρ₂ s₂ _ _ st₂ ((PKeep.snoc _ _).trans p₂) ((TKeep.of mk.keep).trans t₂) R₂ (.obj _ _ _ (p₂ _ _ hy)) q₂
end Mine
end
noncomputable section
namespace Mine
open PySem PySem.W PyProof.Rows PySem.Calls
noncomputable def smLi (f : Value) (avs : List AV) (st : AS) (Q : PostV) : Prop := match f, avs with
 | .ref a, [.sstr x] => (match a == 597, st.objs with
  | true, [o0] => Q (.obj 1) { st with objs := [o0, .inst 597 [("_StringIO__newline", .str "\n"), ("_StringIO__buf", .sstr x), ("_StringIO__pos", .int 0)]] }
  | _, _ => False)
 | .builtin id, [.sstr _, .val (.type t)] => (match id == "isinstance", t == "str" with
  | true, true => Q (.bool true) st
  | _, _ => False)
 | .type id, [] => (match id == "collections.deque" with
  | true => Q (.obj st.objs.length) { st with objs := st.objs ++ [.deque []] }
  | false => False)
 | _, _ => False
noncomputable def tLi : Tab := tabK (scopeOf dLinit) smLi
noncomputable def liN : Nat := (bodyOf dLinit).length - 1
noncomputable def liHead := (bodyOf dLinit).take liN
noncomputable def liIf : Expr × List Stmt × Pos := match (bodyOf dLinit).drop liN with
 | [.If t b _ p] => (t, b, p)
 | _ => default
theorem li_split : bodyOf dLinit = liHead ++ [.If liIf.1 liIf.2.1 [] liIf.2.2] := by kernel_rfl
noncomputable def wcA : Str := "abcdfeghijklmnopqrstuvwxyzABCDEFGHIJKLMNOPQRSTUVWXYZ0123456789_"
noncomputable def wcB : Str := "ßàáâãäåæçèéêëìíîïðñòóôõöøùúûüýþÿÀÁÂÃÄÅÆÇÈÉÊËÌÍÎÏÐÑÒÓÔÕÖØÙÚÛÜÝÞ"
noncomputable def liF (wc : AV) (pc : Str) : List (Str × AV) := [("instream", .obj 1), ("infile", .none), ("posix", .bool true), ("eof", .none), ("commenters", .str "#"), ("wordchars", wc), ("whitespace", .str " \t\r\n"), ("whitespace_split", .bool false), ("quotes", .str "'\""), ("escape", .str "\\"), ("escapedquotes", .str "\""),
  ("state", .str " "), ("pushback", .obj 2), ("lineno", .int 1), ("debug", .int 0), ("token", .str ""), ("filestack", .obj 3), ("source", .none), ("_punctuation_chars", .sstr pc)]
noncomputable def sioN (x : Str) : AObj := .inst 597 [("_StringIO__newline", .str "\n"), ("_StringIO__buf", .sstr x), ("_StringIO__pos", .int 0)]
noncomputable def liLoc (ins : AV) (pc : Str) : List (Str × AV) := (nm ["self", "instream", "infile", "posix", "punctuation_chars"]).zip [.obj 0, ins, .none, .bool true, .sstr pc]
theorem run_li_head (x pc : Str) (P : PostF) : exsW tLi 60 liHead (mkSt (liLoc (.sstr x) pc) [.inst 732 []] [true]) P =
  (wcA.length + wcB.length ≤ sizeLine ∧ pc.length ≤ sizeLine ∧ ((pc.length : Int) != 0) = true ∧ P .next (mkSt (liLoc (.obj 1) pc) [.inst 732 (liF (.str (wcA ++ wcB)) pc), sioN x, .deque [], .deque []] [])) := by kernel_rfl
theorem run_li_t (x pc : Str) (os : List AObj) (P : Bool → AS → Prop) : trW tLi 60 liIf.1 (mkSt (liLoc (.obj 1) pc) os [true]) P = (pc.length ≤ sizeLine ∧ ((pc.length : Int) != 0) = true ∧ P true (mkSt (liLoc (.obj 1) pc) os [])) := by kernel_rfl
noncomputable def liB1 := liIf.2.1.take 2
noncomputable def liB2 := (liIf.2.1.drop 2).take 1
noncomputable def liB3 := liIf.2.1.drop 3
theorem liB_split : liIf.2.1 = liB1 ++ (liB2 ++ liB3) := by kernel_rfl
noncomputable def wcC : Str := "~-./*?="
theorem run_li_b1 (x pc : Str) (P : PostF) : exsW tLi 60 liB1 (mkSt (liLoc (.obj 1) pc) [.inst 732 (liF (.str (wcA ++ wcB)) pc), sioN x, .deque [], .deque []] []) P =
  ((wcA ++ wcB).length + wcC.length ≤ sizeLine ∧ P .next (mkSt (liLoc (.obj 1) pc) [.inst 732 (liF (.str ((wcA ++ wcB) ++ wcC)) pc ++ [(("_pushback_chars" : Str), AV.obj 4)]), sioN x, .deque [], .deque [], .deque []] [])) := by kernel_rfl
end Mine
end
noncomputable section
namespace Mine
open PySem PySem.W PyProof.Rows PySem.Calls
theorem sub_dict : isSubtype (.type "dict") (.type "dict") = pure true := by rw [isSubtype_type]; kernel_rfl
theorem isT_dict : isType (.type "dict") = pure true := by first | rfl | kernel_rfl | (unfold isType; rw [isSubtype_type]; kernel_rfl)
theorem mro_dict : mroOf (.type "dict") = pure [.type "dict", .type "object"] := by rw [mroOf_type]; kernel_rfl
section
variable {prog : Program} {w : World} {A : Around} {E : Value → Shared → Prop} {s : Shared}
theorem dn_meets : Meets (Builtin.«dict.__new__» ⟨[.type "dict"], []⟩) (fun _ R s => R (.ok (.ret (.ref s.heap.objs.size))) { s with heap := s.heap.push { cls := .type "dict", data := .dict #[] } }) :=
 .of_wp fun prog w A R s h => by
  have hsub := sub_dict
  have hmro := mro_dict
  obtain ⟨hp, g, d, tk, os⟩ := s
  unfold Builtin.«dict.__new__»
  wp_walk
  exact ⟨_, rfl, h⟩
theorem di_meets (a : Addr) : Meets (Builtin.«dict.__init__» ⟨[.ref a], []⟩) (fun _ R s => s.TypeIs (.ref a) "dict" ∧ R (.ok (.ret .none)) s) :=
 .of_wp fun prog w A R s h => by
  refine el0_2 h fun ht h => ?_
  unfold Builtin.«dict.__init__»
  refine wpAny_bind ?_
  unfold Builtin.Dict.selfAndRest
  refine wpAny_bind (wpAny_notOrdered_dict ht ?_)
  show wpAny _ _ (pure (a, ([] : List Value))) _ _ _
  refine wpAny_pure ?_
  exact wpAny_pure ⟨_, rfl, h⟩
theorem dict_make {Q : Value → Shared → Prop} (q : Q (.ref s.heap.objs.size) { s with heap := s.heap.push { cls := .type "dict", data := .dict #[] } }) :
  wpAny (model prog w) A (call (.type "dict") []) Q E s := by
 refine callType_meets F.kt_called_dict (by kernel_rfl) (by kernel_rfl) F.kt_entry_dict_new F.entry_dict_init dn_meets (Q₁ := fun v s' => v = .ref s.heap.objs.size ∧ s' = { s with heap := s.heap.push { cls := .type "dict", data := .dict #[] } }) ⟨rfl, rfl⟩ fun obj s₁ h => ?_
 obtain ⟨rfl, rfl⟩ := h
 have ht : Shared.TypeIs { s with heap := s.heap.push { cls := .type "dict", data := .dict #[] } } (.ref s.heap.objs.size) "dict" := ⟨_, Heap.get?_push_size _ rfl, rfl⟩
 exact ⟨ht, by unfold argsOk; kernel_rfl, _, di_meets _, ht, rfl, q⟩
end
noncomputable def kvS (l : List Nat) : List (Str × Value) := l.foldl (fun k c => stored k ⟨#[c]⟩ .none) []
theorem kvS_snoc (l : List Nat) (c : Nat) : kvS (l ++ [c]) = stored (kvS l) ⟨#[c]⟩ .none := by simp [kvS]
theorem stored_len {K : Type} [DecidableEq K] (k : List (K × Value)) (x : K) (v : Value) : (stored k x v).length ≤ k.length + 1 := by
 unfold stored
 split <;> simp
theorem kvS_len : ∀ l : List Nat, (kvS l).length ≤ l.length := by
 have key : ∀ (l : List Nat) (k : List (Str × Value)), (l.foldl (fun k c => stored k (⟨#[c]⟩ : Str) .none) k).length ≤ k.length + l.length := by
  intro l
  induction l with
  | nil => intro k; simp
  | cons c r ih =>
   intro k
   have h1 := ih (stored k (⟨#[c]⟩ : Str) .none)
   have h2 := stored_len k (⟨#[c]⟩ : Str) Value.none
   rw [List.foldl_cons, List.length_cons]
   lia
 intro l
 have := key l []
 simpa [kvS] using this
theorem entry_fkl : entryFor table "dict.fromkeys.loop" = some Builtin.«dict.fromkeys.loop» := entryFor_of_tree (by kernel_rfl)
theorem plain_fkl : plainId "dict.fromkeys.loop" = true := by decide +kernel
theorem entry_fk : entryFor table "dict.fromkeys" = some Builtin.«dict.fromkeys» := entryFor_of_tree (by kernel_rfl)
theorem plain_fk : plainId "dict.fromkeys" = true := by decide +kernel
section
variable {prog : Program} {w : World} {A : Around} {s : Shared} {R : Result → Shared → Prop}
theorem fk_loop {I D : Addr} {x : Str} {St : Nat → Heap → Prop} (hA : A.handled = none) (hne : D ≠ I) (hx : x.cps.size ≤ 1000) (W : ∀ A' : Around, A'.handled = none → Walks prog w A' I [I] [I] x.cps.size (SignAt x) St) :
  ∀ (n i : Nat) (s : Shared), i + n = x.cps.size → St i s.heap → s.heap.DictOf (PySem.strKind prog w) D (kvS (x.cps.toList.take i)) →
   (∀ h' tk, h'.DictOf (PySem.strKind prog w) D (kvS x.cps.toList) → (∀ b o, b ≠ D → b ≠ I → s.heap.get? b = some o → h'.get? b = some o) → R (.ok (.ret (.ref D))) { s with heap := h', toks := tk }) →
   codeAny (model prog w) A (.builtin "dict.fromkeys.loop" ⟨[.ref D, .ref I, .none], []⟩) R s := by
 intro n
 induction n with
 | zero =>
  intro i s hi st hd k
  refine codeAny_builtin entry_fkl ?_
  rw [Around.under_plainId plain_fkl _]
  unfold Builtin.«dict.fromkeys.loop»
  have hi' : i = x.cps.size := by lia
  subst hi'
  refine wpAny_bind ((W A.in1 hA).done s _ _ st fun h' tk hk => ?_)
  refine wpAny_pure ?_
  have e : x.cps.toList.take x.cps.size = x.cps.toList := by rw [List.take_of_length_le (by simp)]
  rw [e] at hd
  refine el3_2 hd fun o es ep ho r => ?_
  exact k h' tk ⟨o, es, ep, hk D o (by simpa using hne) ho, r⟩ fun b o hb hI e => hk b o (by simpa using hI) e
 | succ n ih =>
  intro i s hi st hd k
  refine codeAny_builtin entry_fkl ?_
  rw [Around.under_plainId plain_fkl _]
  unfold Builtin.«dict.fromkeys.loop»
  refine wpAny_bind ((W A.in1 hA).item i s _ _ (by lia) st fun v h' tk hP st' hk => ?_)
  refine el2_2 hP fun c u hc q0_3 => ?_; subst q0_3
  have hd' : h'.DictOf (PySem.strKind prog w) D (kvS (x.cps.toList.take i)) := by
   refine el3_2 hd fun o es ep ho r => ?_
   exact ⟨o, es, ep, hk D o (by simpa using hne) ho, r⟩
  have ht : Shared.TypeIs { s with heap := h', toks := tk } (.ref D) "dict" := by
   refine el3_3 hd' fun o es ep ho hx' r => ?_
   exact ⟨o, ho, hx'.1⟩
  dsimp only
  refine wpAny_bind (wpAny_typeOf ht ?_)
  rw [if_pos (by decide)]
  have hkey : (PySem.strKind prog w).is ⟨#[c]⟩ (.str ⟨#[c]⟩ u) = true := PySem.strKind_is prog w _ u
  have hlen : (kvS (x.cps.toList.take i)).length ≤ sizeLine := by
   have := kvS_len (x.cps.toList.take i)
   have h2 : (x.cps.toList.take i).length ≤ 1000 := by simp; lia
   rw [sizeLine_eq]; lia
  refine wpAny_bind (m := Builtin.Dict.addrOf (.ref D)) (wpAny_pure ?_)
  refine wpAny_bind (wpAny_holding ?_)
  refine wpAny_dictSet_pairs hkey hd' (fun h₂ hd₂ sb => ?_) hlen
  refine wpAny_pure ⟨Code.quiet_builtin _ (by decide +kernel), ?_⟩
  have hcl : x.cps.toList[i]? = some c := by rw [Array.getElem?_toList]; exact hc
  refine ih (i + 1) _ (by lia) ((W A.in1 hA).frame _ _ _ st' fun b hb o e => sb.extBut b o (fun q => hne ((q.symm.trans (List.mem_singleton.mp hb)))) e) (by rw [take_snoc hcl, kvS_snoc]; exact hd₂) fun h₃ tk₃ hd₃ hk₃ => ?_
  exact k h₃ tk₃ hd₃ fun b o hb hI e => hk₃ b o hb hI (sb.extBut b o hb (hk b o (by simpa using hI) e))
theorem fk_call {x : Str} {t : Tok} {Q E : Value → Shared → Prop} (hA : A.handled = none) (hx : x.cps.size ≤ 1000)
  (q : ∀ h' tk D, (∀ b o, s.heap.get? b = some o → h'.get? b = some o) → s.heap.get? D = none → h'.DictOf (PySem.strKind prog w) D (kvS x.cps.toList) → Q (.ref D) { s with heap := h', toks := tk }) :
  codeAny (model prog w) A (.builtin "dict.fromkeys" ⟨[.type "dict", .str x t], []⟩) (fun r s' => match r with | .ok (.ret v) => Q v s' | .ok _ => False | .error e => E e s') s := by
 refine codeAny_builtin entry_fk ?_
 rw [Around.under_plainId plain_fk _]
 unfold Builtin.«dict.fromkeys»
 refine wpAny_bind (wpAny_of_eq isT_dict ?_)
 refine wpAny_bind (wpAny_of_eq sub_dict ?_)
 refine wpAny_bind (wpAny_rule ?_)
 refine wpAny_bind (wpAny_pure ?_)
 refine wpAny_bind (dict_make ?_)
 refine wpAny_holding ?_
 generalize hD : s.heap.objs.size = D
 have nD : s.heap.get? D = none := by rw [← hD]; exact no_get _
 generalize hs₁ : ({ s with heap := s.heap.push { cls := .type "dict", data := .dict #[] } } : Shared) = s₁
 have hd₁ : s₁.heap.DictOf (PySem.strKind prog w) D [] := by rw [← hs₁, ← hD]; exact Heap.DictOf.new _
 have kp₁ : ∀ b o, s.heap.get? b = some o → s₁.heap.get? b = some o := by rw [← hs₁]; exact fun b o e => push_keep _ _ e
 have ht : s₁.TypeIs (.ref D) "dict" := by
  refine el3_3 hd₁ fun o es ep ho hx' r => ?_
  exact ⟨o, ho, hx'.1⟩
 refine wpAny_bind (wpAny_of_eq (a := Value.type "str") (by rfl) ?_)
 refine wpAny_bind (wpAny_typeOf ht ?_)
 rw [if_neg (by decide)]
 refine wpAny_bind (wpAny_typeOf ht ?_)
 rw [if_neg (by decide)]
 refine wpAny_bind (wpAny_pyIter_str fun o St W hst => wpAny_pure ⟨Code.quiet_builtin _ (by decide +kernel), ?_⟩)
 have hdne : D ≠ s₁.heap.objs.size := by
  refine el3_2 hd₁ fun o es ep ho r => ?_
  exact fun q => by rw [q, no_get] at ho; exact nS ho
 have hd₂ : (s₁.heap.push o).DictOf (PySem.strKind prog w) D (kvS (x.cps.toList.take 0)) := hd₁.push o
 refine fk_loop hA hdne hx W x.cps.size 0 _ (by lia) hst hd₂ fun h' tk hd' hk => ?_
 have := q h' tk D (fun b o e => hk b o (fun z => by rw [z, nD] at e; exact nS e) (fun z => by have := kp₁ b o e; rw [z, no_get] at this; exact nS this) (push_keep _ _ (kp₁ b o e))) nD hd'
 subst hs₁
 exact this
end
end Mine
end
noncomputable section
namespace Mine
open PySem PySem.W PyProof.Rows PySem.Calls
noncomputable def kvI (kvs : List (Str × Value)) : List (Int × Value) := kvs.foldl (fun k kv => stored k ((((kv.1.cps[0]?).getD 0 : Nat) : Int)) kv.2) []
theorem entry_mt : entryFor table "str.maketrans" = some Builtin.«str.maketrans» := entryFor_of_tree (by kernel_rfl)
section
variable {prog : Program} {w : World} {A : Around} {s : Shared} {P : Fin → Shared → Prop} {E : Value → Shared → Prop}
theorem mt_loop {T : Addr} {F : DictEntry → PUnit → Sem (ForInStep PUnit)} {E : Value → Shared → Prop}
  (hF : ∀ (e : DictEntry) (c : Nat) (tk : Tok) (acc : List (Int × Value)) (s : Shared) (Q : ForInStep PUnit → Shared → Prop), e.key = .str ⟨#[c]⟩ tk → s.heap.DictOf (PySem.intKind prog w) T acc → acc.length ≤ 5000 →
   (∀ h' tk', h'.DictOf (PySem.intKind prog w) T (stored acc (c : Int) e.val) → Heap.SameBut T s.heap h' → Q (.yield PUnit.unit) { s with heap := h', toks := tk' }) → wpAny (model prog w) A (F e PUnit.unit) Q E s) :
  ∀ (l : List DictEntry) (kvs : List (Str × Value)) (acc : List (Int × Value)) (s : Shared) (Q : PUnit → Shared → Prop), Pairs (PySem.strKind prog w) l kvs → (∀ kv ∈ kvs, kv.1.cps.size = 1) → s.heap.DictOf (PySem.intKind prog w) T acc → acc.length + kvs.length ≤ 5000 →
   (∀ h' tk, h'.DictOf (PySem.intKind prog w) T (kvs.foldl (fun k kv => stored k ((((kv.1.cps[0]?).getD 0 : Nat) : Int)) kv.2) acc) → (∀ b o, b ≠ T → s.heap.get? b = some o → h'.get? b = some o) → Q PUnit.unit { s with heap := h', toks := tk }) →
   wpAny (model prog w) A (forIn l PUnit.unit F) Q E s := by
 intro l
 induction l with
 | nil =>
  intro kvs acc s Q hp h1 hd hz k
  cases hp
  rw [List.forIn_nil]
  exact wpAny_pure (k s.heap s.toks hd fun b o _ e => e)
 | cons e l ih =>
  intro kvs acc s Q hp h1 hd hz k
  cases hp with
  | @cons _ kv _ kvs hk hv hp =>
   rw [List.forIn_cons]
   obtain ⟨x, v⟩ := kv
   have hx := h1 (x, v) (.head _)
   obtain ⟨tk, hkey⟩ := Value.isStrOf_shape hk
   have hxc : ∃ c, x = ⟨#[c]⟩ := by
    obtain ⟨⟨cl⟩⟩ := x
    rcases cl with _ | ⟨c, r⟩
    ·cases hx
    ·
     rcases r with _ | ⟨d, r⟩
     ·exact ⟨c, rfl⟩
     ·simp at hx
   obtain ⟨c, rfl⟩ := hxc
   have hv : e.val = v := hv
   simp only [List.length_cons] at hz
   refine wpAny_bind (hF e c tk acc s _ hkey hd (by lia) fun h' tk' hd' sb => ?_)
   have hl := stored_len acc (c : Int) e.val
   refine ih kvs _ { s with heap := h', toks := tk' } Q hp (fun kv hkv => h1 kv (.tail _ hkv)) hd' (by lia) fun h₂ tk₂ hd₂ hk₂ => ?_
   refine k h₂ tk₂ ?_ fun b o hb e => hk₂ b o hb (sb.extBut b o hb e)
   rw [hv] at hd₂
   exact hd₂
theorem mt_run {D : Addr} {kvs : List (Str × Value)} (hD : (D == sysModules) = false) (hd : s.heap.DictOf (PySem.strKind prog w) D kvs) (h1 : ∀ kv ∈ kvs, kv.1.cps.size = 1) (hz : kvs.length ≤ 1000)
  (q : ∀ h' tk T, (∀ b o, s.heap.get? b = some o → h'.get? b = some o) → s.heap.get? T = none → h'.DictOf (PySem.intKind prog w) T (kvI kvs) → P (.done (.ret (.ref T))) { s with heap := h', toks := tk }) :
  wpAny (model prog w) A (Builtin.«str.maketrans» ⟨[.ref D], []⟩) P E s := by
 unfold Builtin.«str.maketrans»
 refine wpAny_bind (m := noKeywords _ _) (wpAny_pure ?_)
 refine wpAny_bind (m := checkCount _ _ _ _) (wpAny_pure ?_)
 refine wpAny_bind (wpAny_pure ?_)
 refine wpAny_bind (wpAny_pure ?_)
 refine wpAny_bind (m := newDict) ?_
 unfold newDict
 refine wpAny_newObj_type ?_ (by size_fits)
 generalize hT : s.heap.objs.size = T
 have nT : s.heap.get? T = none := by rw [← hT]; exact no_get _
 have hd₀ : (s.heap.push { cls := .type "dict", data := .dict #[] }).DictOf (PySem.strKind prog w) D kvs := hd.push _
 have ht₀ : (s.heap.push { cls := .type "dict", data := .dict #[] }).DictOf (PySem.intKind prog w) T [] := by rw [← hT]; exact Heap.DictOf.new _
 generalize hs₁ : ({ s with heap := s.heap.push { cls := .type "dict", data := .dict #[] } } : Shared) = s₁
 have hd₁ : s₁.heap.DictOf (PySem.strKind prog w) D kvs := by rw [← hs₁]; exact hd₀
 have ht₁ : s₁.heap.DictOf (PySem.intKind prog w) T [] := by rw [← hs₁]; exact ht₀
 have kp₁ : ∀ b o, s.heap.get? b = some o → s₁.heap.get? b = some o := by rw [← hs₁]; exact fun b o e => push_keep _ _ e
 have hne : D ≠ T := by
  refine el3_2 hd fun o es ep ho r => ?_
  exact fun e => by rw [e, nT] at ho; exact nS ho
 refine el3_6 hd₁ fun o es ep ho hx hdat hk hp hn => ?_
 have ht : s₁.TypeIs (.ref D) "dict" := ⟨o, ho, hx.1⟩
 refine wpAny_bind (wpAny_holding ?_)
 dsimp only
 refine wpAny_bind (wpAny_typeOf ht ?_)
 refine wpAny_bind (m := notAStandIn _) (wpAny_pure ?_)
 refine wpAny_bind (wpAny_typeOf ht ?_)
 rw [if_neg (by decide)]
 refine wpAny_bind ?_
 unfold notTheModulesDict
 rw [hD, if_neg (by decide)]
 refine wpAny_pure ?_
 refine wpAny_bind (wpAny_dictEntries ho hdat ?_)
 refine wpAny_bind ?_
 rw [← Array.forIn_toList]
 have hpk : ∀ kv ∈ kvs, kv.1.cps.size = 1 := h1
 refine mt_loop (T := T) (fun e c tk acc s₂ Q₂ hkey hd₂ hz₂ k₂ => ?_) es.toList kvs [] s₁ _ hp hpk ht₁ (by simp; lia) fun h' tk hd' hk' => ?_
 ·rw [hkey]
  refine wpAny_bind (m := asStr? _) (wpAny_pure ?_)
  dsimp only
  refine wpAny_bind (wpAny_mkInt ?_)
  refine wpAny_bind (wpAny_dictSet_pairs (s := { s₂ with toks := s₂.toks + 1 }) (PySem.intKind_is prog w _ _) hd₂ (fun h' hd' sb => wpAny_pure ?_) (by rw [sizeLine_eq]; lia))
  exact k₂ h' _ hd' sb
 ·refine wpAny_pure (wpAny_pure ?_)
  have := q h' tk T (fun b o e => hk' b o (fun z => by rw [z, nT] at e; exact nS e) (kp₁ b o e)) nT hd'
  subst hs₁
  exact this
end
end Mine
end
noncomputable section
namespace Mine
open PySem PySem.W PyProof.Rows PySem.Calls
noncomputable def sgl (c : Nat) : Str := ⟨#[c]⟩
noncomputable abbrev TrS := List Str × Nat × Bool × List (Nat × Option Nat) × Bool
theorem isSub_KeyError : isSubtype (.type "KeyError") (.type "LookupError") = pure true := by rw [isSubtype_type]; kernel_rfl
theorem fold_sgl : ∀ (l : List Nat) (a : Array Nat), ((l.map sgl).foldl (fun acc p => acc ++ p.cps) a).toList = a.toList ++ l
 | [], a => by simp
 | c :: r, a => by
  rw [List.map_cons, List.foldl_cons, fold_sgl r]
  simp [sgl]
noncomputable def outK (kvs : List (Int × Value)) (c : Nat) : Bool := !decide ((c : Int) ∈ kvs.map (·.1))
section
variable {prog : Program} {w : World} {A : Around} {s : Shared} {P : Fin → Shared → Prop} {E : Value → Shared → Prop}
theorem tl_spec {T : Addr} {kvs : List (Int × Value)} (hT : (T == sysModules) = false) (hA : A.handled = none) (hd : s.heap.DictOf (PySem.intKind prog w) T kvs) (hn : ∀ kv ∈ kvs, kv.2 = .none) (c : Nat) {Q : Builtin.Str.Mapped → Shared → Prop}
  (q : ∀ h' tk, (∀ b o, s.heap.get? b = some o → h'.get? b = some o) → Q (if (c : Int) ∈ kvs.map (·.1) then .drop else .keep) { s with heap := h', toks := tk }) :
  wpAny (model prog w) A (Builtin.Str.tableLookup (.ref T) c) Q E s := by
 unfold Builtin.Str.tableLookup
 have hm := hd.mapOf
 refine wpAny_bind (wpAny_attempt (wpAny_bind (wpAny_mkInt ?_)))
 by_cases hc : (c : Int) ∈ kvs.map (·.1)
 ·have hv : valueAt kvs (c : Int) = some .none := by
   unfold valueAt
   cases z : kvs.find? fun kv => kv.1 = (c : Int) with
   | none =>
    refine el1_2 (List.mem_map.mp hc) fun kv hk he => ?_
    have := List.find?_eq_none.mp z kv hk
    simp [he] at this
   | some kv => rw [Option.map_some, hn kv (List.mem_of_find?_eq_some z)]
  refine wpAny_getItem_of (s := { s with toks := s.toks + 1 }) (PySem.intKind_is prog w _ _) hm hv ?_
  refine wpAny_pure ?_
  have := q s.heap (s.toks + 1 + 1) fun _ _ e => e
  rw [if_pos hc] at this
  exact this
 ·have hv : valueAt kvs (c : Int) = none := by
   unfold valueAt
   cases z : kvs.find? fun kv => kv.1 = (c : Int) with
   | none => rfl
   | some kv =>
    have h1 := List.find?_some z
    exact (hc (List.mem_map.mpr ⟨kv, List.mem_of_find?_eq_some z, by simpa using h1⟩)).elim
  refine wpAny_getItem_missing_of (s := { s with toks := s.toks + 1 }) (PySem.intKind_is prog w _ _) hT hA hm hv fun h' e ne => ?_
  refine el2_3 ne.there fun ob tt ho hcls hdat => ?_
  refine wpAny_bind (wpAny_isInstance (T := "KeyError") ⟨ob, ho, hcls⟩ isSub_KeyError ?_)
  rw [if_pos rfl]
  refine wpAny_bind (wpAny_rule (wpAny_pure ?_))
  have := q h' (s.toks + 1 + 1) ne.keeps
  rw [if_neg hc] at this
  exact this
theorem tr_loop {T : Addr} {kvs : List (Int × Value)} {F : Nat → TrS → Sem (ForInStep TrS)} {E : Value → Shared → Prop}
  (hF : ∀ (c : Nat) (ps : List Str) (n : Nat) (kn : List (Nat × Option Nat)) (ad : Bool) (s : Shared) (Q : ForInStep TrS → Shared → Prop), s.heap.DictOf (PySem.intKind prog w) T kvs → n ≤ 5000 →
   (∀ h' tk, (∀ b o, s.heap.get? b = some o → h'.get? b = some o) → Q (.yield (if (c : Int) ∈ kvs.map (·.1) then (ps, n, false, kn, true) else (sgl c :: ps, n + 1, false, kn, false))) { s with heap := h', toks := tk }) → wpAny (model prog w) A (F c (ps, n, false, kn, ad)) Q E s) :
  ∀ (l : List Nat) (ps : List Str) (n : Nat) (kn : List (Nat × Option Nat)) (ad : Bool) (s : Shared) (Q : TrS → Shared → Prop), s.heap.DictOf (PySem.intKind prog w) T kvs → n + l.length ≤ 5000 →
   (∀ h' tk ad', (∀ b o, s.heap.get? b = some o → h'.get? b = some o) → Q (((l.filter (outK kvs)).map sgl).reverse ++ ps, n + (l.filter (outK kvs)).length, false, kn, ad') { s with heap := h', toks := tk }) →
   wpAny (model prog w) A (forIn l (ps, n, false, kn, ad) F) Q E s := by
 intro l
 induction l with
 | nil =>
  intro ps n kn ad s Q hd hz k
  rw [List.forIn_nil]
  exact wpAny_pure (k s.heap s.toks ad fun _ _ e => e)
 | cons c l ih =>
  intro ps n kn ad s Q hd hz k
  rw [List.forIn_cons]
  simp only [List.length_cons] at hz
  refine wpAny_bind (hF c ps n kn ad s _ hd (by lia) fun h' tk hk => ?_)
  have hd' : h'.DictOf (PySem.intKind prog w) T kvs := let ⟨o, es, ep, ho, r⟩ := hd; ⟨o, es, ep, hk _ _ ho, r⟩
  by_cases hc : (c : Int) ∈ kvs.map (·.1)
  ·rw [if_pos hc]
   refine ih ps n kn true { s with heap := h', toks := tk } Q hd' (by lia) fun h₂ tk₂ ad₂ hk₂ => ?_
   have := k h₂ tk₂ ad₂ fun b o e => hk₂ _ _ (hk _ _ e)
   rw [List.filter_cons_of_neg (by unfold outK; rw [decide_eq_true hc]; decide)] at this
   exact this
  ·rw [if_neg hc]
   refine ih (sgl c :: ps) (n + 1) kn false { s with heap := h', toks := tk } Q hd' (by lia) fun h₂ tk₂ ad₂ hk₂ => ?_
   have := k h₂ tk₂ ad₂ fun b o e => hk₂ _ _ (hk _ _ e)
   rw [List.filter_cons_of_pos (by unfold outK; rw [decide_eq_false hc]; rfl), List.map_cons, List.reverse_cons, List.append_assoc, List.length_cons] at this
   rw [Nat.add_assoc, Nat.add_comm 1]
   exact this
theorem tr_run {T : Addr} {kvs : List (Int × Value)} {x : Str} {t : Tok} (hT : (T == sysModules) = false) (hA : A.handled = none) (hd : s.heap.DictOf (PySem.intKind prog w) T kvs) (hn : ∀ kv ∈ kvs, kv.2 = .none) (hx : 0 < x.length) (hx2 : x.length ≤ 5000) (hw : (x.cps.all fun c => decide (c < 128)) = false)
  (q : ∀ h' tk u, (∀ b o, s.heap.get? b = some o → h'.get? b = some o) → P (.done (.ret (.str ⟨(x.cps.toList.filter (outK kvs)).toArray⟩ u))) { s with heap := h', toks := tk }) :
  wpAny (model prog w) A (Builtin.«str.translate» ⟨[.str x t, .ref T], []⟩) P E s := by
 have tl : ∀ n, n ≤ 10000 → Builtin.Str.tooLong n = false := fun n h => by
  unfold Builtin.Str.tooLong
  rw [sizeLine_eq]
  simp only [gt_iff_lt, decide_eq_false_iff_not]
  lia
 have hlen : 0 + x.cps.toList.length ≤ 5000 := by
  have : x.cps.toList.length = x.length := by simp [Str.length]
  lia
 unfold Builtin.«str.translate»
 refine wpAny_bind (m := Builtin.Str.strOneArg _ _) (wpAny_pure ?_)
 dsimp only
 rw [if_neg (by simp; lia), hw, ← Array.forIn_toList]
 refine wpAny_bind (tr_loop (T := T) (kvs := kvs) (fun c ps n kn ad s₁ Q₁ hd₁ hz₁ k₁ => ?_) x.cps.toList [] 0 [] false s _ hd hlen fun h' tk ad' hk' => ?_)
 ·dsimp only
  rw [tl n (by lia), if_neg (by decide), if_neg (by decide)]
  have last : ∀ (s₂ : Shared) (ad₂ : Bool), (∀ b o, s₁.heap.get? b = some o → s₂.heap.get? b = some o) → s₂.gens = s₁.gens → s₂.drawn = s₁.drawn → s₂.os = s₁.os → s₂.heap.DictOf (PySem.intKind prog w) T kvs →
    ((c : Int) ∈ kvs.map (·.1) ∨ ad₂ = false) → wpAny (model prog w) A (do
     let m ← Builtin.Str.tableLookup (.ref T) c
     match m with
     | .keep => pure (ForInStep.yield (sgl c :: ps, n + 1, false, kn, ad₂))
     | .drop => pure (ForInStep.yield (ps, n, false, kn, true))
     | .char d => pure (ForInStep.yield ((⟨#[d]⟩ : Str) :: ps, n + 1, false, kn, ad₂))
     | .text t => pure (ForInStep.yield (t :: ps, n + t.length, false, kn, ad₂))) Q₁ E s₂ := by
   intro s₂ ad₂ hk hg hdr hos hd₂ had
   refine wpAny_bind (tl_spec hT hA hd₂ hn c fun h' tk hk' => ?_)
   have := k₁ h' tk fun b o e => hk' _ _ (hk _ _ e)
   by_cases hc : (c : Int) ∈ kvs.map (·.1)
   ·rw [if_pos hc] at this ⊢
    rw [hg, hdr, hos]
    exact wpAny_pure this
   ·rw [if_neg hc] at this ⊢
    rcases had with had | had
    ·exact (hc had).elim
    ·subst had
     rw [hg, hdr, hos]
     exact wpAny_pure this
  rcases ad with _ | _
  ·
   rw [if_neg (by decide)]
   exact last s₁ false (fun _ _ e => e) rfl rfl rfl hd₁ (.inr rfl)
  ·
   rw [if_pos rfl]
   refine wpAny_bind (tl_spec hT hA hd₁ hn c fun h' tk hk' => ?_)
   by_cases hc : (c : Int) ∈ kvs.map (·.1)
   ·have := k₁ h' tk hk'
    rw [if_pos hc] at this ⊢
    exact wpAny_pure this
   ·rw [if_neg hc]
    exact last { s₁ with heap := h', toks := tk } false hk' rfl rfl rfl (let ⟨o, es, ep, ho, r⟩ := hd₁; ⟨o, es, ep, hk' _ _ ho, r⟩) (.inr rfl)
 ·dsimp only
  have hfl : (x.cps.toList.filter (outK kvs)).length ≤ 5000 := by
   have := List.length_filter_le (outK kvs) x.cps.toList
   lia
  rw [tl _ (by lia), if_neg (by decide)]
  refine wpAny_bind (m := mkStr _) ?_
  have e : (⟨List.foldl (fun acc p => acc ++ p.cps) #[] ((List.map sgl (x.cps.toList.filter (outK kvs))).reverse ++ []).reverse⟩ : Str) = ⟨(x.cps.toList.filter (outK kvs)).toArray⟩ := by
   rw [List.append_nil, List.reverse_reverse]
   congr 1
   refine Array.toList_inj.mp ?_
   rw [fold_sgl]
   rfl
  rw [e]
  refine wpAny_mkStr ?_ ?_
  ·exact wpAny_pure (q h' (tk + 1) tk hk')
  ·show (x.cps.toList.filter (outK kvs)).toArray.size ≤ sizeLine
   rw [List.size_toArray, sizeLine_eq]
   lia
end
end Mine
end
noncomputable section
namespace Mine
open PySem PySem.W PyProof.Rows PySem.Calls
theorem in_nil (h : Heap) : Frag.In [] h := fun a o e => by cases e
theorem meets_ga_mt (x : Str) (t u : Tok) : Meets (Builtin.«object.__getattribute__» ⟨[.str x t, .str "maketrans" u], []⟩) (fun _ R s => R (.ok (.ret (.builtin "str.maketrans"))) s) :=
 .of_wp fun prog w A R s h => (Looks.of_peek (M := model prog w) (in_nil s.heap) (r := Fin.done (.ret (.builtin "str.maketrans"))) (by kernel_rfl)).here ⟨_, rfl, h⟩
theorem typ_mt : typeOf (.builtin "str.maketrans") = pure (.type "builtin_function_or_method") := by show builtinType _ = _; rw [builtinType_eq_fast]; kernel_rfl
theorem look_mt : typeLookup (.type "str") "maketrans" = pure (some (.builtin "str.maketrans")) := by rw [typeLookup_type, builtinLookup_eq_fast]; kernel_rfl
section
variable {prog : Program} {w : World} {A : Around} {s : Shared} {E : Value → Shared → Prop}
theorem attr_mt {x : Str} {t : Tok} {Q : Value → Shared → Prop} (q : Q (.builtin "str.maketrans") { s with toks := s.toks + 1 }) : wpAny (model prog w) A (getAttr (.str x t) "maketrans") Q E s := by
 obtain ⟨hp, g, d, tk, os⟩ := s
 have hT : ∀ s' : Shared, s'.TypeIs (.str x t) "str" := fun _ => rfl
 have f3 := F.slot_str_getattribute.lookup
 have f4 := F.slot_str_getattribute.bind (.str x t)
 have f5 := am_str_getattr_none
 unfold getAttr getAttrBy
 repeat (any_goals (first | assumption | wp_step))
 have h0 : codeAny (model prog w) A (.call (.builtin "object.__getattribute__") ⟨[.str x t, .str "maketrans" tk], []⟩) (fun r s' => r = .ok (.ret (.builtin "str.maketrans")) ∧ s' = ⟨hp, g, d, tk + 1, os⟩) ⟨hp, g, d, tk + 1, os⟩ :=
  codeAny_call_builtin F.slot_str_getattribute.plain F.entry_object_getattribute (F.slot_str_getattribute.check _ _ _ _ _ _ _ _ (hT _) (by unfold argsOk; kernel_rfl)
   (meets_ga_mt x t tk prog w A (fun r s' => r = .ok (.ret (.builtin "str.maketrans")) ∧ s' = ⟨hp, g, d, tk + 1, os⟩) _ ⟨rfl, rfl⟩))
 refine codeAny_mono h0 fun r s' hr => ?_
 obtain ⟨rfl, rfl⟩ := hr
 show wpAny _ _ (handedOut _) _ _ _
 rw [handedOut_of (by decide +kernel)]
 exact wpAny_pure q
theorem meth_mt {x : Str} {t : Tok} {pl : Sem Bool} {Q : Value × List Value → Shared → Prop} (q : Q (.builtin "str.maketrans", []) { s with toks := s.toks + 1 }) : wpAny (model prog w) A (getMethod (.str x t) "maketrans" pl) Q E s := by
 have hT : s.TypeIs (.str x t) "str" := rfl
 refine el1_2 F.plainAttrs_str.ga fun g hg hcan => ?_
 have no := F.plainAttrs_str
 unfold getMethod
 refine wpAny_bind (wpAny_specialOf hT hg ?_)
 show wpAny _ A (if (Manifest.canonical g != "object.__getattribute__") = true then _ else _) Q E s
 rw [hcan, if_neg Bool.false_ne_true]
 refine wpAny_bind (wpAny_specialOf hT no.noGetattr ?_)
 rw [if_neg (show ¬ (none : Option Value).isSome = true by decide)]
 with_reducible refine wpAny_bind (wpAny_specialOf hT look_mt ?_)
 refine wpAny_bind (wpAny_of_eq typ_mt ?_)
 rw [if_pos (by decide)]
 exact wpAny_bind (attr_mt (wpAny_pure q))
end
end Mine
end
noncomputable section
namespace Mine
open PySem PySem.W PyProof.Rows PySem.Calls
noncomputable abbrev fkBound : Obj := { cls := .type "builtin_function_or_method", data := .fields #[.builtin "dict.fromkeys", .type "dict"] }
theorem type_fk : typeOf (.builtin "dict.fromkeys") = pure (.type "classmethod_descriptor") := by show builtinType _ = _; rw [builtinType_eq_fast]; kernel_rfl
theorem owner_fk : (kfb_private% "ownerAndName") "dict.fromkeys" = ("dict", "fromkeys") := by first | decide +kernel | kernel_rfl
section
variable {prog : Program} {w : World} {M : Model} {A : Around} {s : Shared} {E : Value → Shared → Prop}
theorem run_fk_get {P : Fin → Shared → Prop} (h : P (.done (.ret (.ref s.heap.objs.size))) { s with heap := s.heap.push fkBound }) :
  wpAny M A (Builtin.«classmethod_descriptor.__get__» ⟨[.builtin "dict.fromkeys", .none, .type "dict"], []⟩) P E s := by
 unfold Builtin.«classmethod_descriptor.__get__»
 refine wpAny_bind (wpAny_of_eq (a := (.builtin "dict.fromkeys", none, some (.type "dict"))) (by first | rfl | kernel_rfl) ?_)
 simp only [owner_fk]
 refine wpAny_bind (wpAny_of_eq (a := .type "dict") rfl ?_)
 refine wpAny_bind (wpAny_of_eq (a := true) isT_dict ?_)
 rw [if_neg (by decide)]
 refine wpAny_bind (wpAny_of_eq (a := true) sub_dict ?_)
 rw [if_neg (by decide)]
 exact wpAny_bind (wpAny_newObj_type (wpAny_pure h))
theorem meth_fk {K : Frag} {pl : Sem Bool} {Q : Value × List Value → Shared → Prop} (X : K.In s.heap) (q : ∀ tk, Q (.ref s.heap.objs.size, []) { s with heap := s.heap.push fkBound, toks := tk }) :
  wpAny (model prog w) A (getMethod (.type "dict") "fromkeys" pl) Q E s := by
 with_reducible refine meth_ty X (by kernel_rfl) (by decide +kernel) (r := .get (.builtin "classmethod_descriptor.__get__") (.builtin "dict.fromkeys") .none (.type "dict")) (by kernel_rfl) ?_
 show wpAny _ _ (holding [.builtin "dict.fromkeys"] (call (.builtin "classmethod_descriptor.__get__") [.builtin "dict.fromkeys", .none, .type "dict"]) >>= fun v => ret v) _ _ _
 refine wpAny_bind (wpAny_holding (wpAny_call_entry KFB.slot_get type_fk KFB.entry_get (run_fk_get ⟨_, rfl, wpAny_pure ?_⟩) (KFB.args_get _ _ _)))
 show wpAny _ _ (handedOut _) _ _ _
 rw [handedOut_of rfl]
 exact wpAny_pure (q _)
theorem call_fk {B : Addr} {x : Str} {t : Tok} {Q : Value → Shared → Prop} (hb : s.heap.get? B = some fkBound) (hA : A.handled = none) (hx : x.cps.size ≤ 1000)
  (q : ∀ h' tk D, (∀ b o, s.heap.get? b = some o → h'.get? b = some o) → s.heap.get? D = none → h'.DictOf (PySem.strKind prog w) D (kvS x.cps.toList) → Q (.ref D) { s with heap := h', toks := tk }) :
  wpAny (model prog w) A (call (.ref B) [.str x t]) Q E s := by
 refine wpAny_call (codeAny_of_tree ?_)
 show wpAny _ A.in1 (callAny (.ref B) ⟨[.str x t], []⟩) _ _ s
 simp only [callAny]
 refine wpAny_bind (wpAny_load hb ?_)
 simp only [show (Value.type "builtin_function_or_method" == Value.type "method" || Value.type "builtin_function_or_method" == Value.type "builtin_function_or_method" || Value.type "builtin_function_or_method" == Value.type "method-wrapper") = true by decide, if_true]
 show wpAny _ _ (if (Value.type "builtin_function_or_method" != Value.type "method") = true then _ else _) _ _ s
 rw [if_pos (by decide)]
 show wpAny _ _ (do
   checkBoundCall "dict.fromkeys" ⟨[.type "dict", .str x t], []⟩
   again (Code.builtin "dict.fromkeys" ⟨[.type "dict", .str x t], []⟩)) _ _ s
 refine wpAny_bind ((Looks.of_peek (M := model prog w) (in_nil s.heap) (r := ()) (by kernel_rfl)).here ?_)
 refine wpAny_pure ⟨Code.quiet_builtin _ (by decide +kernel), ?_⟩
 refine codeAny_mono (fk_call (Q := Q) (E := E) hA hx q) fun r s' hr => ?_
 rcases r with e | (v | _ | _ | _) <;> exact hr
end
end Mine
end
noncomputable section
namespace Mine
open PySem PySem.W PyProof.Rows PySem.Calls
structure KOk4 (w : World) (K : Frag) : Prop extends KOk3 w K where
 gD : nsIn K mainGlobals "dict" = some none ∧ nsIn K builtinsNs "dict" = some (some (.type "dict"))
 sysm : ∃ o, K.lookup sysModules = some o
noncomputable def s3P : (Pos × Pos × Pos) × (Pos × Pos × Pos) × (Pos × Pos × Pos × Pos) := match liB2 with
 | [.Assign [.Name _ p1] (.Call (.Attribute (.Attribute (.Name _ q1) _ q2) _ q3) [.Call (.Attribute (.Name _ r1) _ r2) [.Name _ r3] [] r4] [] p2) p3] => ((p1, p2, p3), (q1, q2, q3), (r1, r2, r3, r4))
 | _ => default
noncomputable def wcE3 : Expr := .Attribute (.Name "self" s3P.2.1.1) "wordchars" s3P.2.1.2.1
theorem s3_eq : liB2 = [.Assign [.Name "t" s3P.1.1] (.Call (.Attribute wcE3 "maketrans" s3P.2.1.2.2) [.Call (.Attribute (.Name "dict" s3P.2.2.1) "fromkeys" s3P.2.2.2.1) [.Name "punctuation_chars" s3P.2.2.2.2.1] [] s3P.2.2.2.2.2] [] s3P.1.2.1) s3P.1.2.2] := by kernel_rfl
noncomputable def s4P : (Pos × Pos × Pos) × (Pos × Pos × Pos × Pos × Pos) := match liB3 with
 | [.Assign [.Attribute (.Name _ a1) _ a2] (.Call (.Attribute (.Attribute (.Name _ b1) _ b2) _ b3) [.Name _ b4] [] b5) a3] => ((a1, a2, a3), (b1, b2, b3, b4, b5))
 | _ => default
noncomputable def wcE4 : Expr := .Attribute (.Name "self" s4P.2.1) "wordchars" s4P.2.2.1
theorem s4_eq : liB3 = [.Assign [.Attribute (.Name "self" s4P.1.1) "wordchars" s4P.1.2.1] (.Call (.Attribute wcE4 "translate" s4P.2.2.2.1) [.Name "t" s4P.2.2.2.2.1] [] s4P.2.2.2.2.2) s4P.1.2.2] := by kernel_rfl
noncomputable def liOs (x pc : Str) (wc : AV) : List AObj := [.inst 732 (liF wc pc ++ [(("_pushback_chars" : Str), AV.obj 4)]), sioN x, .deque [], .deque [], .deque []]
theorem run_wc3 (x pc : Str) (wc : Str) (P : PostV) : evW tLi 10 wcE3 (mkSt (liLoc (.obj 1) pc) (liOs x pc (.str wc)) []) P = P (.str wc) (mkSt (liLoc (.obj 1) pc) (liOs x pc (.str wc)) []) := by kernel_rfl
theorem run_wc4 (x pc : Str) (wc : Str) (T : Addr) (P : PostV) : evW tLi 10 wcE4 (mkSt (("t", .val (.ref T)) :: liLoc (.obj 1) pc) (liOs x pc (.str wc)) []) P = P (.str wc) (mkSt (("t", .val (.ref T)) :: liLoc (.obj 1) pc) (liOs x pc (.str wc)) []) := by kernel_rfl
theorem fkb_keeper {M : Model} {B : Addr} : ∀ h, Frag.In [(B, fkBound)] h → ∃ k, (k = Keeper.frame ∨ k = Keeper.machine ∨ k = Keeper.boundFrame) ∧ Looks M h (keeperOf (.ref B)) k := by
 intro h Xh
 refine ⟨.machine, .inr (.inl rfl), ?_⟩
 have hb := Xh B fkBound (by simp)
 intro A' Q' E' s' kk q
 unfold keeperOf
 refine wpAny_bind (wpAny_load (kk _ _ hb) ?_)
 simp only [show (Value.type "builtin_function_or_method" != Value.type "method") = true by decide, show (Value.type "builtin_function_or_method" == Value.type "builtin_function_or_method" || Value.type "builtin_function_or_method" == Value.type "method-wrapper") = true by decide, if_true]
 exact wpAny_pure q
theorem kvS_all (l : List Nat) : ∀ kv ∈ kvS l, kv.1.cps.size = 1 := by
 have key : ∀ (l : List Nat) (k : List (Str × Value)), (∀ kv ∈ k, kv.1.cps.size = 1) → ∀ kv ∈ l.foldl (fun k c => stored k (⟨#[c]⟩ : Str) .none) k, kv.1.cps.size = 1 := by
  intro l
  induction l with
  | nil => intro k h; exact h
  | cons c r ih =>
   intro k h
   refine ih _ fun kv hkv => ?_
   dsimp only [stored] at hkv
   split at hkv
   ·refine el1_2 (List.mem_map.mp hkv) fun kv' h1 h2 => ?_
    split at h2
    ·subst h2; exact h kv' h1
    ·subst h2; exact h kv' h1
   ·rcases List.mem_append.mp hkv with h1 | h1
    ·exact h kv h1
    ·rw [List.mem_singleton.mp h1]; rfl
 exact key l [] (fun kv h => nomatch h)
section
variable {cx : Cx} {A : Around}
theorem li_s3 (C : CxOk cx) (TO : TabOk tLi cx A) (KO : KOk4 cx.w cx.K) (hA : A.handled = none) {x pc wc : Str} (hpc : pc.cps.size ≤ 100) {ρ : Rho} {s : Shared} {Q : Flow → Shared → Prop} {E : Value → Shared → Prop}
  (R : Rel cx ρ (mkSt (liLoc (.obj 1) pc) (liOs x pc (.str wc)) []) s)
  (k : ∀ s' T, TKeep s.heap s'.heap → Rel cx ρ (mkSt (("t", .val (.ref T)) :: liLoc (.obj 1) pc) (liOs x pc (.str wc)) []) s' → s'.heap.DictOf (PySem.intKind cx.prog cx.w) T (kvI (kvS pc.cps.toList)) → T ∉ cx.env.locals :: foot (liOs x pc (.str wc)) ρ → (T == sysModules) = false → Q .next s') :
  wpAny (model cx.prog cx.w) A (execs liB2 cx.env) Q E s := by
 have kT : cx.env.kindOf "t" = some .local := (TO.kind "t").symm.trans (by kernel_rfl)
 have kP : cx.env.kindOf "punctuation_chars" = some .local := (TO.kind "punctuation_chars").symm.trans (by kernel_rfl)
 have kD : cx.env.kindOf "dict" = some .globalImplicit := (TO.kind "dict").symm.trans (by kernel_rfl)
 rw [s3_eq]
 refine wpAny_execs_cons (wpAny_Assign_Name (Call_attr (by kernel_rfl) (by kernel_rfl) (by decide) rfl ?_) (swaps_no rfl _ _))
 refine (all_ok C TO 10).1 wcE3 _ (fun a st' => a = .str wc ∧ st' = mkSt (liLoc (.obj 1) pc) (liOs x pc (.str wc)) []) (by rw [run_wc3]; exact ⟨rfl, rfl⟩) ρ s _ _ R fun ρ₁ s₁ v a st₁ p₁ t₁ R₁ V₁ q₁ => ?_
 refine el0_2 q₁ fun q0_0 q0_1 => ?_; subst q0_0; subst q0_1
 have hρ : ρ₁ = ρ := pkeep_eq p₁ (by rw [← R₁.objs.len, ← R.objs.len])
 subst hρ
 cases V₁ with
 | str _ tw =>
  refine meth_mt ?_
  refine callWith_ok (K := cx.K) (es := [_]) rfl (fun h _ => keeper_plain (fun a q => by cases q) h) ?_
  refine spliced_more (Call_attr rfl (by kernel_rfl) (by decide) rfl (global_name C (R₁.toks (t := s₁.toks + 1)) kD (by decide +kernel) (.inr KO.gD) ?_)) rfl
  have X₁ : cx.K.In s₁.heap := R₁.kin C
  refine meth_fk X₁ fun tk => ?_
  have R₂ : Rel cx ρ₁ (mkSt (liLoc (.obj 1) pc) (liOs x pc (.str wc)) []) { s₁ with heap := s₁.heap.push fkBound, toks := tk } := R₁.ext push_keep rfl rfl
  have hB : (s₁.heap.push fkBound).get? s₁.heap.objs.size = some fkBound := Heap.get?_push_size _ rfl
  refine callWith_ok (K := [(s₁.heap.objs.size, fkBound)]) (es := [_]) rfl fkb_keeper ?_
  refine spliced_more (local_name C R₂ kP (by decide +kernel) (av := .sstr pc) (by kernel_rfl) fun v r => ?_) rfl
  cases r with
  | sstr _ tp =>
   refine Calls.spliced_nil ⟨fun a o e => ?_, ?_⟩
   ·simp only [List.lookup] at e
    split at e
    ·rename_i q; cases e; rw [eq_of_beq q]; exact hB
    ·cases e
   refine call_fk (s := { s₁ with heap := s₁.heap.push fkBound, toks := tk }) hB hA (by lia) fun h₃ tk₃ D keep₃ nD hD₃ => ?_
   have R₃ : Rel cx ρ₁ (mkSt (liLoc (.obj 1) pc) (liOs x pc (.str wc)) []) { s₁ with heap := h₃, toks := tk₃ } := R₂.ext keep₃ rfl rfl
   refine Calls.spliced_nil ⟨R₃.kin C, ?_⟩
   refine el1_1 KO.sysm fun osm hsm => ?_
   have neSys : ∀ (a : Addr) (s' : Shared), cx.K.In s'.heap → s'.heap.get? a = none → (a == sysModules) = false := fun a s' X h => beq_eq_false_iff_ne.mpr fun e => by have := X _ _ hsm; rw [← e, h] at this; cases this
   have kvl : (kvS pc.cps.toList).length ≤ 1000 := by
    have := kvS_len pc.cps.toList
    have h2 : pc.cps.toList.length = pc.cps.size := by simp
    lia
   refine wpAny_call (codeAny_call_builtin_code (Code.quiet_builtin _ (by decide +kernel)) ((Looks.of_peek (M := model cx.prog cx.w) (in_nil h₃) (r := ()) (by kernel_rfl)).here (codeAny_builtin entry_mt ?_)))
   have R₃' : Rel cx ρ₁ (mkSt (liLoc (.obj 1) pc) (liOs x pc (.str wc)) []) { s₁ with heap := h₃, toks := tk₃ } := R₃
   refine mt_run (s := { s₁ with heap := h₃, toks := tk₃ }) (neSys D _ (R₂.kin C) nD) hD₃ (kvS_all _) kvl fun h₄ tk₄ T keep₄ nT hT₄ => ?_
   have R₄ : Rel cx ρ₁ (mkSt (liLoc (.obj 1) pc) (liOs x pc (.str wc)) []) { s₁ with heap := h₄, toks := tk₄ } := R₃'.ext keep₄ rfl rfl
   have fr := fresh_place R₃' nT
   refine el1_2 R₄.loc fun m hn hm => ?_
   refine wpAny_storeName_local kT hn (fun h₅ hn₅ sb => wpAny_execs_nil ?_) (noClass C)
   refine el1_2 R₄.locHere fun ob hob hnt => ?_
   have R₅ := R₄.store (x := ("t" : Str)) (av := .val (.ref T)) (s' := { s₁ with heap := h₅, toks := tk₄ + 1 }) (.val _) hm hn₅ sb.extBut rfl rfl
   have R₅ := Rel.cons (st := mkSt (liLoc (.obj 1) pc) (liOs x pc (.str wc)) []) R₅
   have T₅ : TKeep h₄ h₅ := .but sb.extBut fun vs n e => hnt vs n (Option.some.inj (hob.symm.trans e))
   exact k _ T (((t₁.trans (.of push_keep)).trans (.of keep₃)).trans ((TKeep.of keep₄).trans T₅)) R₅ (hT₄.extBut sb.extBut fun e => fr.1 (e ▸ .head _)) fr.1 (neSys T _ (R₃'.kin C) nT)
end
end Mine
end
noncomputable section
namespace Mine
open PySem PySem.W PyProof.Rows PySem.Calls
theorem slot_tr : Slot "str" "translate" "str.translate" :=
 Slot.of (owner := "str") (n := "translate") (by rw [typeLookup_type, builtinLookup_eq_fast]; kernel_rfl) (by decide +kernel) (by decide +kernel) (by decide +kernel) (by first | exact .inl (by decide +kernel) | exact .inr (by decide +kernel)) (by rw [isSubtype_type]; kernel_rfl)
theorem type_tr : typeOf (.builtin "str.translate") = pure (.type "method_descriptor") := by show builtinType _ = _; rw [builtinType_eq_fast]; kernel_rfl
theorem entry_tr : entryFor table "str.translate" = some Builtin.«str.translate» := entryFor_of_tree (by kernel_rfl)
noncomputable def wcK : Str := (wcA ++ wcB) ++ wcC
theorem wcK_facts : 0 < wcK.length ∧ wcK.length ≤ 5000 ∧ (wcK.cps.all fun c => decide (c < 128)) = false := by decide +kernel
noncomputable def wcOut (kvs : List (Int × Value)) : Str := ⟨(wcK.cps.toList.filter (outK kvs)).toArray⟩
theorem run_self (x pc : Str) (os : List AObj) (T : Addr) (P : PostV) : evW tLi 10 (.Name "self" s4P.1.1) (mkSt (("t", .val (.ref T)) :: liLoc (.obj 1) pc) os []) P = P (.obj 0) (mkSt (("t", .val (.ref T)) :: liLoc (.obj 1) pc) os []) := by kernel_rfl
theorem run_setwc (x pc : Str) (wc : Str) (v : AV) (T : Addr) (P : AS → Prop) : setW tLi "wordchars" (.obj 0) v (mkSt (("t", .val (.ref T)) :: liLoc (.obj 1) pc) (liOs x pc (.str wc)) []) P = P (mkSt (("t", .val (.ref T)) :: liLoc (.obj 1) pc) (liOs x pc v) []) := by kernel_rfl
section
variable {cx : Cx} {A : Around}
theorem li_s4 (C : CxOk cx) (TOa : TabAll tLi cx A) (hA : A.handled = none) {x pc : Str} {kvs : List (Int × Value)} (hn : ∀ kv ∈ kvs, kv.2 = .none) {T : Addr} {ρ : Rho} {s : Shared} {Q : Flow → Shared → Prop} {E : Value → Shared → Prop}
  (R₀ : Rel cx ρ (mkSt (("t", .val (.ref T)) :: liLoc (.obj 1) pc) (liOs x pc (.str wcK)) []) s) (hT : s.heap.DictOf (PySem.intKind cx.prog cx.w) T kvs) (nT : T ∉ cx.env.locals :: foot (liOs x pc (.str wcK)) ρ) (hS : (T == sysModules) = false)
  (k : ∀ s', TKeep s.heap s'.heap → Rel cx ρ (mkSt (("t", .val (.ref T)) :: liLoc (.obj 1) pc) (liOs x pc (.sstr (wcOut kvs))) []) s' → Q .next s') :
  wpAny (model cx.prog cx.w) A (execs liB3 cx.env) Q E s := by
 have C' := C.now R₀
 have R := R₀.now rfl
 have TO : TabOk tLi (cx.now s.heap (liOs x pc (.str wcK)) ρ) A := TOa _ _ C'
 have kT : cx.env.kindOf "t" = some .local := (TO.kind "t").symm.trans (by kernel_rfl)
 refine el0_3 wcK_facts fun w1 w2 w3 => ?_
 rw [s4_eq]
 refine wpAny_execs_cons (plainObj_wpAny_Assign_Attribute (Call_attr (by kernel_rfl) (by kernel_rfl) (by decide) rfl ?_) (swaps_no rfl _ _))
 refine (all_ok C' TO 10).1 wcE4 _ (fun a st' => a = .str wcK ∧ st' = mkSt (("t", .val (.ref T)) :: liLoc (.obj 1) pc) (liOs x pc (.str wcK)) []) (by rw [run_wc4]; exact ⟨rfl, rfl⟩) ρ s _ _ R fun ρ₁ s₁ v a st₁ p₁ t₁ R₁ V₁ q₁ => ?_
 refine el0_2 q₁ fun q0_0 q0_1 => ?_; subst q0_0; subst q0_1
 have hρ : ρ₁ = ρ := pkeep_eq p₁ (by rw [← R₁.objs.len, ← R.objs.len])
 subst hρ
 cases V₁ with
 | str _ tw =>
  with_reducible refine getMethod_builtin (typeIs_str _ _ _) F.plainAttrs_str slot_tr type_tr (fun a e => by cases e) ?_
  refine callWith_ok (K := cx.K) (es := [_]) rfl (fun h _ => keeper_plain (fun a q => by cases q) h) ?_
  refine spliced_more (local_name (cx := cx.now s.heap (liOs x pc (.str wcK)) ρ₁) C' R₁ kT (by decide +kernel) (av := .val (.ref T)) (by kernel_rfl) fun v r => ?_) rfl
  w_dflts r
  have X₁ : cx.K.In s₁.heap := Rel.kin (cx := cx.now s.heap (liOs x pc (.str wcK)) ρ₁) C' R₁
  refine Calls.spliced_nil ⟨X₁, wpAny_call ?_⟩
  have hT₁ : s₁.heap.DictOf (PySem.intKind cx.prog cx.w) T kvs := by
   refine el3_2 hT fun o es ep ho r => ?_
   exact ⟨o, es, ep, R₁.keep T o ho nT, r⟩
  refine codeAny_call_builtin slot_tr.plain entry_tr (slot_tr.check _ _ _ _ _ _ _ _ (typeIs_str _ _ _) (by unfold argsOk; kernel_rfl) ?_)
  refine tr_run (s := s₁) hS hA hT₁ hn w1 w2 w3 fun h₂ tk₂ u keep₂ => ?_
  have R₂ : Rel (cx.now s.heap (liOs x pc (.str wcK)) ρ₁) ρ₁ (mkSt (("t", .val (.ref T)) :: liLoc (.obj 1) pc) (liOs x pc (.str wcK)) []) { s₁ with heap := h₂, toks := tk₂ } := R₁.ext keep₂ rfl rfl
  refine (all_ok C' TO 10).1 (.Name "self" s4P.1.1) _ (fun a st' => a = .obj 0 ∧ st' = mkSt (("t", .val (.ref T)) :: liLoc (.obj 1) pc) (liOs x pc (.str wcK)) []) (by rw [run_self x]; exact ⟨rfl, rfl⟩) ρ₁ _ _ _ R₂ fun ρ₃ s₃ v₃ a₃ st₃ p₃ t₃ R₃ V₃ q₃ => ?_
  refine el0_2 q₃ fun q0_0 q0_1 => ?_; subst q0_0; subst q0_1
  have hρ : ρ₃ = ρ₁ := pkeep_eq p₃ (by rw [← R₃.objs.len, ← R.objs.len])
  subst hρ
  refine setW_ok (cx := cx.now s.heap (liOs x pc (.str wcK)) ρ₃) C' TO (av := .sstr (wcOut kvs)) (Qs := fun st' => st' = mkSt (("t", .val (.ref T)) :: liLoc (.obj 1) pc) (liOs x pc (.sstr (wcOut kvs))) []) (by rw [run_setwc]) R₃ V₃ (.sstr _ _) fun s₄ st₄ t₄ R₄ q₄ => ?_
  subst q₄
  refine wpAny_execs_nil (k s₄ (((t₁.trans (.of keep₂)).trans t₃).trans t₄) (R₀.then R₄ rfl))
end
end Mine
end
noncomputable section
namespace Mine
open PySem PySem.W PyProof.Rows PySem.Calls
structure KOk5 (w : World) (K : Frag) : Prop extends KOk4 w K where
 fLinit : ∃ fd, FnRec prog0 w K 656 fd (bodyOf dLinit) (scopeOf dLinit) ∧ ∀ v1 v2 v3 v4, P1 K (bindArgs fd ⟨[v1, v2], [("posix", v3), ("punctuation_chars", v4)]⟩) [("self", v1), ("instream", v2), ("infile", .none), ("posix", v3), ("punctuation_chars", v4)]
 makes : makesIn K 732 = true
 linit : findIn K (.ref 732) "__init__" = some (some (.ref 656)) ∧ typeIn K (.ref 656) = some (.type "function")
structure Gd5 (cx : Cx) (A : Around) (k : Nat) : Prop where
 C : CxOk cx
 KO : KOk5 cx.w cx.K
 hp : cx.prog = prog0
 Rm : Room A k
theorem smLi_ok {cx : Cx} {A : Around} {k : Nat} (G : Gd5 cx A (k + 4)) {f : Value} {avs : List AV} {st : AS} {Qa : PostV} (w : smLi f avs st Qa) : SmOk cx A f avs st Qa := by
 rcases f with ⟨⟩
 all_goals try exact False.elim w
 ·rcases avs with _ | ⟨x, r⟩
  ·unfold smLi at w
   dsimp only at w
   refine el0_2 (bt w) fun e w => ?_
   ·skip
    rw [eq_of_beq e]
    intro ρ s vs Q E R V kk
    obtain rfl := V.nil_inv
    refine dq_make fun h' keep g => ?_
    have nn := no_get s.heap
    have len := R.objs.len
    refine kk (ρ ++ [(s.heap.objs.size, 0)]) { s with heap := h' } _ (.obj st.objs.length) _ (PKeep.snoc _ _) (.of keep) (R.new (s' := { s with heap := h' }) (o := .deque []) (p := (s.heap.objs.size, 0)) keep ⟨[], 0, g, .nil⟩ (fun a ha => ?_) (by simp [fp]) (fun a ha => ?_) rfl rfl) (.obj _ _ 0 (by rw [len]; simp)) w
    ·simp only [fp, List.mem_singleton] at ha; subst ha; exact nn
    ·simp only [fp, List.mem_singleton] at ha; subst ha; exact R.newAddr nn
  ·exact False.elim w
 ·rcases avs with _ | ⟨x, r⟩
  ·exact False.elim w
  rcases r with _ | ⟨y, r⟩
  ·rcases x with ⟨⟩ <;> exact False.elim w
  rcases x with ⟨⟩
  all_goals try exact False.elim w
  rcases y with ⟨⟩
  all_goals try exact False.elim w
  all_goals try (rcases r with _ | ⟨_, _⟩ <;> exact False.elim w)
  rename_i v
  rcases v with ⟨⟩
  all_goals try exact False.elim w
  all_goals try (rcases r with _ | ⟨_, _⟩ <;> exact False.elim w)
  rcases r with _ | ⟨_, _⟩
  ·unfold smLi at w
   dsimp only at w
   split at w
   ·rename_i e1 e2
    rw [eq_of_beq e1, eq_of_beq e2]
    intro ρ s vs Q E R V kk
    obtain ⟨va, _, rfl, ra, V⟩ := V.cons_inv
    obtain ⟨vb, _, rfl, rb, V⟩ := V.cons_inv
    obtain rfl := V.nil_inv
    w_dflts ra; w_dflts rb
    exact IsiPair.str_str (kk ρ s _ _ st (PKeep.refl _) (TKeep.refl _) R (.bool _) w)
   ·exact w.elim
  ·exact False.elim w
 ·rcases avs with _ | ⟨x, _ | ⟨y, r⟩⟩
  ·exact False.elim w
  ·rcases x with ⟨⟩
   all_goals try exact False.elim w
   unfold smLi at w
   dsimp only at w
   split at w
   ·rename_i o0 e ho
    rw [eq_of_beq e]
    exact (sio_call (k := k) ⟨G.C, G.KO.toKOk3, G.hp, G.Rm⟩ ho w).sm
   ·exact w.elim
  ·rcases x with ⟨⟩ <;> exact False.elim w
theorem li_tabs {cx : Cx} {A : Around} {k : Nat} (KO : KOk5 cx.w cx.K) (hp : cx.prog = prog0) (Rm : Room A (k + 4)) (hsc : cx.env.scope = scopeOf dLinit) : TabAll tLi cx A := fun h mt C =>
 tabK_ok (cx := cx.sub h mt cx.env) (A := A) KO.toKOk3 hsc fun f avs st Qa w => smLi_ok (k := k) ⟨C, KO, hp, Rm⟩ w
theorem kvI_none (l : List Nat) : ∀ kv ∈ kvI (kvS l), kv.2 = .none := by
 have keyS : ∀ (l : List Nat) (k : List (Str × Value)), (∀ kv ∈ k, kv.2 = .none) → ∀ kv ∈ l.foldl (fun k c => stored k (⟨#[c]⟩ : Str) .none) k, kv.2 = .none := by
  intro l
  induction l with
  | nil => intro k h; exact h
  | cons c r ih =>
   intro k h
   refine ih _ fun kv hkv => ?_
   dsimp only [stored] at hkv
   split at hkv
   ·refine el1_2 (List.mem_map.mp hkv) fun kv' h1 h2 => ?_
    split at h2
    ·subst h2; rfl
    ·subst h2; exact h kv' h1
   ·rcases List.mem_append.mp hkv with h1 | h1
    ·exact h kv h1
    ·rw [List.mem_singleton.mp h1]
 have keyI : ∀ (l : List (Str × Value)) (k : List (Int × Value)), (∀ kv ∈ l, kv.2 = .none) → (∀ kv ∈ k, kv.2 = .none) → ∀ kv ∈ l.foldl (fun k kv => stored k ((((kv.1.cps[0]?).getD 0 : Nat) : Int)) kv.2) k, kv.2 = .none := by
  intro l
  induction l with
  | nil => intro k _ h; exact h
  | cons c r ih =>
   intro k hl h
   refine ih _ (fun kv hkv => hl kv (.tail _ hkv)) fun kv hkv => ?_
   dsimp only [stored] at hkv
   split at hkv
   ·refine el1_2 (List.mem_map.mp hkv) fun kv' h1 h2 => ?_
    split at h2
    ·subst h2; exact hl c (.head _)
    ·subst h2; exact h kv' h1
   ·rcases List.mem_append.mp hkv with h1 | h1
    ·exact h kv h1
    ·rw [List.mem_singleton.mp h1]; exact hl c (.head _)
 exact keyI _ [] (keyS l [] fun kv h => nomatch h) fun kv h => nomatch h
noncomputable def wcOf (pc : Str) : Str := wcOut (kvI (kvS pc.cps.toList))
theorem linit_ok {cx : Cx} {A : Around} {k : Nat} (G : Gd5 cx A (k + 5)) {x pc : Str} (hp0 : 0 < pc.length) (hp1 : pc.length ≤ 100) {st : AS} (hob : st.objs = [.inst 732 []]) {ρ : Rho} {s : Shared} {vs vt vm vp : Value} {R : Result → Shared → Prop} (R₀ : Rel cx ρ st s)
  (hs : VRel s.heap ρ (.obj 0) vs) (ht : VRel s.heap ρ (.sstr x) vt) (hm : VRel s.heap ρ (.sstr pc) vm)
  (kv : ∀ ρ' s', PKeep ρ ρ' → TKeep s.heap s'.heap → Rel cx ρ' { st with objs := liOs x pc (.sstr (wcOf pc)) } s' → R (.ok (.ret .none)) s') :
  codeAny (model cx.prog cx.w) A (.call (.ref 656) ⟨[vs, vt], [("posix", .bool true), ("punctuation_chars", vm)]⟩) R s := by
 refine el1_2 G.KO.fLinit fun fd F hb => ?_
 have X := R₀.kin G.C
 refine enterB (ns := nm ["self", "instream", "infile", "posix", "punctuation_chars"]) (fun avs => avs = [.obj 0, .sstr x, .none, .bool true, .sstr pc]) G.C (G.hp ▸ F) G.KO.nl (by have := G.Rm.depth; lia) (by decide +kernel) (by decide +kernel) R₀
  (fun Q q => ((hb vs vt (.bool true) vm).lk X).here (q s.heap [vs, vt, .none, .bool true, vm] s.toks _ rfl rfl (fun _ _ e => e) (.cons _ _ _ _ hs (.cons _ _ _ _ ht (.cons _ _ _ _ .none (.cons _ _ _ _ (.bool _) (.cons _ _ _ _ hm .nil))))))) fun env s₁ L avs pa EO nL C' keep₁ R₁ => ?_
 subst pa
 have Rm : Room (A.deeper env) (k + 4) := G.Rm.deeper env
 have hA := Rm.handled
 have ve : VErr (cx.sub s.heap (foot st.objs ρ) env) := G.KO.ve
 have TOa : TabAll tLi (cx.sub s.heap (foot st.objs ρ) env) (A.deeper env) := li_tabs (cx := cx.sub s.heap (foot st.objs ρ) env) (k := k) G.KO G.hp Rm EO.scope
 have TO : TabOk tLi (cx.sub s.heap (foot st.objs ρ) env) (A.deeper env) := TOa _ _ C'
 have zp : pc.length ≤ sizeLine := sz_le (by lia)
 have np : ((pc.length : Int) != 0) = true := bne_iff_ne.mpr (by lia)
 have R₁ : Rel (cx.sub s.heap (foot st.objs ρ) env) ρ (mkSt (liLoc (.sstr x) pc) [.inst 732 []] []) s₁ := by
  have e : ({ loc := (nm ["self", "instream", "infile", "posix", "punctuation_chars"]).zip [.obj 0, .sstr x, .none, .bool true, .sstr pc], objs := st.objs, dec := [] } : AS) = mkSt (liLoc (.sstr x) pc) [.inst 732 []] [] := by rw [hob]; rfl
  rw [e] at R₁
  exact R₁
 rw [li_split]
 refine seqM (L := liLoc (.sstr x) pc) (os := [.inst 732 []]) C' TO hA ve (N := 60) [true] (by rw [run_li_head]; exact ⟨by decide +kernel, zp, np, rfl, rfl⟩) R₁ fun ρ₂ s₂ p₂ t₂ R₂ => ?_
 refine wpAny_execs_cons (ifM C' TO (N := 60) (b := true) [true] (by rw [run_li_t x]; exact ⟨zp, np, rfl, rfl⟩) R₂ fun ρ₃ s₃ p₃ t₃ R₃ => ?_)
 rw [if_pos rfl, liB_split]
 refine seqM C' TO hA ve (N := 60) [] (by rw [run_li_b1]; exact ⟨by decide +kernel, rfl, rfl⟩) R₃ fun ρ₄ s₄ p₄ t₄ R₄ => ?_
 refine execs_append (li_s3 (x := x) (pc := pc) (wc := wcK) C' TO G.KO.toKOk4 hA (by show pc.length ≤ 100; exact hp1) R₄ fun s₅ T t₅ R₅ hT nT hS => ?_)
 refine li_s4 C' TOa hA (kvI_none _) R₅ hT nT hS fun s₆ t₆ R₆ => ?_
 refine wpAny_execs_nil ?_
 have tt := ((((TKeep.of keep₁).trans t₂).trans t₃).trans t₄).trans (t₅.trans t₆)
 have pp := (p₂.trans p₃).trans p₄
 exact kv ρ₄ s₆ pp tt (backS R₀ pp tt R₆)
end Mine
end
noncomputable section
namespace Mine
open PySem PySem.W PyProof.Rows PySem.Calls
theorem lx_swap (x pc : Str) (wc : Str) : SmT (liOs x pc (.sstr wc)) (lxTab (.str " ") (.str "") 1 wc pc x 0 []) := by
 refine .cons _ _ _ _ (.inst _ _ _ ?_) (.cons _ _ _ _ (.inst _ _ _ ?_) (.refl _))
 ·show SmL [(("instream" : Str), AV.obj 1), ("infile", .none), ("posix", .bool true), ("eof", .none), ("commenters", .str "#"), ("wordchars", .sstr wc), ("whitespace", .str " \t\r\n"), ("whitespace_split", .bool false), ("quotes", .str "'\""), ("escape", .str "\\"), ("escapedquotes", .str "\""),
  ("state", .str " "), ("pushback", .obj 2), ("lineno", .int 1), ("debug", .int 0), ("token", .str ""), ("filestack", .obj 3), ("source", .none), ("_punctuation_chars", .sstr pc), ("_pushback_chars", .obj 4)] _
  iterate 13 refine .cons _ _ _ _ _ (.same _) ?_
  refine .cons _ _ _ _ _ (.int _) (.refl _)
 ·refine .cons _ _ _ _ _ (.same _) (.cons _ _ _ _ _ (.same _) (.cons _ _ _ _ _ (.int _) .nil))
theorem shlex_ok {cx : Cx} {A : Around} {k : Nat} (G : Gd5 cx A (k + 6)) {x pc : Str} (hp0 : 0 < pc.length) (hp1 : pc.length ≤ 100) {st : AS} (hob : st.objs = []) (hgh : st.gh = []) {ρ : Rho} {s : Shared} {vt vm : Value} {R : Result → Shared → Prop} (R₀ : Rel cx ρ st s)
  (ht : VRel s.heap ρ (.sstr x) vt) (hm : VRel s.heap ρ (.sstr pc) vm)
  (kv : ∀ ρ' s' a, TKeep s.heap s'.heap → Rel cx ρ' { st with objs := lxTab (.str " ") (.str "") 1 (wcOf pc) pc x 0 [] } s' → VRel s'.heap ρ' (.obj 0) (.ref a) → R (.ok (.ret (.ref a))) s') :
  codeAny (model cx.prog cx.w) A (.call (.ref 732) ⟨[vt], [("posix", .bool true), ("punctuation_chars", vm)]⟩) R s := by
 have X := R₀.kin G.C
 have len : ρ = [] := by
  have := R₀.objs.len
  rw [hob] at this
  exact List.length_eq_zero_iff.mp this.symm
 subst len
 generalize hs₁ : ({ s with heap := (s.heap.push emptyDict).push (instObj 732 s.heap.objs.size) } : Shared) = s₁
 have keep : ∀ b o, s.heap.get? b = some o → s₁.heap.get? b = some o := by rw [← hs₁]; exact fun b o e => push_keep _ _ (push_keep _ _ e)
 have hi : s₁.heap.get? (s.heap.objs.size + 1) = some (instObj 732 s.heap.objs.size) := by
  rw [← hs₁]
  have := Heap.get?_push_size (s.heap.push emptyDict) (o := instObj 732 s.heap.objs.size) rfl
  rw [Heap.size_push] at this
  exact this
 have hd : s₁.heap.get? s.heap.objs.size = some emptyDict := by rw [← hs₁]; exact push_keep _ _ (Heap.get?_push_size _ rfl)
 have n0 := no_get s.heap
 have n1 : s.heap.get? (s.heap.objs.size + 1) = none := by
  cases q : s.heap.get? (s.heap.objs.size + 1) with
  | none => rfl
  | some o => exact absurd (Heap.lt_size q) (Nat.not_lt.mpr (Nat.le_succ _))
 have g₁ : s₁.gens = s.gens := by rw [← hs₁]
 have o₁ : s₁.os = s.os := by rw [← hs₁]
 have R₁ : Rel cx [(s.heap.objs.size + 1, s.heap.objs.size)] { st with objs := [.inst 732 []] } s₁ := by
  have := R₀.new (s' := s₁) (o := .inst 732 []) (p := (s.heap.objs.size + 1, s.heap.objs.size)) keep ⟨hi, fun _ => none, ⟨emptyDict, #[], _, hd, rfl, (fun e he => absurd he (by simp)), fun _ => rfl, rfl⟩, fun _ => trivial⟩ (fun a ha => ?_) (by simp [fp]) (fun a ha => ?_) g₁ o₁
  ·rw [hob] at this; exact this
  ·simp only [fp, List.mem_cons, List.not_mem_nil, or_false] at ha
   rcases ha with rfl | rfl
   ·exact n1
   ·exact n0
  ·simp only [fp, List.mem_cons, List.not_mem_nil, or_false] at ha
   rcases ha with rfl | rfl
   ·exact R₀.newAddr n1
   ·exact R₀.newAddr n0
 have main : ∀ Au : Around, Room Au (k + 5) → codeAny (model cx.prog cx.w) Au (.call (.ref 656) ⟨[.ref (s.heap.objs.size + 1), vt], [("posix", .bool true), ("punctuation_chars", vm)]⟩) (InitBack (s.heap.objs.size + 1) R) s₁ := by
  intro Au RmU
  refine linit_ok (k := k) (A := Au) ⟨G.C, G.KO, G.hp, RmU⟩ hp0 hp1 (st := { st with objs := [.inst 732 []] }) rfl R₁ (vp := vm) (.obj 0 _ _ rfl) (VRel.mono (.of keep) (PKeep.nil _) ht) (VRel.mono (.of keep) (PKeep.nil _) hm) fun ρ' s' p' t' R' => ?_
  refine ⟨rfl, kv ρ' s' _ ((TKeep.of keep).trans t') (R'.swap ⟨.refl _, lx_swap x pc _, rfl⟩) (.obj 0 _ _ (p' 0 _ rfl))⟩
 subst hs₁
 obtain ⟨h, g, d, t, os⟩ := s
 refine make_core (makes_of X G.KO.makes) (looks_findIn X G.KO.linit.1) (fun self => bind_fn X self G.KO.linit.2) (.inl rfl) (main _ ⟨?_, ?_, ?_⟩)
 ·have := G.Rm.depth; show A.depth + 1 + (k + 5) < recursionLimit; lia
 ·have := G.Rm.units; show A.units + 1 + 20 * (k + 5) < cLine; lia
 ·exact G.Rm.handled
end Mine
end
noncomputable section
namespace Mine
open PySem PySem.W PyProof.Rows PySem.Calls
theorem pick_take (ws : List Value) (k : Nat) : slicePick ws.toArray none (some (k : Int)) none = (ws.take k).toArray := by
 unfold slicePick
 have e : sliceBounds none (some (k : Int)) none ws.toArray.size = (((0 : Nat) : Int), ((min k ws.length : Nat) : Int), 1) := by
  unfold sliceBounds
  simp only [Option.getD_none, List.size_toArray]
  refine Prod.ext ?_ (Prod.ext ?_ rfl)
  ·simp
  ·simp only [gt_iff_lt, show (0 : Int) < 1 by decide, if_true]
   split <;> omega
 rw [e]
 dsimp only
 rw [sliceRange_one, pick_run]
 congr 1
 rw [List.drop_zero, Nat.sub_zero]
 show ws.take (min k ws.length) = ws.take k
 by_cases h : k ≤ ws.length
 ·rw [Nat.min_eq_left h]
 ·rw [Nat.min_eq_right (by omega), List.take_of_length_le (Nat.le_refl _), List.take_of_length_le (by omega)]
theorem pick_drop (ws : List Value) : slicePick ws.toArray (some 1) none none = (ws.drop 1).toArray := by
 unfold slicePick
 have e : sliceBounds (some 1) none none ws.toArray.size = (((min 1 ws.length : Nat) : Int), ((ws.length : Nat) : Int), 1) := by
  unfold sliceBounds
  simp only [Option.getD_none, List.size_toArray]
  refine Prod.ext ?_ (Prod.ext ?_ rfl)
  ·simp only [gt_iff_lt, show (0 : Int) < 1 by decide, if_true]
   split <;> lia
  ·simp
 rw [e]
 dsimp only
 rw [sliceRange_one, pick_run]
 congr 1
 show (ws.drop (min 1 ws.length)).take (ws.length - min 1 ws.length) = ws.drop 1
 rcases ws with _ | ⟨w, ws⟩
 ·rfl
 ·
  have h : min 1 (w :: ws).length = 1 := Nat.min_eq_left (by simp)
  rw [h]
  exact List.take_of_length_le (by simp)
noncomputable def lwB : List Stmt := bodyOf dLaw
noncomputable def lw1 : (Expr × Expr × Scope) × (Pos × Pos × Pos × Pos) := match lwB with
 | .Assign [.Name _ p1] (.ListComp elt [⟨.Name _ px, it, _, _⟩] sc pos) p3 :: _ => ((elt, it, sc), (p1, px, pos, p3))
 | _ => default
noncomputable def lw1i : Expr × (Pos × Pos × Pos) := match lw1.1.2.1 with
 | .Subscript (.Name _ q1) (.Slice none (some e) none sp) q2 => (e, (q1, sp, q2))
 | _ => default
theorem lw1_eq : lwB = .Assign [.Name "numbers" lw1.2.1] (.ListComp lw1.1.1 [⟨.Name "x" lw1.2.2.1, .Subscript (.Name "script" lw1i.2.1) (.Slice none (some lw1i.1) none lw1i.2.2.1) lw1i.2.2.2, [], 0⟩] lw1.1.2.2 lw1.2.2.2.1) lw1.2.2.2.2 :: lwB.drop 1 := by kernel_rfl
theorem lw1_nine : lw1i.1 = .Constant (.int 9) (cK lw1i.1).1 (cK lw1i.1).2 := by kernel_rfl
noncomputable def tNum : Tab := tabN lw1.1.2.2 [] smNone noSp
theorem run_num (a : Int) (P : PostV) : evW tNum 30 lw1.1.1 (mkSt [("x", .sint a)] [] []) P = P (.sint (a.fmod (10 ^ 12))) (mkSt [("x", .sint a)] [] []) := by kernel_rfl
theorem ints_get : ∀ {vs : List Value} {ns : List Int} {i : Nat} {v : Value}, IntsAre vs ns → vs[i]? = some v → ∃ t, v = .int ((ns[i]?).getD 0) t
 | _, _, i, v, .nil, e => by cases i <;> cases e
 | _, _, 0, v, .cons n t h, e => by cases e; exact ⟨t, rfl⟩
 | _, _, i + 1, v, .cons n t h, e => by simpa using ints_get h (by simpa using e)
theorem ints_len {vs : List Value} {ns : List Int} (h : IntsAre vs ns) : vs.length = ns.length := by
 induction h with
 | nil => rfl
 | cons _ _ _ ih => simp [ih]
noncomputable def nums (ns : List Int) : List Int := (ns.take 9).map fun x => x.fmod (10 ^ 12)
noncomputable def lw1v : Expr := .ListComp lw1.1.1 [⟨.Name "x" lw1.2.2.1, .Subscript (.Name "script" lw1i.2.1) (.Slice none (some lw1i.1) none lw1i.2.2.1) lw1i.2.2.2, [], 0⟩] lw1.1.2.2 lw1.2.2.2.1
theorem swaps_lw1 {env : Env} (h : env.scope = scopeOf dLaw) : swapsWith lw1v (some (.Name "numbers" lw1.2.1)) lw1.2.2.2.2.line env = pure true := by
 obtain ⟨sc, a, b, c, d, e, f, g, i⟩ := env
 dsimp only at h
 subst h
 kernel_rfl
section
variable {cx : Cx} {A : Around}
theorem store_ok2 (C : CxOk cx) {E : Value → Shared → Prop} {ρ : Rho} {st : AS} {s : Shared} {x : Str} {av : AV} {v : Value} {Q : Unit → Shared → Prop} (hk : cx.env.kindOf x = some .local) (R : Rel cx ρ st s) (V : VRel s.heap ρ av v)
  (k : ∀ s', TKeep s.heap s'.heap → (∀ b o, b ≠ cx.env.locals → s.heap.get? b = some o → s'.heap.get? b = some o) → Rel cx ρ { st with loc := put st.loc x av } s' → Q () s') : wpAny (model cx.prog cx.w) A (storeName cx.env x v) Q E s := by
 refine el1_2 R.loc fun m hn hm => ?_
 refine wpAny_storeName_local hk hn (fun h' hn' sb => ?_) (noClass C)
 refine el1_2 R.locHere fun ob hob hnt => ?_
 exact k _ (.but sb.extBut fun vs n e => hnt vs n (Option.some.inj (hob.symm.trans e))) (fun b o hb e => sb.extBut b o hb e) (R.store (s' := { heap := h', gens := s.gens, drawn := s.drawn, toks := s.toks + 1, os := s.os }) V hm hn' sb.extBut rfl rfl)
end
section
variable {cx : Cx} {A : Around}
theorem lw_s1 (C : CxOk cx) (hsc : cx.env.scope = scopeOf dLaw) (KO : KOk5 cx.w cx.K) (hA : A.handled = none) {S : Addr} {ws : List Value} {ns : List Int} (hi : IntsAre ws ns) (hz : ns.length ≤ 63) {s : Shared} {Q : Flow → Shared → Prop} {E : Value → Shared → Prop}
  (R : Rel cx [] (mkSt [("script", .val (.ref S))] [] []) s) (hS : s.heap.IsList S ws.toArray)
  (k : ∀ ρ' s', TKeep s.heap s'.heap → Rel cx ρ' (mkSt [("numbers", .obj 0), ("script", .val (.ref S))] [.list ((nums ns).map .sint)] []) s' → wpAny (model cx.prog cx.w) A (execs (lwB.drop 1) cx.env) Q E s') :
  wpAny (model cx.prog cx.w) A (execs lwB cx.env) Q E s := by
 have kS : cx.env.kindOf "script" = some .local := by show cx.env.scope.names.lookup _ = _; rw [hsc]; kernel_rfl
 have kN : cx.env.kindOf "numbers" = some .local := by show cx.env.scope.names.lookup _ = _; rw [hsc]; kernel_rfl
 rw [lw1_eq]
 refine wpAny_execs_cons ?_
 rw [show (Stmt.Assign [.Name "numbers" lw1.2.1] (.ListComp lw1.1.1 [⟨.Name "x" lw1.2.2.1, .Subscript (.Name "script" lw1i.2.1) (.Slice none (some lw1i.1) none lw1i.2.2.1) lw1i.2.2.2, [], 0⟩] lw1.1.2.2 lw1.2.2.2.1) lw1.2.2.2.2) = .Assign [.Name "numbers" lw1.2.1] lw1v lw1.2.2.2.2 from rfl, exec_Assign_Name_used _ _ _ _ (swaps_lw1 hsc)]
 refine wpAny_bind (wpAny_standAt (wpAny_bind ?_))
 unfold lw1v
 rw [lw1_nine]
 rw [arm_evalThenUse_ListComp]
 dsimp only
 refine wpAny_bind (wpAny_mono (wpAny_comprehension_use (Q := fun _ s' => wpAny (model cx.prog cx.w) A (execs (lwB.drop 1) cx.env) Q E s') rfl (fun _ => rfl) (by decide +kernel) (by decide +kernel) (by decide +kernel) ?_) (fun _ s' hq => wpAny_pure (wpAny_pure hq)) fun _ _ e => e)
 show wpAny _ _ (eval (.Subscript (.Name "script" lw1i.2.1) (.Slice none (some (.Constant (.int 9) (cK lw1i.1).1 (cK lw1i.1).2)) none lw1i.2.2.1) lw1i.2.2.2) cx.env) _ _ s
 refine wpAny_Subscript_list_slice (local_name C R kS (by decide +kernel) (av := .val (.ref S)) (by kernel_rfl) fun v r => ?_) (fun _ _ => rfl)
 w_dflts r
 rw [evalPart_none]
 refine wpAny_pure ?_
 refine wpAny_evalPart_some (wpAny_Constant_int ?_)
 refine ⟨S, ws.toArray, none, some ((9 : Nat) : Int), rfl, hS, by rw [sizeLine_eq, List.size_toArray]; have := ints_len hi; lia, .none, .int _ _, ?_⟩
 rw [pick_take]
 -- the slice
 generalize hs₁ : ({ heap := (s.heap.push { cls := .type "slice", data := .fields #[.none, .int 9 s.toks, .none] }).push { cls := .type "list", data := .seq (ws.take 9).toArray }, gens := s.gens, drawn := s.drawn, toks := s.toks + 1, os := s.os } : Shared) = s₁
 have e₁ : s₁.heap.get? (s.heap.objs.size + 1) = some { cls := .type "list", data := .seq (ws.take 9).toArray } := by
  rw [← hs₁]
  have := Heap.get?_push_size (s.heap.push { cls := .type "slice", data := .fields #[.none, .int 9 s.toks, .none] }) (o := { cls := .type "list", data := .seq (ws.take 9).toArray }) rfl
  rw [Heap.size_push] at this
  exact this
 have R₁ : Rel cx [] (mkSt [("script", .val (.ref S))] [] []) s₁ := by rw [← hs₁]; exact R.ext (fun b o e => push_keep _ _ (push_keep _ _ e)) rfl rfl
 have t₁ : TKeep s.heap s₁.heap := by rw [← hs₁]; exact .of fun b o e => push_keep _ _ (push_keep _ _ e)
 have hil : s₁.heap.IsList (s.heap.objs.size + 1) (ws.take 9).toArray := ⟨_, e₁, rfl, 0, rfl⟩
 refine wpAny_pyIter_list hil ?_
 have n₁ := no_get s₁.heap
 have hne : s.heap.objs.size + 1 ≠ s₁.heap.objs.size := fun q => by rw [q, n₁] at e₁; cases e₁
 generalize hs₂ : ({ s₁ with heap := s₁.heap.push { cls := .type "list_iterator", data := .fields #[.ref (s.heap.objs.size + 1), .int 0 0] } } : Shared) = s₂
 have R₂ : Rel cx [] (mkSt [("script", .val (.ref S))] [] []) s₂ := by rw [← hs₂]; exact R_pushed R₁ _
 have t₂ : TKeep s₁.heap s₂.heap := by rw [← hs₂]; exact .of push_keep
 have e₂ : s₂.heap.get? s₁.heap.objs.size = some { cls := .type "list_iterator", data := .fields #[.ref (s.heap.objs.size + 1), .int 0 0] } := by rw [← hs₂]; exact Heap.get?_push_size _ rfl
 have el₂ : s₂.heap.get? (s.heap.objs.size + 1) = some { cls := .type "list", data := .seq (ws.take 9).toArray } := by rw [← hs₂]; exact push_keep _ _ e₁
 have hWs := Walks.list (prog := cx.prog) (w := cx.w) hA s₁.heap.objs.size (s.heap.objs.size + 1) hne (ws.take 9).toArray
 have hlen : (ws.take 9).toArray.size = (ns.take 9).length := by have := ints_len hi; simp; lia
 rw [hlen] at hWs
 have h9 : (ns.take 9).length ≤ 100000 := by simp; lia
 have hvs : ∀ (i : Nat) (v : Value), (ws.take 9)[i]? = some v → ∃ t, v = .int (((ns.take 9)[i]?).getD 0) t := fun i v e => ints_get (hi.take 9) e
 refine comp_core (T := tNum) (N := 30) C hA (by decide +kernel) (by decide +kernel) (by decide +kernel) (fun h Cc C1 => tabN_ok (cx := cx.sub h [Cc] (compEnv lw1.1.2.2 Cc cx.env)) (A := A) KO.toKOk2 rfl (fun p hp => nomatch hp) (fun f avs st Qa w => w.elim) (fun f i st Qa w => w.elim)) hWs (fun i h st b hb => ?_) h9
  (fun i => AV.sint (((ns.take 9)[i]?).getD 0)) (fun i => AV.sint ((((ns.take 9)[i]?).getD 0).fmod (10 ^ 12))) (s := s₂) (fun i v h hP _ => ?_) (fun i hi => ⟨[], ?_⟩) (fun acc cenv r s' => match r with
     | .ok _ => wpAny (model cx.prog cx.w) A (assign (.Name "numbers" lw1.2.1) cx.env acc) (fun _ s'' => ∃ m, s''.heap.Ns cenv.locals m ∧ ∀ h', Heap.SameBut cenv.locals s''.heap h' → wpAny (model cx.prog cx.w) A (execs (lwB.drop 1) cx.env) Q E { s'' with heap := h' }) E s'
     | .error x => ∃ m, s'.heap.Ns cenv.locals m ∧ ∀ h', Heap.SameBut cenv.locals s'.heap h' → wpAny (model cx.prog cx.w) A (passOn "comprehension.variables-let-go" x { cenv with scope := lw1.1.2.2 }) (fun _ s' => wpAny (model cx.prog cx.w) A (execs (lwB.drop 1) cx.env) Q E s') E { s' with heap := h' }) R₂ rfl ⟨⟨_, e₂, rfl, rfl⟩, ⟨_, el₂, rfl, 0, rfl⟩⟩ (fun b hb => ?_) (fun b hb => ?_) (fun b hb => ?_) fun s' D cenv m t' nD nC hNs nm R' => ?_
 ·rw [List.mem_singleton.mp hb]
  refine el0_2 st fun z0_0 _ => ?_; refine el1_3 z0_0 fun o ho _ hd => ?_
  exact ⟨fun vs c q => (by rw [ho] at q; cases q; cases hd), by rw [ho]; simp⟩
 ·refine el1_1 (hvs i v (by simpa using hP)) fun t q0_1 => ?_; subst q0_1
  exact .sint _ _
 ·show evW tNum 30 lw1.1.1 (mkSt [("x", _)] [] []) _
  rw [run_num]
  exact ⟨rfl, rfl, rfl⟩
 ·rcases List.mem_cons.mp hb with rfl | hb
  ·rw [e₂]; simp
  ·rw [List.mem_singleton.mp hb, el₂]; simp
 ·rw [List.mem_singleton.mp hb]; exact R₁.nowhere n₁
 ·rw [List.mem_singleton.mp hb]; exact (R₁.newAddr n₁).symm
 ·dsimp only
  refine wpAny_assign_Name (store_ok2 C kN R' (VRel.obj 0 D 0 rfl) fun s₃ t₃ k₃ R₃ => ?_)
  have nl : cenv.locals ≠ cx.env.locals := fun q => nm (q ▸ .head _)
  have hn3 : s₃.heap.Ns cenv.locals m := hNs.at' fun o e => k₃ _ o nl e
  refine ⟨m, hn3, fun h' sb => ?_⟩
  have ⟨R₄, t₄⟩ := R₃.let_go rfl hn3 nm (R₂.newAddr nC).symm sb
  refine k [(D, 0)] _ (t₁.trans (t₂.trans (t'.trans (t₃.trans t₄)))) ?_
  have R₅ := Rel.cons (st := { mkSt [] [.list ((nums ns).map .sint)] [] with loc := [] }) (G := [("script", .val (.ref S))]) (x := "numbers") (v := .obj 0) (cx := cx) (ρ := [(D, 0)]) (s := { s₃ with heap := h' }) ?_
  ·exact R₅
  ·have e : (List.range (ns.take 9).length).map (fun i => AV.sint ((((ns.take 9)[i]?).getD 0).fmod (10 ^ 12))) = (nums ns).map .sint :=
    (range_map (fun x : Int => AV.sint (x.fmod (10 ^ 12))) 0 (ns.take 9)).trans (by unfold nums; rw [List.map_map]; rfl)
   rw [e] at R₄
   exact R₄
end
end Mine
end
noncomputable section
namespace Mine
open PySem PySem.W PyProof.Rows PySem.Calls PySem.SeqAt
noncomputable def tLw : Tab := tabN (scopeOf dLaw) bmF smRw noSp
noncomputable def lw2 : (Expr × Expr × Expr) × (Pos × Pos × Pos) := match lwB.drop 1 with
 | .Assign [.Name _ p1] (.IfExp t b o p2) p3 :: _ => ((t, b, o), (p1, p2, p3))
 | _ => default
noncomputable def lw2t : Pos × Pos × Pos := match lw2.1.1 with
 | .Compare (.Name _ p1) _ [.List _ p2] p3 => (p1, p2, p3)
 | _ => default
noncomputable def lwS3 : List Stmt := (lwB.drop 2).take 1
noncomputable def lwS4 : List Stmt := (lwB.drop 3).take 1
theorem lw2_eq : lwB.drop 1 = .Assign [.Name "first" lw2.2.1] (.IfExp lw2.1.1 lw2.1.2.1 lw2.1.2.2 lw2.2.2.1) lw2.2.2.2 :: (lwS3 ++ (lwS4 ++ lwB.drop 4)) := by kernel_rfl
theorem lw2t_eq : lw2.1.1 = .Compare (.Name "numbers" lw2t.1) [.NotEq] [.List [] lw2t.2.1] lw2t.2.2 := by kernel_rfl
theorem run_lw2b (L : List (Str × AV)) (xs : List AV) (P : PostV) : evW tLw 30 lw2.1.2.1 (mkSt (("numbers", .obj 0) :: L) [.list xs] []) P = (∃ y, xs[0]? = some y ∧ P y (mkSt (("numbers", .obj 0) :: L) [.list xs] [])) := by kernel_rfl
theorem run_lw2o (L : List (Str × AV)) (xs : List AV) (P : PostV) : evW tLw 30 lw2.1.2.2 (mkSt L [.list xs] []) P = P (.int 512040) (mkSt L [.list xs] []) := by kernel_rfl
noncomputable def lwL2 (v : Value) (f : Int) : List (Str × AV) := [("first", .sint f), ("numbers", .obj 0), ("script", .val v)]
theorem run_lw3 (v : Value) (xs : List AV) (f : Int) (P : PostF) : exsW tLw 30 lwS3 (mkSt (lwL2 v f) [.list xs] []) P = P .next (mkSt (put (lwL2 v f) "marks" (.sstr (fmOut (md f)))) [.list xs] []) := by kernel_rfl
noncomputable def lwL3 (v : Value) (f : Int) (m : Str) : List (Str × AV) := ("marks", .sstr m) :: lwL2 v f
noncomputable def lwEs (m : Str) : List AV := [.str "", .sstr ("\"" ++ m), .sstr ("'" ++ m), .str "\\"]
theorem run_lw4_0 (v : Value) (xs : List AV) (f : Int) (m : Str) (P : PostF) : exsW tLw 30 lwS4 (mkSt (lwL3 v f m) [.list xs] [true]) P =
 (("\"" : Str).length + m.length ≤ sizeLine ∧ ("'" : Str).length + m.length ≤ sizeLine ∧ ((f.fdiv 16).fmod 4 == ((0 : Nat) : Int)) = true ∧ P .next (mkSt (put (lwL3 v f m) "end" (.str "")) [.list xs, .list (lwEs m)] [])) := by kernel_rfl
theorem run_lw4_1 (v : Value) (xs : List AV) (f : Int) (m : Str) (P : PostF) : exsW tLw 30 lwS4 (mkSt (lwL3 v f m) [.list xs] [false, true]) P =
 (("\"" : Str).length + m.length ≤ sizeLine ∧ ("'" : Str).length + m.length ≤ sizeLine ∧ ((f.fdiv 16).fmod 4 == ((0 : Nat) : Int)) = false ∧ ((f.fdiv 16).fmod 4 == ((1 : Nat) : Int)) = true ∧ P .next (mkSt (put (lwL3 v f m) "end" (.sstr ("\"" ++ m))) [.list xs, .list (lwEs m)] [])) := by kernel_rfl
theorem run_lw4_2 (v : Value) (xs : List AV) (f : Int) (m : Str) (P : PostF) : exsW tLw 30 lwS4 (mkSt (lwL3 v f m) [.list xs] [false, false, true]) P =
 (("\"" : Str).length + m.length ≤ sizeLine ∧ ("'" : Str).length + m.length ≤ sizeLine ∧ ((f.fdiv 16).fmod 4 == ((0 : Nat) : Int)) = false ∧ ((f.fdiv 16).fmod 4 == ((1 : Nat) : Int)) = false ∧ ((f.fdiv 16).fmod 4 == ((2 : Nat) : Int)) = true ∧ P .next (mkSt (put (lwL3 v f m) "end" (.sstr ("'" ++ m))) [.list xs, .list (lwEs m)] [])) := by kernel_rfl
theorem run_lw4_3 (v : Value) (xs : List AV) (f : Int) (m : Str) (P : PostF) : exsW tLw 30 lwS4 (mkSt (lwL3 v f m) [.list xs] [false, false, false, true]) P =
 (("\"" : Str).length + m.length ≤ sizeLine ∧ ("'" : Str).length + m.length ≤ sizeLine ∧ ((f.fdiv 16).fmod 4 == ((0 : Nat) : Int)) = false ∧ ((f.fdiv 16).fmod 4 == ((1 : Nat) : Int)) = false ∧ ((f.fdiv 16).fmod 4 == ((2 : Nat) : Int)) = false ∧ ((f.fdiv 16).fmod 4 == ((3 : Nat) : Int)) = true ∧ P .next (mkSt (put (lwL3 v f m) "end" (.str "\\")) [.list xs, .list (lwEs m)] [])) := by kernel_rfl
noncomputable def firstOf (ns : List Int) : Int := ((nums ns)[0]?).getD 512040
noncomputable def wayOf (f : Int) : Int := (f.fdiv 16).fmod 4
noncomputable def endOf (f : Int) : Str := if wayOf f = 0 then "" else if wayOf f = 1 then "\"" ++ fmOut (md f) else if wayOf f = 2 then "'" ++ fmOut (md f) else "\\"
noncomputable def lwL4 (v : Value) (f : Int) : List (Str × AV) := ("end", .sstr (endOf f)) :: lwL3 v f (fmOut (md f))
theorem lw_tab {cx : Cx} {A : Around} {k : Nat} (C : CxOk cx) (KO : KOk2 cx.w cx.K) (hp : cx.prog = prog0) (Rm : Room A (k + 2)) (hsc : cx.env.scope = scopeOf dLaw) : TabOk tLw cx A :=
 tabN_ok KO hsc bmF_ok (fun f avs st Qa w => smRw_ok (k := k) ⟨C, KO, hp, Rm⟩ w) (fun f i st Qa w => w.elim)
section
variable {cx : Cx} {A : Around}
theorem ne_nil {T : Tab} (C : CxOk cx) (TO : TabOk T cx A) (hu : A.units < cLine) {ρ : Rho} {st : AS} {s : Shared} {x : Str} {xs : List AV} {p1 p2 p3 : Pos} {whole : Sem Value} {Q : Bool → Shared → Prop} {E : Value → Shared → Prop} (hk : cx.env.kindOf x = some .local) (hd : (x == ("__debug__" : Str)) = false) (R : Rel cx ρ st s)
  (l : st.loc.lookup x = some (.obj 0)) (o : st.objs[0]? = some (.list xs)) (k : ∀ ρ' s', PKeep ρ ρ' → TKeep s.heap s'.heap → Rel cx ρ' st s' → Q (!xs.isEmpty) s') : wpAny (model cx.prog cx.w) A (isTrue (.Compare (.Name x p1) [.NotEq] [.List [] p2] p3) cx.env whole) Q E s := by
 refine wpAny_isTrue_Compare1 (local_name C R hk hd l fun v r => List_ ?_)
 cases r with
 | obj i a d e =>
 refine (all_ok C TO 2).2.1 [] st (fun vs st' => vs = [] ∧ st' = st) ⟨rfl, rfl⟩ _ ρ s _ _ R rfl fun ρ' s₀ vs0 avs st' p' t' R' V' q => ?_
 refine el0_2 q fun q1 q2 => ?_
 rw [q1] at V'
 rw [q2] at R'
 w_dflts V'
 refine el1_3 (R'.objs.get o) fun p hp hO _ => ?_
 rw [p' _ _ e] at hp
 cases hp
 refine el2_2 hO fun vs n ha hv => ?_
 refine wpAny_newList ?_
 generalize hs : ({ s₀ with heap := s₀.heap.push { cls := .type "list", data := .seq ([] : List Value).toArray } } : Shared) = s₁
 have kp : ∀ b o, s₀.heap.get? b = some o → s₁.heap.get? b = some o := by rw [← hs]; exact push_keep
 have R₁ : Rel cx ρ' st s₁ := by rw [← hs]; exact R_pushed R' _
 have h1 : s₁.heap.IsList a vs.toArray := ⟨_, kp _ _ ha, rfl, n, rfl⟩
 have h2 : s₁.heap.IsList s₀.heap.objs.size #[] := ⟨_, by rw [← hs]; exact Heap.get?_push_size _ rfl, rfl, 0, rfl⟩
 have kk := k ρ' s₁ p' (t'.trans (.of kp)) R₁
 rcases xs with _ | ⟨y, ys⟩
 ·
  cases hv
  exact RcNeAt.lists (e := fun _ => true) h1 h2 rfl hu (fun j h1 => absurd h1 (Nat.not_lt_zero j)) _ _ _ _ (wpAny_truthy_bool kk)
 ·
  cases hv with
  | cons _ v _ vs' r rs => exact RcNeAt.lists_lengths h1 h2 (by simp) hu _ _ _ _ (wpAny_truthy_bool kk)
theorem lw_s2 {kk : Nat} (C : CxOk cx) (hsc : cx.env.scope = scopeOf dLaw) (KO : KOk2 cx.w cx.K) (hp : cx.prog = prog0) (Rm : Room A (kk + 2)) {v : Value} {ns : List Int} {ρ : Rho} {s : Shared} {Q : Flow → Shared → Prop} {E : Value → Shared → Prop} (fl : (fmOut (md (firstOf ns))).length ≤ 100)
  (R : Rel cx ρ (mkSt [("numbers", .obj 0), ("script", .val v)] [.list ((nums ns).map .sint)] []) s)
  (k : ∀ ρ' s', TKeep s.heap s'.heap → Rel cx ρ' (mkSt (lwL4 v (firstOf ns)) [.list ((nums ns).map .sint), .list (lwEs (fmOut (md (firstOf ns))))] []) s' → wpAny (model cx.prog cx.w) A (execs (lwB.drop 4) cx.env) Q E s') :
  wpAny (model cx.prog cx.w) A (execs (lwB.drop 1) cx.env) Q E s := by
 have TO := lw_tab C KO hp Rm hsc
 have hu : A.units < cLine := by have := Rm.units; lia
 have kN : cx.env.kindOf "numbers" = some .local := by show cx.env.scope.names.lookup _ = _; rw [hsc]; kernel_rfl
 have kF : cx.env.kindOf "first" = some .local := by show cx.env.scope.names.lookup _ = _; rw [hsc]; kernel_rfl
 rw [lw2_eq, lw2t_eq]
 -- first
 suffices hF : ∀ ρ₁ s₁ av w', TKeep s.heap s₁.heap → Rel cx ρ₁ (mkSt [("numbers", .obj 0), ("script", .val v)] [.list ((nums ns).map .sint)] []) s₁ → VRel s₁.heap ρ₁ av w' → (av = .int (firstOf ns) ∨ av = .sint (firstOf ns)) →
   wpAny (model cx.prog cx.w) A (storeName cx.env "first" w') (fun _ s' => wpAny (model cx.prog cx.w) A (execs (lwS3 ++ (lwS4 ++ lwB.drop 4)) cx.env) Q E s') E s₁ by
  refine wpAny_execs_cons (wpAny_Assign_Name (wpAny_IfExp (ne_nil C TO hu kN (by decide +kernel) R rfl rfl fun ρ₁ s₁ p₁ t₁ R₁ => ?_)) ?_)
  ·generalize hx : nums ns = xs at R₁ hF
   rcases xs with _ | ⟨y, ys⟩
   ·
    have hf : firstOf ns = 512040 := by unfold firstOf; rw [hx]; rfl
    refine (all_ok C TO 30).1 _ _ (fun a st' => a = .int (firstOf ns) ∧ st' = mkSt [("numbers", .obj 0), ("script", .val v)] [.list []] []) ((run_lw2o _ _ _).mpr ⟨by rw [hf], rfl⟩) ρ₁ s₁ _ _ R₁ fun ρ₂ s₂ w₂ a st₂ p₂ t₂ R₂ V₂ q => ?_
    refine el0_2 q fun q1 q2 => ?_
    rw [q2] at R₂
    exact wpAny_mono (hF ρ₂ s₂ a w₂ (t₁.trans t₂) R₂ V₂ (.inl q1)) (fun _ _ h => h) fun _ _ h => h
   ·
    have hf : firstOf ns = y := by unfold firstOf; rw [hx]; rfl
    refine (all_ok C TO 30).1 _ _ (fun a st' => a = .sint (firstOf ns) ∧ st' = mkSt [("numbers", .obj 0), ("script", .val v)] [.list ((y :: ys).map .sint)] []) ((run_lw2b _ _ _).mpr ⟨.sint y, rfl, by rw [hf], rfl⟩) ρ₁ s₁ _ _ R₁ fun ρ₂ s₂ w₂ a st₂ p₂ t₂ R₂ V₂ q => ?_
    refine el0_2 q fun q1 q2 => ?_
    rw [q2] at R₂
    exact wpAny_mono (hF ρ₂ s₂ a w₂ (t₁.trans t₂) R₂ V₂ (.inr q1)) (fun _ _ h => h) fun _ _ h => h
  ·kernel_rfl
 intro ρ₁ s₁ av w' t₁ R₁ V₁ hav
 have hm := R₁
 refine wpAny_mono (store_ok C kF R₁ V₁ fun s₂ t₂ R₂ => ?_) (fun _ _ h => h) fun _ _ h => h
 have R₃ : Rel cx ρ₁ (mkSt (lwL2 v (firstOf ns)) [.list ((nums ns).map .sint)] []) s₂ := by
  have R₃ := Rel.cons (st := mkSt [] [.list ((nums ns).map .sint)] []) (G := [("numbers", .obj 0), ("script", .val v)]) (x := "first") (v := av) R₂
  rcases hav with e | e
  ·rw [e] at R₃
   exact R₃.swap ⟨.cons _ _ _ _ _ (.int _) (.refl _), .refl _, rfl⟩
  ·rw [e] at R₃
   exact R₃
 refine seqM C TO Rm.handled KO.ve [] (by rw [run_lw3]; exact ⟨rfl, rfl⟩) R₃ fun ρ₄ s₄ p₄ t₄ R₄ => ?_
 have R₄ : Rel cx ρ₄ (mkSt (lwL3 v (firstOf ns) (fmOut (md (firstOf ns)))) [.list ((nums ns).map .sint)] []) s₄ := Rel.cons (st := mkSt [] [.list ((nums ns).map .sint)] []) R₄
 have T₄ := t₁.trans (t₂.trans t₄)
 generalize hf : firstOf ns = f at R₄ fl k
 have l1 : ("\"" : Str).length + (fmOut (md f)).length ≤ sizeLine := by have : ("\"" : Str).length = 1 := rfl; rw [sizeLine_eq]; lia
 have l2 : ("'" : Str).length + (fmOut (md f)).length ≤ sizeLine := by have : ("'" : Str).length = 1 := rfl; rw [sizeLine_eq]; lia
 have fin : ∀ ρ' s' e', PKeep ρ₄ ρ' → TKeep s₄.heap s'.heap → Rel cx ρ' (mkSt (put (lwL3 v f (fmOut (md f))) "end" e') [.list ((nums ns).map .sint), .list (lwEs (fmOut (md f)))] []) s' → (e' = .str (endOf f) ∨ e' = .sstr (endOf f)) → wpAny (model cx.prog cx.w) A (execs (lwB.drop 4) cx.env) Q E s' := by
  intro ρ' s' e' p' t' R' he
  refine k ρ' s' (T₄.trans t') ?_
  have R₅ := Rel.cons (st := mkSt [] [.list ((nums ns).map .sint), .list (lwEs (fmOut (md f)))] []) (G := lwL3 v f (fmOut (md f))) R'
  rcases he with e | e
  ·rw [e] at R₅
   exact R₅.swap ⟨.cons _ _ _ _ _ (.str _) (.refl _), .refl _, rfl⟩
  ·rw [e] at R₅
   exact R₅
 by_cases h0 : wayOf f = 0
 ·have b0 : ((f.fdiv 16).fmod 4 == ((0 : Nat) : Int)) = true := beq_iff_eq.mpr h0
  refine seqM C TO Rm.handled KO.ve [true] (by rw [run_lw4_0]; exact ⟨l1, l2, b0, rfl, rfl⟩) R₄ fun ρ₅ s₅ p₅ t₅ R₅ => fin _ _ _ p₅ t₅ R₅ (.inl (by unfold endOf; rw [if_pos h0]))
 have b0 : ((f.fdiv 16).fmod 4 == ((0 : Nat) : Int)) = false := beq_eq_false_iff_ne.mpr h0
 by_cases h1 : wayOf f = 1
 ·have b1 : ((f.fdiv 16).fmod 4 == ((1 : Nat) : Int)) = true := beq_iff_eq.mpr h1
  refine seqM C TO Rm.handled KO.ve [false, true] (by rw [run_lw4_1]; exact ⟨l1, l2, b0, b1, rfl, rfl⟩) R₄ fun ρ₅ s₅ p₅ t₅ R₅ => fin _ _ _ p₅ t₅ R₅ (.inr (by unfold endOf; rw [if_neg h0, if_pos h1]))
 have b1 : ((f.fdiv 16).fmod 4 == ((1 : Nat) : Int)) = false := beq_eq_false_iff_ne.mpr h1
 by_cases h2 : wayOf f = 2
 ·have b2 : ((f.fdiv 16).fmod 4 == ((2 : Nat) : Int)) = true := beq_iff_eq.mpr h2
  refine seqM C TO Rm.handled KO.ve [false, false, true] (by rw [run_lw4_2]; exact ⟨l1, l2, b0, b1, b2, rfl, rfl⟩) R₄ fun ρ₅ s₅ p₅ t₅ R₅ => fin _ _ _ p₅ t₅ R₅ (.inr (by unfold endOf; rw [if_neg h0, if_neg h1, if_pos h2]))
 have b2 : ((f.fdiv 16).fmod 4 == ((2 : Nat) : Int)) = false := beq_eq_false_iff_ne.mpr h2
 have h3 : wayOf f = 3 := by have := wy_bd f; unfold wayOf at *; unfold wy at this; lia
 have b3 : ((f.fdiv 16).fmod 4 == ((3 : Nat) : Int)) = true := beq_iff_eq.mpr h3
 refine seqM C TO Rm.handled KO.ve [false, false, false, true] (by rw [run_lw4_3]; exact ⟨l1, l2, b0, b1, b2, b3, rfl, rfl⟩) R₄ fun ρ₅ s₅ p₅ t₅ R₅ => fin _ _ _ p₅ t₅ R₅ (.inl (by unfold endOf; rw [if_neg h0, if_neg h1, if_neg h2]))
end
end Mine
end
noncomputable section
namespace Mine
open PySem PySem.W PyProof.Rows PySem.Calls PySem.SeqAt
noncomputable def lw5 : (Expr × Expr) × (Nat × Pos × Pos × Pos) × (Pos × Pos × Pos × Pos × Pos × Pos) × Pos := match lwB.drop 4 with
 | .Assign [.Tuple [.Name _ a1, .Name _ a2] kk a3] (.Call (.Name _ b1) [.BinOp l _ (.Subscript (.Name _ c1) (.Slice (some one) none none c2) c3) c4] _ b2) p :: _ => ((l, one), (kk, a1, a2, a3), (b1, c1, c2, c3, c4, b2), p)
 | _ => default
theorem lw5_eq : lwB.drop 4 = .Assign [.Tuple [.Name "text" lw5.2.1.2.1, .Name "row" lw5.2.1.2.2.1] lw5.2.1.1 lw5.2.1.2.2.2] (.Call (.Name "_law_row" lw5.2.2.1.1) [.BinOp lw5.1.1 .Add (.Subscript (.Name "numbers" lw5.2.2.1.2.1) (.Slice (some (.Constant (.int 1) (cK lw5.1.2).1 (cK lw5.1.2).2)) none none lw5.2.2.1.2.2.1) lw5.2.2.1.2.2.2.1) lw5.2.2.1.2.2.2.2.1] [] lw5.2.2.1.2.2.2.2.2) lw5.2.2.2 :: lwB.drop 5 := by kernel_rfl
noncomputable def lwC : List Int := [553404, 1563140, 215077]
theorem run_lw5 (L : List (Str × AV)) (a b : AObj) (P : PostV) : evW tLw 30 lw5.1.1 (mkSt L [a, b] []) P = P (.obj 2) (mkSt L [a, b, .list (lwC.map .int)] []) := by kernel_rfl
noncomputable def rowIn (ns : List Int) : List Int := lwC ++ (nums ns).drop 1
theorem nums_le (ns : List Int) : (nums ns).length ≤ 9 := by unfold nums; rw [List.length_map, List.length_take]; exact Nat.min_le_left _ _
theorem rowIn_len (ns : List Int) : (rowIn ns).length ≤ 20 := by unfold rowIn; rw [List.length_append, List.length_drop]; have := nums_le ns; have : lwC.length = 3 := rfl; omega
theorem sints_any {h h' : Heap} {ρ ρ' : Rho} : ∀ {xs : List Int} {vs : List Value}, VRels h ρ (xs.map .sint) vs → VRels h' ρ' (xs.map .sint) vs
 | [], _, .nil => .nil
 | x :: xs, _, .cons _ _ _ _ r rs => by w_dflts r; exact .cons _ _ _ _ (.sint _ _) (sints_any rs)
theorem ints_any {h h' : Heap} {ρ ρ' : Rho} : ∀ {xs : List Int} {vs : List Value}, VRels h ρ (xs.map .int) vs → VRels h' ρ' (xs.map .sint) vs
 | [], _, .nil => .nil
 | x :: xs, _, .cons _ _ _ _ r rs => by w_dflts r; exact .cons _ _ _ _ (.sint _ _) (ints_any rs)
theorem sints_drop {h : Heap} {ρ : Rho} : ∀ {xs : List Int} {vs : List Value} (k : Nat), VRels h ρ (xs.map .sint) vs → VRels h ρ ((xs.drop k).map .sint) (vs.drop k)
 | _, _, 0, r => r
 | [], _, k + 1, .nil => .nil
 | x :: xs, _, k + 1, .cons _ _ _ _ r rs => sints_drop k rs
noncomputable def lwL5 (a b : Addr) (v : Value) (x : Str) (f : Int) : List (Str × AV) := ("row", .val (.ref b)) :: ("text", .sstr x) :: ("numbers", .val (.ref a)) :: ("end", .sstr (endOf f)) :: ("marks", .sstr (fmOut (md f))) :: ("first", .sint f) :: [("script", .val v)]
theorem lk_cons (k : Str) (v : AV) (l : List (Str × AV)) (x : Str) : List.lookup x ((k, v) :: l) = if x = k then some v else l.lookup x := by
 by_cases h : x = k
 ·subst h; simp
 ·rw [if_neg h]; exact look_ne h
theorem low_all {k : Nat} {g : Str} : ∀ {L : List (Str × AV)}, (L.all fun p => p.1 == g || lowA k p.2) = true → ∀ x a, x ≠ g → L.lookup x = some a → lowA k a = true
 | [], _, x, a, _, e => by cases e
 | p :: L, h, x, a, hx, e => by
  obtain ⟨y, v⟩ := p
  rw [List.all_cons, Bool.and_eq_true] at h
  rw [lk_cons] at e
  by_cases q : x = y
  ·rw [if_pos q] at e
   cases e
   subst q
   have := h.1
   rw [Bool.or_eq_true] at this
   exact this.elim (fun z => absurd (eq_of_beq z) hx) id
  ·rw [if_neg q] at e
   exact low_all h.2 x a hx e
section
variable {cx : Cx} {A : Around}
theorem lw_s5 {kk : Nat} (G : Gd2 cx A (kk + 3)) (hsc : cx.env.scope = scopeOf dLaw) {v : Value} {ns : List Int} {f : Int} {es : List AV} {ρ : Rho} {s : Shared} {Q : Flow → Shared → Prop} {E : Value → Shared → Prop}
  (R : Rel cx ρ (mkSt (lwL4 v f) [.list ((nums ns).map .sint), .list es] []) s)
  (k : ∀ a b s' rvs nn, TKeep s.heap s'.heap → Rel cx [] (mkSt (lwL5 a b v (textL (rowIn ns)) f) [] []) s' → s'.heap.get? b = some (lstObj rvs nn) → VRels s'.heap [] ((rowL (rowIn ns)).map ent) rvs → wpAny (model cx.prog cx.w) A (execs (lwB.drop 5) cx.env) Q E s') :
  wpAny (model cx.prog cx.w) A (execs (lwB.drop 4) cx.env) Q E s := by
 have C := G.C
 have TO := lw_tab C G.KO G.hp (k := kk) (G.Rm.less (by lia)) hsc
 have kR : cx.env.kindOf "_law_row" = some .globalImplicit := by show cx.env.scope.names.lookup _ = _; rw [hsc]; kernel_rfl
 have kN : cx.env.kindOf "numbers" = some .local := by show cx.env.scope.names.lookup _ = _; rw [hsc]; kernel_rfl
 have kT : cx.env.kindOf "text" = some .local := by show cx.env.scope.names.lookup _ = _; rw [hsc]; kernel_rfl
 have kW : cx.env.kindOf "row" = some .local := by show cx.env.scope.names.lookup _ = _; rw [hsc]; kernel_rfl
 have hl := (G.KO.gl2 ("_law_row", .ref 810) (by decide +kernel))
 rw [lw5_eq]
 refine wpAny_execs_cons (Assign_Tuple (Call_name (global_name C R kR (by decide +kernel) hl.1 (callWith_ok (K := cx.K) (es := [_]) rfl (fun h X => keeps_K (hl.2 810 rfl) h X) ?_))) ?_ ?_)
 rotate_left
 ·kernel_rfl
 ·kernel_rfl
 refine spliced_more (wpAny_BinOp ((all_ok C TO 30).1 _ _ _ ((run_lw5 _ _ _ (fun a st' => a = .obj 2 ∧ st' = mkSt (lwL4 v f) [.list ((nums ns).map .sint), .list es, .list (lwC.map .int)] [])).mpr ⟨rfl, rfl⟩) ρ s _ _ R fun ρ₁ s₁ w₁ a₁ st₁ p₁ t₁ R₁ V₁ q => ?_)) rfl
 refine el0_2 q fun q1 q2 => ?_
 rw [q1] at V₁
 rw [q2] at R₁
 cases V₁ with
 | obj _ l₁ d₁ e₁ =>
 refine el1_3 (R₁.objs.get (i := 2) (o := .list (lwC.map .int)) rfl) fun pl hpl hOl hfl => ?_
 rw [e₁] at hpl
 cases hpl
 refine el2_2 hOl fun us un hl₁ hus => ?_
 refine wpAny_Subscript_list_slice (local_name C R₁ kN (by decide +kernel) (av := .obj 0) (by kernel_rfl) fun w r => ?_) (fun _ _ => rfl)
 cases r with
 | obj _ n₁ d₂ e₂ =>
 refine el1_3 (R₁.objs.get (i := 0) (o := .list ((nums ns).map .sint)) rfl) fun pn hpn hOn hfn => ?_
 rw [e₂] at hpn
 cases hpn
 refine el2_2 hOn fun ws wn hn₁ hws => ?_
 refine wpAny_evalPart_some (wpAny_Constant_int (wpAny_evalPart_none ?_))
 have wl : ws.length ≤ 9 := by rw [← hws.length, List.length_map]; exact nums_le ns
 refine ⟨n₁, ws.toArray, some 1, none, rfl, ⟨_, hn₁, rfl, wn, rfl⟩, by rw [sizeLine_eq, List.size_toArray]; lia, .int _ _, .none, ?_⟩
 rw [pick_drop]
 generalize hs₂ : ({ heap := (s₁.heap.push { cls := .type "slice", data := .fields #[.int 1 s₁.toks, .none, .none] }).push { cls := .type "list", data := .seq (ws.drop 1).toArray }, gens := s₁.gens, drawn := s₁.drawn, toks := s₁.toks + 1, os := s₁.os } : Shared) = s₂
 have kp₂ : ∀ b o, s₁.heap.get? b = some o → s₂.heap.get? b = some o := by rw [← hs₂]; exact fun b o e => push_keep _ _ (push_keep _ _ e)
 have R₂ : Rel cx ρ₁ (mkSt (lwL4 v f) [.list ((nums ns).map .sint), .list es, .list (lwC.map .int)] []) s₂ := by rw [← hs₂]; exact R₁.ext (fun b o e => push_keep _ _ (push_keep _ _ e)) rfl rfl
 have el₂ : s₂.heap.get? (s₁.heap.objs.size + 1) = some (lstObj (ws.drop 1) 0) := by
  rw [← hs₂]
  have := Heap.get?_push_size (s₁.heap.push { cls := .type "slice", data := .fields #[.int 1 s₁.toks, .none, .none] }) (o := { cls := .type "list", data := .seq (ws.drop 1).toArray }) rfl
  rw [Heap.size_push] at this
  exact this
 have ul : us.length = 3 := by rw [← hus.length]; rfl
 refine P.add_list (items := us.toArray) (items2 := (ws.drop 1).toArray) (kp₂ _ _ hl₁) el₂ ?_ (by rw [sizeLine_eq, List.size_toArray, List.size_toArray, List.length_drop]; lia)
 generalize hs₃ : ({ s₂ with heap := s₂.heap.push { cls := .type "list", data := .seq (us.toArray ++ (ws.drop 1).toArray) } } : Shared) = s₃
 have kp₃ : ∀ b o, s₂.heap.get? b = some o → s₃.heap.get? b = some o := by rw [← hs₃]; exact push_keep
 have R₃ : Rel cx ρ₁ (mkSt (lwL4 v f) [.list ((nums ns).map .sint), .list es, .list (lwC.map .int)] []) s₃ := by rw [← hs₃]; exact R_pushed R₂ _
 have ha : s₃.heap.get? s₂.heap.objs.size = some (lstObj (us ++ ws.drop 1) 0) := by
  rw [← hs₃]
  have := Heap.get?_push_size s₂.heap (o := { cls := .type "list", data := .seq (us.toArray ++ (ws.drop 1).toArray) }) rfl
  rw [this]; simp [lstObj]
 have hv₃ : VRels s₃.heap [] ((rowIn ns).map .sint) (us ++ ws.drop 1) := by
  unfold rowIn
  rw [List.map_append]
  exact VRels.append (ints_any hus) (sints_any (sints_drop 1 hws))
 refine Calls.spliced_nil ⟨R₃.kin C, wpAny_call ?_⟩
 refine row_ok G (rowIn_len ns) R₃ ha hv₃ fun s₄ T b t rvs nn m kp₄ R₄ hT hb₀ hb hr => ?_
 -- text, row
 have C₄ := C.now R₄
 refine wpAny_mono (asg_pair (cx := cx.now s₄.heap [.list ((nums ns).map .sint), .list es, .list (lwC.map .int)] ρ₁) C₄ G.Rm.handled kT kW ⟨_, hT, rfl, m, rfl⟩ (a := .sstr (textL (rowIn ns))) (b := .val (.ref b)) (.sstr _ _) (.val _) (R₄.now rfl) fun s₅ t₅ R₅ => ?_) (fun _ _ h => h) fun _ _ h => h
 have hb₅ := R₅.keep _ _ hb (R₃.nowhere hb₀)
 have R₆ := R₄.then R₅ rfl
 have low : ∀ x a, x ≠ ("numbers" : Str) → (put (put (lwL4 v f) "text" (.sstr (textL (rowIn ns)))) "row" (.val (.ref b))).lookup x = some a → lowA 0 a = true := low_all (by kernel_rfl)
 refine el1_1 (R₆.dropTo 0 rfl (g := "numbers") (j := 0) (by kernel_rfl) low) fun a R₇ => ?_
 refine k a b s₅ rvs nn ?_ ?_ hb₅ (hr.mono t₅ (PKeep.refl _))
 ·exact t₁.trans ((TKeep.of fun b o e => kp₄ _ _ (kp₃ _ _ (kp₂ _ _ e))).trans t₅)
 ·refine Rel.look (loc' := lwL5 a b v (textL (rowIn ns)) f) R₇ fun x => ?_
  show (lwL5 a b v (textL (rowIn ns)) f).lookup x = ((("numbers" : Str), AV.val (.ref a)) :: put (put (lwL4 v f) "text" (.sstr (textL (rowIn ns)))) "row" (.val (.ref b))).lookup x
  generalize textL (rowIn ns) = tx
  by_cases h1 : x = ("row" : Str)
  ·subst h1; kernel_rfl
  by_cases h2 : x = ("text" : Str)
  ·subst h2; kernel_rfl
  by_cases h3 : x = ("numbers" : Str)
  ·subst h3; kernel_rfl
  unfold lwL5 lwL4 lwL3 lwL2
  simp only [lk_cons, lookup_put, if_neg h1, if_neg h2, if_neg h3]
end
end Mine
end
noncomputable section
namespace Mine
open PySem PySem.W PyProof.Rows PySem.Calls PySem.SeqAt
theorem gap_pos : ∀ g ∈ gapM, ∀ x ∈ g, 0 < x.length := by decide +kernel
theorem repS_le (n : Int) : (repS "'" n).length ≤ 1 := by
 unfold repS
 cases (n == 1) <;> decide +kernel
theorem rK_item (x : Int) : ∀ e ∈ rK x, 0 < e.1.length ∧ e.1.length ≤ 100 := by
 intro e he
 unfold rK at he
 split at he
 ·rw [List.mem_singleton.mp he]
  show 0 < (chrAt (rSg x) 0).length ∧ (chrAt (rSg x) 0).length ≤ 100
  rw [chrAt_len]; decide
 ·split at he
  ·rw [List.mem_singleton.mp he]
   show 0 < (repS "'" (wy x - 1) ++ rSg x ++ repS "'" (wy x - 1)).length ∧ (repS "'" (wy x - 1) ++ rSg x ++ repS "'" (wy x - 1)).length ≤ 100
   have := repS_le (wy x - 1)
   have := rSg_len x
   rw [Str.length_append, Str.length_append]
   omega
  ·cases he
theorem row_item (x : Int) : ∀ e ∈ rowStep x, 0 < e.1.length ∧ e.1.length ≤ 100 := by
 intro e he
 unfold rowStep at he
 rcases List.mem_append.mp he with he | he
 ·exact rK_item x e he
 rcases List.mem_append.mp he with he | he
 ·refine el1_2 (List.mem_map.mp he) fun c hc q0_2 => ?_; subst q0_2
  refine el1_2 (List.mem_map.mp hc) fun i _ q0_2 => ?_; subst q0_2
  exact ⟨Nat.zero_lt_one, by show (1 : Nat) ≤ 100; decide⟩
 ·refine el1_2 (List.mem_map.mp he) fun c hc q0_2 => ?_; subst q0_2
  have := (gap_facts _ (rG_mem x)).2.1 c hc
  exact ⟨gap_pos _ (rG_mem x) c hc, this⟩
theorem rowL_item : ∀ (xs : List Int), ∀ e ∈ rowL xs, 0 < e.1.length ∧ e.1.length ≤ 100 := by
 intro xs e he
 have : ∀ (xs : List Int) (r : List (Str × Str)), (∀ e ∈ r, 0 < e.1.length ∧ e.1.length ≤ 100) → ∀ e ∈ xs.foldl (fun r x => r ++ rowStep x) r, 0 < e.1.length ∧ e.1.length ≤ 100 := by
  intro xs
  induction xs with
  | nil => exact fun r h => h
  | cons x xs ih =>
   intro r h
   refine ih (r ++ rowStep x) fun e he => ?_
   rcases List.mem_append.mp he with he | he
   ·exact h e he
   ·exact row_item x e he
 exact this xs [] (fun e he => nomatch he) e he
theorem rowL_small (ns : List Int) : (rowL (rowIn ns)).length ≤ 999 := by
 have := rowL_len (rowIn ns) (rowIn ns).length
 rw [List.take_length] at this
 have := rowIn_len ns
 lia
theorem InnerAt.but {h h' : Heap} {L : Addr} {m : Str → Option Value} (hn : h.Ns L m) (kp : ∀ b o, b ≠ L → h.get? b = some o → h'.get? b = some o) (t : TKeep h h') : ∀ {vs : List Value} {items : List (List AV)}, InnerAt h vs items → InnerAt h' vs items
 | [], [], _ => trivial
 | v :: vs, it :: items, ⟨⟨d, us, n, e, g, r⟩, hr⟩ => by
  refine el3_3 (id hn) fun o es ep ho hd _ => ?_
  exact ⟨⟨d, us, n, e, kp _ _ (fun q => by rw [q, ho] at g; cases g; cases hd) g, r.mono t (PKeep.refl _)⟩, InnerAt.but hn kp t hr⟩
theorem ToldAt.but {h h' : Heap} {L : Addr} {m : Str → Option Value} (hn : h.Ns L m) (kp : ∀ b o, b ≠ L → h.get? b = some o → h'.get? b = some o) (t : TKeep h h') {c : Addr} {items : List (List AV)} (T : ToldAt h c items) : ToldAt h' c items := by
 refine el2_2 T fun vs n g r => ?_
 refine el3_3 (id hn) fun o es ep ho hd _ => ?_
 exact ⟨vs, n, kp _ _ (fun q => by rw [q, ho] at g; cases g; cases hd) g, r.but hn kp t⟩
noncomputable def lw6 : (Expr × Expr) × (Pos × Pos × Pos × Pos × Pos) := match lwB.drop 5 with
 | .Assign [.Name _ p0] (.Call (.Name _ p1) [.Name _ p2, a, b] _ p3) p4 :: _ => ((a, b), (p0, p1, p2, p3, p4))
 | _ => default
theorem lw6_eq : lwB.drop 5 = .Assign [.Name "told" lw6.2.1] (.Call (.Name "_law_told" lw6.2.2.1) [.Name "row" lw6.2.2.2.1, lw6.1.1, lw6.1.2] [] lw6.2.2.2.2.1) lw6.2.2.2.2.2 :: lwB.drop 6 := by kernel_rfl
noncomputable def enOf (f : Int) : Str := Txt.slice (endOf f) none (some 1)
theorem run_lw6 (a b : Addr) (v : Value) (x : Str) (f : Int) (P : List AV → AS → Prop) : evsW tLw 30 [Expr.Name "row" lw6.2.2.2.1, lw6.1.1, lw6.1.2] (mkSt (lwL5 a b v x f) [] []) P = ((0 ≤ md f ∧ md f < 65536) ∧ (endOf f).length ≤ sizeLine ∧ P [.val (.ref b), .sstr (sgOut (md f)), .sstr (enOf f)] (mkSt (lwL5 a b v x f) [] [])) := by kernel_rfl
theorem ns6 : noStar [Expr.Name "row" lw6.2.2.2.1, lw6.1.1, lw6.1.2] = true := by kernel_rfl
theorem endOf_len (f : Int) : (endOf f).length ≤ 11 := by
 unfold endOf
 have h := fmOut_len10 (md f)
 have h1 : ("\"" : Str).length = 1 := rfl
 have h2 : ("'" : Str).length = 1 := rfl
 split
 ·decide +kernel
 ·split
  ·rw [Str.length_append]; lia
  ·split
   ·rw [Str.length_append]; lia
   ·decide +kernel
noncomputable def lwL6 (c a b : Addr) (v : Value) (x : Str) (f : Int) : List (Str × AV) := ("told", .val (.ref c)) :: lwL5 a b v x f
section
variable {cx : Cx} {A : Around}
theorem lw_s6 {kk : Nat} (G : Gd2 cx A (kk + 2)) (hsc : cx.env.scope = scopeOf dLaw) {a b : Addr} {v : Value} {x : Str} {er : List (Str × Str)} {rvs : List Value} {nn : Nat} {f : Int} {s : Shared} {Q : Flow → Shared → Prop} {E : Value → Shared → Prop}
  (hx : er.length ≤ 999) (hp : ∀ e ∈ er, 0 < e.1.length ∧ e.1.length ≤ 100)
  (R : Rel cx [] (mkSt (lwL5 a b v x f) [] []) s) (hb : s.heap.get? b = some (lstObj rvs nn)) (hr : VRels s.heap [] (er.map ent) rvs)
  (k : ∀ c s', TKeep s.heap s'.heap → Rel cx [] (mkSt (lwL6 c a b v x f) [] []) s' → ToldAt s'.heap c (toldOut (sgOut (md f)) er (enOf f)) → wpAny (model cx.prog cx.w) A (execs (lwB.drop 6) cx.env) Q E s') :
  wpAny (model cx.prog cx.w) A (execs (lwB.drop 5) cx.env) Q E s := by
 have C' := G.C.now R
 have R' := R.now rfl
 have TO := lw_tab (cx := cx.now s.heap [] []) C' G.KO G.hp (k := kk) (G.Rm.less (by lia)) hsc
 have kT : cx.env.kindOf "_law_told" = some .globalImplicit := by show cx.env.scope.names.lookup _ = _; rw [hsc]; kernel_rfl
 have kW : cx.env.kindOf "row" = some .local := by show cx.env.scope.names.lookup _ = _; rw [hsc]; kernel_rfl
 have kD : cx.env.kindOf "told" = some .local := by show cx.env.scope.names.lookup _ = _; rw [hsc]; kernel_rfl
 have hl := (G.KO.gl2 ("_law_told", .ref 817) (by decide +kernel))
 have nb : b ≠ cx.env.locals := fun q => by
  refine el1_2 R.loc fun m z0_1 _ => ?_; refine el3_3 z0_1 fun o es ep ho hd _ => ?_
  rw [q, ho] at hb; cases hb; cases hd
 rw [lw6_eq]
 refine wpAny_execs_cons (wpAny_Assign_Name (Call_name (global_name C' R' kT (by decide +kernel) hl.1 (callWith_ok (K := cx.K) (es := [_, _, _]) ns6 (fun h X => keeps_K (hl.2 817 rfl) h X) ?_))) ?_)
 rotate_left
 ·kernel_rfl
 refine (all_ok C' TO 30).2.1 _ _ _ ((run_lw6 a b v x f (fun vs st' => vs = [.val (.ref b), .sstr (sgOut (md f)), .sstr (enOf f)] ∧ st' = mkSt (lwL5 a b v x f) [] [])).mpr ⟨md_bd f, by have := endOf_len f; rw [sizeLine_eq]; lia, rfl, rfl⟩) _ _ _ _ _ R' ns6 fun ρ₁ s₁ vs avs st₁ p₁ t₁ R₁ V₁ q => ?_
 refine el0_2 q fun q1 q2 => ?_
 rw [q1] at V₁
 rw [q2] at R₁
 cases V₁ with
 | cons _ u1 _ _ r1 V₁ =>
 cases V₁ with
 | cons _ u2 _ _ r2 V₁ =>
 cases V₁ with
 | cons _ u3 _ _ r3 V₁ =>
 w_dflts V₁
 w_dflts r1
 have len : ρ₁ = [] := List.length_eq_zero_iff.mp R₁.objs.len.symm
 subst len
 have hb₁ : s₁.heap.get? b = some (lstObj rvs nn) := R₁.keep _ _ hb (fun hm => by rcases List.mem_cons.mp hm with e | e; exact nb e; cases e)
 have X₁ := Rel.kin C' R₁
 refine ⟨X₁, wpAny_call ?_⟩
 refine told_ok (cx := cx.now s.heap [] []) ⟨C', G.KO, G.hp, G.Rm.less (by lia)⟩ (k := kk) hx (fun e he => (hp e he).1) (fun e he => (hp e he).2) (by rw [sgOut_len]; decide) R₁ hb₁ (hr.mono t₁ (PKeep.refl _)) r2 r3 fun s₂ c kp₂ R₂ T₂ => ?_
 refine wpAny_mono (store_ok2 C' kD R₂ (.val (.ref c)) fun s₃ t₃ k₃ R₃ => ?_) (fun _ _ h => h) fun _ _ h => h
 refine el1_2 R₂.loc fun m hm _ => ?_
 refine k c s₃ (t₁.trans ((TKeep.of kp₂).trans t₃)) ?_ (T₂.but hm k₃ t₃)
 exact Rel.cons (st := mkSt [] [] []) (G := lwL5 a b v x f) (R.then R₃ rfl)
end
end Mine
end
noncomputable section
namespace Mine
open PySem PySem.W PyProof.Rows PySem.Calls PySem.SeqAt
noncomputable def lw7 : Expr × (Pos × Pos × Pos × Pos × Pos) × (Nat × Pos × Pos) × Pos := match lwB.drop 6 with
 | .Assign [.Name _ p1] (.Call (.Name _ p2) [e] [⟨_, .Constant _ k p3, p4⟩, ⟨_, .Name _ p5, p6⟩] p7) p8 :: _ => (e, (p1, p2, p4, p5, p6), (k, p3, p7), p8)
 | _ => default
theorem lw7_eq : lwB.drop 6 = .Assign [.Name "lexer" lw7.2.1.1] (.Call (.Name "shlex" lw7.2.1.2.1) [lw7.1] [⟨some "posix", .Constant (.bool true) lw7.2.2.1.1 lw7.2.2.1.2.1, lw7.2.1.2.2.1⟩, ⟨some "punctuation_chars", .Name "marks" lw7.2.1.2.2.2.1, lw7.2.1.2.2.2.2⟩] lw7.2.2.1.2.2) lw7.2.2.2 :: lwB.drop 7 := by kernel_rfl
theorem run_lw7 (c a b : Addr) (v : Value) (x : Str) (f : Int) (P : List AV → AS → Prop) : evsW tLw 30 [lw7.1] (mkSt (lwL6 c a b v x f) [] []) P = (x.length + (endOf f).length ≤ sizeLine ∧ P [.sstr (x ++ endOf f)] (mkSt (lwL6 c a b v x f) [] [])) := by kernel_rfl
theorem ns7 : noStar [lw7.1] = true := by kernel_rfl
theorem st7 (env : Env) : starEach [lw7.1] env = (false, eval lw7.1 env) :: starEach [] env := by kernel_rfl
section
variable {cx : Cx} {A : Around}
theorem lw_s7 {kk : Nat} (G : Gd5 cx A (kk + 6)) (hsc : cx.env.scope = scopeOf dLaw) {c a b : Addr} {v : Value} {x : Str} {f : Int} {s : Shared} {Q : Flow → Shared → Prop} {E : Value → Shared → Prop} {cl : Addr}
  (hx : x.length ≤ 90000) (R : Rel cx [] (mkSt (lwL6 c a b v x f) [] []) s) (hcl : s.heap.IsCell cl none) (hlk : cx.env.cells.lookup ("lexer" : Str) = some cl) (hfr : cl ∈ cx.mt ∨ cx.h₀.get? cl = none)
  (k : ∀ ρ' lx s', TKeep s.heap s'.heap → Rel cx ρ' (mkSt (lwL6 c a b v x f) (lxTab (.str " ") (.str "") 1 (wcOf (fmOut (md f))) (fmOut (md f)) (x ++ endOf f) 0 []) []) s' → VRel s'.heap ρ' (.obj 0) (.ref lx) → s'.heap.IsCell cl (some (.ref lx)) → cl ∉ cx.env.locals :: foot (lxTab (.str " ") (.str "") 1 (wcOf (fmOut (md f))) (fmOut (md f)) (x ++ endOf f) 0 []) ρ' →
   (∀ b us n, s.heap.get? b = some (lstObj us n) → b ∉ cx.env.locals :: foot (lxTab (.str " ") (.str "") 1 (wcOf (fmOut (md f))) (fmOut (md f)) (x ++ endOf f) 0 []) ρ' ∧ s'.heap.get? b = some (lstObj us n)) →
   wpAny (model cx.prog cx.w) A (execs (lwB.drop 7) cx.env) Q E s') :
  wpAny (model cx.prog cx.w) A (execs (lwB.drop 6) cx.env) Q E s := by
 have C' := G.C.now R
 have R' := R.now rfl
 have KO2 := G.KO.toKOk2
 have TO := lw_tab (cx := cx.now s.heap [] []) C' KO2 G.hp (k := kk) (G.Rm.less (by lia)) hsc
 have kS : cx.env.kindOf "shlex" = some .globalImplicit := by show cx.env.scope.names.lookup _ = _; rw [hsc]; kernel_rfl
 have kM : cx.env.kindOf "marks" = some .local := by show cx.env.scope.names.lookup _ = _; rw [hsc]; kernel_rfl
 have kX : cx.env.kindOf "lexer" = some .cell := by show cx.env.scope.names.lookup _ = _; rw [hsc]; kernel_rfl
 have hl := (KO2.gl2 ("shlex", .ref 732) (by decide +kernel))
 rw [lw7_eq]
 refine wpAny_execs_cons (wpAny_Assign_Name (wpAny_Call_Name_kw (global_name C' R' kS (by decide +kernel) hl.1 (callWith_of (P := cx.K.In) rfl (fun h X => keeps_K (hl.2 732 rfl) h X) (evalArgs_kw2 rfl ?_ (st7 _))))) ?_)
 rotate_left
 ·kernel_rfl
 refine (all_ok C' TO 30).2.1 _ _ _ ((run_lw7 c a b v x f (fun vs st' => vs = [.sstr (x ++ endOf f)] ∧ st' = mkSt (lwL6 c a b v x f) [] [])).mpr ⟨by have := endOf_len f; rw [sizeLine_eq]; lia, rfl, rfl⟩) _ _ _ _ _ R' ns7 fun ρ₁ s₁ vs avs st₁ p₁ t₁ R₁ V₁ q => ?_
 refine el0_2 q fun q1 q2 => ?_
 rw [q1] at V₁
 rw [q2] at R₁
 cases V₁ with
 | cons _ u1 _ _ r1 V₁ =>
 w_dflts V₁
 have len : ρ₁ = [] := List.length_eq_zero_iff.mp R₁.objs.len.symm
 subst len
 refine kwAll_cons (wpAny_Constant_bool (kwAll_cons (local_name C' R₁ kM (by decide +kernel) (av := .sstr (fmOut (md f))) (by kernel_rfl) fun vm rm => kwAll_nil ?_)))
 have X₁ := Rel.kin C' R₁
 refine ⟨X₁, wpAny_call ?_⟩
 have G' : Gd5 (cx.now s.heap [] []) A (kk + 6) := ⟨C', G.KO, G.hp, G.Rm⟩
 refine shlex_ok G' (x := x ++ endOf f) (pc := fmOut (md f)) (by rw [fmOut_len10]; decide) (by rw [fmOut_len10]; decide) (st := mkSt (lwL6 c a b v x f) [] []) rfl rfl R₁ r1 rm fun ρ₂ s₂ lx t₂ R₂ V₂ => ?_
 refine el1_2 (id hcl) fun oc ho hd => ?_
 have ncl : cl ∉ cx.env.locals :: foot (mkSt (lwL6 c a b v x f) [] []).objs [] := fun hm => by
  rcases List.mem_cons.mp hm with e | e
  ·refine el1_2 R.loc fun m z0_1 _ => ?_; refine el3_3 z0_1 fun o es ep ho' hd' _ => ?_
   rw [e, ho'] at ho; cases ho; rw [hd'] at hd; cases hd
  ·cases e
 have ho₂ : s₂.heap.get? cl = some oc := R₂.keep _ _ ho ncl
 have own₂ : cl ∉ cx.env.locals :: foot (lxTab (.str " ") (.str "") 1 (wcOf (fmOut (md f))) (fmOut (md f)) (x ++ endOf f) 0 []) ρ₂ := fun hm => by
  rcases R₂.own cl hm with q | q
  ·exact ncl q
  ·have q : s.heap.get? cl = none := q
   rw [ho] at q; cases q
 refine wpAny_storeName_cell C'.kf kX hlk ⟨oc, ho₂, hd⟩ fun h' hc' sb => ?_
 have R₃ := R.then R₂ rfl
 have ntp : ∀ vs n, s₂.heap.get? cl ≠ some (tupObj vs n) := fun vs n q => by rw [ho₂] at q; cases q; cases hd
 have R₄ : Rel cx ρ₂ (mkSt (lwL6 c a b v x f) (lxTab (.str " ") (.str "") 1 (wcOf (fmOut (md f))) (fmOut (md f)) (x ++ endOf f) 0 []) []) { s₂ with heap := h' } :=
  R₃.aside (s' := { s₂ with heap := h' }) (wr := [cl]) rfl (fun b o hb e => sb.extBut b o (fun q => hb (by simp [q])) e) (fun b hb => by rw [List.mem_singleton.mp hb]; exact own₂) (fun b hb => by rw [List.mem_singleton.mp hb]; exact hfr) (fun b hb => by rw [List.mem_singleton.mp hb]; exact ntp) rfl rfl
 have t₃ : TKeep s₂.heap h' := .but sb.extBut ntp
 refine k ρ₂ lx _ (t₁.trans (t₂.trans t₃)) R₄ (V₂.mono t₃ (PKeep.refl _)) hc' own₂ fun b us n e => ?_
 have nl : b ≠ cx.env.locals := fun q => by
  refine el1_2 R.loc fun m z0_1 _ => ?_; refine el3_3 z0_1 fun o es ep ho' hd' _ => ?_
  rw [q, ho'] at e; cases e; cases hd'
 have e₂ : s₂.heap.get? b = some (lstObj us n) := R₂.keep _ _ e (fun hm => by
  rcases List.mem_cons.mp hm with q | q
  ·exact nl q
  ·cases q)
 refine ⟨fun hm => ?_, sb.extBut _ _ (fun q => by rw [q, ho₂] at e₂; cases e₂; cases hd) e₂⟩
 rcases R₂.own b hm with q | q
 ·rcases List.mem_cons.mp q with q | q
  ·exact nl q
  ·cases q
 ·have q : s.heap.get? b = none := q
  rw [e] at q; cases q
end
end Mine
end
noncomputable section
namespace Mine
open PySem PySem.W PyProof.Rows PySem.Calls PySem.SeqAt
noncomputable def InnerF (F : List Addr) (h : Heap) : List Value → List (List AV) → Prop
 | [], [] => True
 | v :: vs, it :: items => (∃ d us m, v = .ref d ∧ d ∉ F ∧ h.get? d = some (lstObj us m) ∧ VRels h [] it us) ∧ InnerF F h vs items
 | _, _ => False
theorem InnerF.gen {F : List Addr} {h h' : Heap} (kp : ∀ b o, b ∉ F → h.get? b = some o → h'.get? b = some o) (t : TKeep h h') : ∀ {vs : List Value} {items : List (List AV)}, InnerF F h vs items → InnerF F h' vs items
 | [], [], _ => trivial
 | v :: vs, it :: items, ⟨⟨d, us, n, e, nf, g, r⟩, hr⟩ => ⟨⟨d, us, n, e, nf, kp _ _ nf g, r.mono t (PKeep.refl _)⟩, InnerF.gen kp t hr⟩
theorem InnerF.sub {F G : List Addr} {h : Heap} (hs : ∀ b us n, h.get? b = some (lstObj us n) → b ∉ F → b ∉ G) : ∀ {vs : List Value} {items : List (List AV)}, InnerF F h vs items → InnerF G h vs items
 | [], [], _ => trivial
 | v :: vs, it :: items, ⟨⟨d, us, n, e, nf, g, r⟩, hr⟩ => ⟨⟨d, us, n, e, hs _ _ _ g nf, g, r⟩, InnerF.sub hs hr⟩
theorem InnerF.snoc {F : List Addr} {h : Heap} {v : Value} {it : List AV} (hv : ∃ d us m, v = .ref d ∧ d ∉ F ∧ h.get? d = some (lstObj us m) ∧ VRels h [] it us) : ∀ {vs : List Value} {items : List (List AV)}, InnerF F h vs items → InnerF F h (vs ++ [v]) (items ++ [it])
 | [], [], _ => ⟨hv, trivial⟩
 | _ :: _, _ :: _, r => ⟨r.1, InnerF.snoc hv r.2⟩
theorem InnerF.length {F : List Addr} {h : Heap} : ∀ {vs : List Value} {items : List (List AV)}, InnerF F h vs items → vs.length = items.length
 | [], [], _ => rfl
 | _ :: _, _ :: _, r => by simp [InnerF.length r.2]
theorem lows_nil {h : Heap} {ρ : Rho} {xs : List AV} {vs : List Value} (hl : lowAs 0 xs = true) (r : VRels h ρ xs vs) : VRels h [] xs vs := by
 have := r.low' (k := 0) hl
 rwa [List.take_zero] at this
theorem glob_env {prog : Program} {w : World} {K : Frag} {A : Around} {env : Env} (kf : env.scope.kind = .function) {E Q : Value → Shared → Prop} {s : Shared} {x : Str} {v : Value} {p : Pos} (hk : env.kindOf x = some .globalImplicit) (gl : env.globals = mainGlobals) (bi : env.builtins = builtinsNs) (X : K.In s.heap) (hd : (x == ("__debug__" : Str)) = false)
  (g : nsIn K mainGlobals x = some (some v) ∨ (nsIn K mainGlobals x = some none ∧ nsIn K builtinsNs x = some (some v))) (q : Q v s) : wpAny (model prog w) A (eval (.Name x p) env) Q E s := by
 refine Name_function_global kf hk ?_ hd
 unfold loadGlobal
 rw [gl, bi]
 rcases g with g | ⟨g1, g2⟩
 ·exact wpAny_bind ((looks_nsIn X g).here (wpAny_pure q))
 ·exact wpAny_bind ((looks_nsIn X g1).here (wpAny_bind ((looks_nsIn X g2).here (wpAny_pure q))))
section
variable {cx : Cx} {A : Around}
theorem comp_calls (C : CxOk cx) (KO : KOk2 cx.w cx.K) (hA : A.handled = none) {x : Str} {p1 p2 p3 : Pos} {iter : Expr} {px : Pos} {scope : Scope} {pos : Pos} {cl : Addr} {lxv : Value}
  (hcell : ∀ y ∈ scope.names, y.2 ≠ .cell) (hkind : scope.kind = .function) (hx : scope.names.lookup x = some .local)
  (hkL : (relabel scope cx.env).names.lookup ("_law_call" : Str) = some .globalImplicit) (hkX : (relabel scope cx.env).names.lookup ("lexer" : Str) = some .cell)
  {I c : Addr} {cs : List Value} {n : Nat} {L : List (Str × AV)} {O : Nat → List AObj} {its : List (List AV)} (hits : its.length = n) (hn : n ≤ 100000) (hlow : ∀ it ∈ its, lowAs 0 it = true) {ρ : Rho} (hfoot : ∀ i, foot (O i) ρ = foot (O 0) ρ)
  (calls : ∀ i it, its[i]? = some it → ∀ h ρ', CxOk (cx.now h (O i) ρ') → LcOk (cx.now h (O i) ρ') A (mkSt L (O i) []) it (mkSt L (O (i + 1)) []))
  {s : Shared} {E : Value → Shared → Prop} {items : List (List AV)} (RR : Value → Addr → Result → Shared → Prop) (R : Rel cx ρ (mkSt L (O 0) []) s)
  (hI : I ∈ cx.mt ∨ cx.h₀.get? I = none) (hIf : I ∉ cx.env.locals :: foot (O 0) ρ) (hIc : I ≠ c) (hst : s.heap.IsListIter I c 0 ∧ s.heap.IsList c cs.toArray) (hcs : cs.length = n)
  (hc : c ∉ cx.env.locals :: foot (O 0) ρ) (T : InnerF (I :: cx.env.locals :: foot (O 0) ρ) s.heap cs items) (hcl : s.heap.IsCell cl (some lxv)) (hclf : cl ∉ I :: cx.env.locals :: foot (O 0) ρ) (V : VRel s.heap ρ (.obj 0) lxv)
  (k : ∀ s' D Cc m ys, TKeep s.heap s'.heap → s.heap.get? D = none → s.heap.get? Cc = none → D ≠ Cc → s'.heap.Ns Cc m → Rel cx ρ (mkSt L (O n) []) s' → s'.heap.PlainList D ys → s'.heap.IsList c cs.toArray →
   InnerF (I :: D :: Cc :: cx.env.locals :: foot (O 0) ρ) s'.heap ys.toList its → InnerF (I :: D :: Cc :: cx.env.locals :: foot (O 0) ρ) s'.heap cs items → RR (.ref D) Cc (.ok .next) s') :
  wpAny (model cx.prog cx.w) A (newList []) (fun acc s₃ => wpAny (model cx.prog cx.w) A (newFunctionEnv scope cx.env.globals [("lexer", cl)] [] cx.env.qual none .none (some cx.env)) (fun cenv s₄ =>
   codeAny (model cx.prog cx.w) A (.compStart (.ListComp (.Call (.Name "_law_call" p1) [.Name "lexer" p2] [] p3) [⟨.Name x px, iter, [], 0⟩] scope pos) 0 (.ref I) acc { cenv with scope := relabel scope cx.env }) (RR acc cenv.locals) s₄) E s₃) E s := by
 refine wpAny_newObj_type (wpAny_newFunctionEnv hcell (by intro y hy; simp at hy) (fun h₁ hns₁ hsb₁ => ?_) hkind) (size_list (by decide))
 dsimp only at hns₁ hsb₁ ⊢
 generalize hD : s.heap.objs.size = D at hns₁ hsb₁ ⊢
 generalize hC : (s.heap.push { cls := .type "list", dict := none, data := .seq ([] : List Value).toArray }).objs.size = Cc at hns₁ hsb₁ ⊢
 have hCD : Cc = D + 1 := by rw [← hC, Heap.size_push, hD]
 have nD : s.heap.get? D = none := by rw [← hD]; exact no_get _
 have nC : s.heap.get? Cc = none := by
  cases q : s.heap.get? Cc with
  | none => rfl
  | some o => have := Heap.lt_size q; rw [hCD, hD] at this; exact absurd this (Nat.not_lt.mpr (Nat.le_succ _))
 have neDC : D ≠ Cc := by rw [hCD]; exact Nat.ne_of_lt (Nat.lt_succ_self _)
 have old : ∀ b o, s.heap.get? b = some o → h₁.get? b = some o := fun b o e => hsb₁.extBut b o (fun q => by rw [q, nC] at e; cases e) (push_keep _ _ (push_keep _ _ e))
 have hD1 : h₁.PlainList D #[] := ⟨0, hsb₁.extBut _ _ neDC (push_keep _ _ (by rw [← hD]; exact Heap.get?_push_size _ rfl))⟩
 have hns : h₁.Ns Cc (fun _ => none) := hns₁
 have bn : ∀ b o, s.heap.get? b = some o → b ≠ D ∧ b ≠ Cc := fun b o e => ⟨fun q => (by rw [q, nD] at e; cases e), fun q => (by rw [q, nC] at e; cases e)⟩
 have W := Walks.list (prog := cx.prog) (w := cx.w) hA I c hIc.symm cs.toArray
 rw [List.size_toArray, hcs] at W
 have hDF : D ∉ cx.env.locals :: foot (O 0) ρ := R.nowhere nD
 have hCF : Cc ∉ cx.env.locals :: foot (O 0) ρ := R.nowhere nC
 have hID : I ≠ D := (bn I _ hst.1.choose_spec.1).1
 have hIC : I ≠ Cc := (bn I _ hst.1.choose_spec.1).2
 have hcD : c ≠ D := (bn c _ hst.2.choose_spec.1).1
 have hcC : c ≠ Cc := (bn c _ hst.2.choose_spec.1).2
 have WT : WrS [I] (fun i h => h.IsListIter I c i ∧ h.IsList c cs.toArray) := fun i h st b hb => by
  rw [List.mem_singleton.mp hb]
  obtain ⟨⟨o, ho, _, hd⟩, _⟩ := st
  exact ⟨fun vs c q => (by rw [ho] at q; cases q; cases hd), by rw [ho]; simp⟩
 have hCm : Cc ∈ cx.mt ∨ cx.h₀.get? Cc = none := (R.newAddr nC).symm
 have hDm : D ∈ cx.mt ∨ cx.h₀.get? D = none := (R.newAddr nD).symm
 have st₁ : h₁.IsListIter I c 0 ∧ h₁.IsList c cs.toArray := ⟨let ⟨o, a, b⟩ := hst.1; ⟨o, old _ _ a, b⟩, let ⟨o, a, b⟩ := hst.2; ⟨o, old _ _ a, b⟩⟩
 have T₁ : InnerF (I :: D :: Cc :: cx.env.locals :: foot (O 0) ρ) h₁ cs items := by
  have T₀ : InnerF (I :: D :: Cc :: cx.env.locals :: foot (O 0) ρ) s.heap cs items := T.sub fun b us m g hb h => by
   rcases List.mem_cons.mp h with e | h
   ·exact hb (e ▸ .head _)
   rcases List.mem_cons.mp h with e | h
   ·exact (bn b _ g).1 e
   rcases List.mem_cons.mp h with e | h
   ·exact (bn b _ g).2 e
   ·exact hb (.tail _ h)
  exact T₀.gen (fun b o _ e => old b o e) (.of old)
 -- the loop
 have loop : ∀ s₃ : Shared, s₃ = { s with heap := h₁, toks := s.toks + ([] : List (Str × Value)).length } →
   codeAny (model cx.prog cx.w) A (.compLoop (.ListComp (.Call (.Name "_law_call" p1) [.Name "lexer" p2] [] p3) [⟨.Name x px, iter, [], 0⟩] scope pos) 0 (.ref I) (.ref D) (compEnvC scope [("lexer", cl)] Cc cx.env))
    (RR (.ref D) Cc) s₃ := by
  intro s₃ hs₃
  refine codeAny_compLoop_list (fun k s' => ∃ i ys m, i + k = n ∧ Rel cx ρ (mkSt L (O i) []) s' ∧ (s'.heap.IsListIter I c i ∧ s'.heap.IsList c cs.toArray) ∧ s'.heap.PlainList D ys ∧ s'.heap.Ns Cc m ∧
   InnerF (I :: D :: Cc :: cx.env.locals :: foot (O 0) ρ) s'.heap ys.toList (its.take i) ∧ InnerF (I :: D :: Cc :: cx.env.locals :: foot (O 0) ρ) s'.heap cs items ∧ s'.heap.IsCell cl (some lxv) ∧ TKeep s.heap s'.heap) (fun j s' hI' => ?_) n
   ⟨0, #[], _, by lia, by rw [hs₃]; exact R.ext old rfl rfl, by rw [hs₃]; exact st₁, by rw [hs₃]; exact hD1, by rw [hs₃]; exact hns, trivial, by rw [hs₃]; exact T₁, by rw [hs₃]; exact hcl.keeps old, by rw [hs₃]; exact .of old⟩
  obtain ⟨i, ys, m, hij, R', hSt, hPl, hNs, hY, hT, hcl', tk'⟩ := hI'
  have ncl : cl ∉ I :: D :: Cc :: cx.env.locals :: foot (O 0) ρ := fun h => by
   refine el1_2 hcl fun o ho _ => ?_
   rcases List.mem_cons.mp h with e | h
   ·exact hclf (e ▸ .head _)
   rcases List.mem_cons.mp h with e | h
   ·exact (bn cl _ ho).1 e
   rcases List.mem_cons.mp h with e | h
   ·exact (bn cl _ ho).2 e
   ·exact hclf (.tail _ h)
  have wI : ∀ b ∈ [I], b ∈ cx.mt ∨ cx.h₀.get? b = none := fun b hb => by rw [List.mem_singleton.mp hb]; exact hI
  by_cases hlt : i < n
  ·refine W.item i s' _ _ hlt hSt fun v h₂ tk₂ hPv hSt₂ hk₂ => ?_
   have T₂ : TKeep s'.heap h₂ := fun a vs c e => hk₂ a _ (fun hb => (WT i _ hSt a hb).1 vs c e) e
   have R₂ : Rel cx ρ (mkSt L (O i) []) { s' with heap := h₂, toks := tk₂ } := R'.aside (s' := { s' with heap := h₂, toks := tk₂ }) (wr := [I]) rfl hk₂ (fun b hb => by rw [List.mem_singleton.mp hb]; show I ∉ cx.env.locals :: foot (O i) ρ; rw [hfoot]; exact hIf) wI (fun b hb => (WT i _ hSt b hb).1) rfl rfl
   have hNs₂ : h₂.Ns Cc m := hNs.at' fun o e => hk₂ _ o (fun q => hIC (List.mem_singleton.mp q).symm) e
   refine wpAny_assign_Name (wpAny_storeName_local (lookup_relabel_local hx) hNs₂ (fun h₃ hn₃ hs₃' => ?_) (by simp [compEnvC, relabel, hkind]))
   have ntC : ∀ vs c, h₂.get? Cc ≠ some (tupObj vs c) := fun vs c q => by
    refine el3_3 hNs₂ fun o es ep ho hd _ => ?_
    rw [ho] at q; cases q; cases hd
   have T₃ : TKeep h₂ h₃ := .but hs₃'.extBut ntC
   generalize hs4 : ({ s' with heap := h₃, toks := tk₂ + 1 } : Shared) = s₄
   have e₄ : s₄.heap = h₃ := by rw [← hs4]
   have kp₄ : ∀ b o, b ∉ I :: D :: Cc :: cx.env.locals :: foot (O 0) ρ → s'.heap.get? b = some o → s₄.heap.get? b = some o := fun b o hb e => by
    rw [e₄]
    exact hs₃'.extBut b o (fun q => hb (q ▸ .tail _ (.tail _ (.head _)))) (hk₂ b o (fun q => hb ((List.mem_singleton.mp q) ▸ .head _)) e)
   have T₄ : TKeep s'.heap s₄.heap := by rw [e₄]; exact T₂.trans T₃
   have R₄ : Rel cx ρ (mkSt L (O i) []) s₄ := by
    rw [← hs4]
    exact R₂.aside (s' := { s' with heap := h₃, toks := tk₂ + 1 }) (wr := [Cc]) rfl (fun b o hb e => hs₃'.extBut b o (fun q => hb (List.mem_singleton.mpr q)) e) (fun b hb => by rw [List.mem_singleton.mp hb]; show Cc ∉ cx.env.locals :: foot (O i) ρ; rw [hfoot]; exact hCF) (fun b hb => by rw [List.mem_singleton.mp hb]; exact hCm) (fun b hb => by rw [List.mem_singleton.mp hb]; exact ntC) rfl rfl
   have hNs₄ : s₄.heap.Ns Cc (fun y => if y = x then some v else m y) := by rw [e₄]; exact hn₃
   have hcl₄ : s₄.heap.IsCell cl (some lxv) := let ⟨o, ho, hd⟩ := hcl'; ⟨o, kp₄ _ _ ncl ho, hd⟩
   -- the element
   have hl := KO.gl2 ("_law_call", .ref 824) (by decide +kernel)
   have X₄ : cx.K.In s₄.heap := R₄.kin C
   have hkf : (compEnvC scope [("lexer", cl)] Cc cx.env).scope.kind = .function := hkind
   refine Call_name (glob_env hkf hkL C.gl C.bi X₄ (by decide +kernel) hl.1 (callWith_ok (K := cx.K) (es := [_]) rfl (fun h X => keeps_K (hl.2 824 rfl) h X) (spliced_more (wpAny_Name (wpAny_loadName_cell hkf hkX (by kernel_rfl) hcl₄ ?_) (by decide +kernel)) rfl)))
   refine Calls.spliced_nil ⟨X₄, wpAny_call ?_⟩
   have hil : i < its.length := by lia
   have hit : its[i]? = some its[i] := List.getElem?_eq_getElem hil
   generalize its[i] = it at hit
   have hmem : it ∈ its := List.mem_of_getElem? hit
   have hlu := hY.length
   have hys : ys.size = i := by rw [← Array.length_toList, hlu, List.length_take]; lia
   have hPl₄ : s₄.heap.PlainList D ys := by rw [e₄]; exact (hPl.at fun o e => hk₂ _ o (fun q => hID (List.mem_singleton.mp q).symm) e).extBut hs₃'.extBut neDC
   refine calls i it hit s₄.heap ρ (C.now R₄) ρ s₄ [lxv] _ (R₄.now rfl) (.cons _ _ _ _ (V.mono (tk'.trans T₄) (PKeep.refl _)) .nil) fun s₅ a xs t₅ R₅ na ha Va => ?_
   have kp₅ : ∀ b o, b ∉ cx.env.locals :: foot (O 0) ρ → s₄.heap.get? b = some o → s₅.heap.get? b = some o := fun b o hb e => R₅.keep b o e (by show b ∉ cx.env.locals :: foot (O i) ρ; rw [hfoot]; exact hb)
   have R₅' := R₄.then R₅ rfl
   have hPl₅ : s₅.heap.PlainList D ys := hPl₄.at fun o e => kp₅ _ o hDF e
   refine wpAny_list_append_plain (hsz := by rw [hys]; have : (100000 : Nat) ≤ sizeLine := (by decide); lia) hPl₅ fun h₆ hPl₆ hs₆ => ?_
   have ntD : ∀ vs c, s₅.heap.get? D ≠ some (tupObj vs c) := fun vs c q => by
    refine el1_1 hPl₅ fun nn e => ?_
    rw [e] at q
    exact absurd (congrArg (Option.map Obj.cls) q) (by simp)
   have T₆ : TKeep s₅.heap h₆ := .but hs₆.extBut ntD
   have R₆ : Rel cx ρ (mkSt L (O (i + 1)) []) { s₅ with heap := h₆ } := R₅'.aside (s' := { s₅ with heap := h₆ }) (wr := [D]) rfl (fun b o hb e => hs₆.extBut b o (fun q => hb (by simp [q])) e) (fun b hb => by rw [List.mem_singleton.mp hb]; show D ∉ cx.env.locals :: foot (O (i + 1)) ρ; rw [hfoot]; exact hDF) (fun b hb => by rw [List.mem_singleton.mp hb]; exact hDm) (fun b hb => by rw [List.mem_singleton.mp hb]; exact ntD) rfl rfl
   -- what stands beside
   have kp₆ : ∀ b o, b ∉ I :: D :: Cc :: cx.env.locals :: foot (O 0) ρ → s'.heap.get? b = some o → h₆.get? b = some o := fun b o hb e =>
    hs₆.extBut b o (fun q => hb (q ▸ .tail _ (.head _))) (kp₅ b o (fun q => hb (.tail _ (.tail _ (.tail _ q)))) (kp₄ b o hb e))
   have T₇ : TKeep s'.heap h₆ := T₄.trans (t₅.trans T₆)
   have lt₄ : ∀ b o, s₄.heap.get? b = some o → b ≠ a := fun b o e q => by rw [q, na] at e; exact nS e
   have naG : a ∉ I :: D :: Cc :: cx.env.locals :: foot (O 0) ρ := fun h => by
    rcases List.mem_cons.mp h with e | h
    ·refine el0_2 hSt₂ fun z0_0 _ => ?_; refine el1_2 z0_0 fun o ho _ => ?_
     exact lt₄ I o (by rw [e₄]; exact hs₃'.extBut _ _ hIC ho) e.symm
    rcases List.mem_cons.mp h with e | h
    ·refine el1_1 hPl₄ fun nn ho => ?_
     exact lt₄ D _ ho e.symm
    rcases List.mem_cons.mp h with e | h
    ·refine el3_2 hNs₄ fun o _ _ ho _ => ?_
     exact lt₄ Cc o ho e.symm
    ·exact R₄.nowhere na (by show a ∈ cx.env.locals :: foot (O i) ρ; rw [hfoot]; exact h)
   refine ⟨j - 1, by lia, i + 1, ys.push (.ref a), _, by lia, R₆, ?_, hPl₆, (hNs₄.at' fun o e => kp₅ _ o hCF e).sameBut hs₆ neDC.symm, ?_, hT.gen kp₆ T₇, ?_, tk'.trans T₇⟩
   ·refine W.frame _ _ _ hSt₂ fun b hb o e => ?_
    have hb' : b ≠ D ∧ b ≠ Cc ∧ b ∉ cx.env.locals :: foot (O 0) ρ := by
     rcases List.mem_cons.mp hb with q | q
     ·rw [q]; exact ⟨hID, hIC, hIf⟩
     ·rw [List.mem_singleton.mp q]; exact ⟨hcD, hcC, hc⟩
    exact hs₆.extBut b o hb'.1 (kp₅ b o hb'.2.2 (by rw [e₄]; exact hs₃'.extBut b o hb'.2.1 e))
   ·rw [Array.toList_push, List.take_add_one, hit]
    refine (hY.gen kp₆ T₇).snoc ⟨a, xs, 0, rfl, naG, hs₆.extBut _ _ (fun q => naG (q ▸ .tail _ (.head _))) ha, ?_⟩
    exact lows_nil (hlow it hmem) (Va.mono T₆ (PKeep.refl _))
   ·refine el1_2 hcl' fun o ho hd => ?_
    exact ⟨o, kp₆ _ _ ncl ho, hd⟩
  ·have hin : i = n := by lia
   subst hin
   refine W.done s' _ _ hSt fun h₂ tk₂ hk₂ => ?_
   have T₂ : TKeep s'.heap h₂ := fun a vs c e => hk₂ a _ (fun hb => (WT i _ hSt a hb).1 vs c e) e
   have R₂ : Rel cx ρ (mkSt L (O i) []) { s' with heap := h₂, toks := tk₂ } := R'.aside (s' := { s' with heap := h₂, toks := tk₂ }) (wr := [I]) rfl hk₂ (fun b hb => by rw [List.mem_singleton.mp hb]; show I ∉ cx.env.locals :: foot (O i) ρ; rw [hfoot]; exact hIf) wI (fun b hb => (WT i _ hSt b hb).1) rfl rfl
   have kp₂ : ∀ b o, b ∉ I :: D :: Cc :: cx.env.locals :: foot (O 0) ρ → s'.heap.get? b = some o → h₂.get? b = some o := fun b o hb e => hk₂ b o (fun q => hb ((List.mem_singleton.mp q) ▸ .head _)) e
   have hY' := hY.gen kp₂ T₂
   rw [List.take_of_length_le (by lia)] at hY'
   refine k _ D Cc m ys (tk'.trans T₂) nD nC neDC (hNs.at' fun o e => hk₂ _ o (fun q => hIC (List.mem_singleton.mp q).symm) e) R₂ (hPl.at fun o e => hk₂ _ o (fun q => hID (List.mem_singleton.mp q).symm) e) ?_ hY' (hT.gen kp₂ T₂)
   refine el1_2 hSt.2 fun o ho hr => ?_
   exact ⟨o, hk₂ _ _ (fun q => hIc (List.mem_singleton.mp q).symm) ho, hr⟩
 exact codeAny_compStart_list (loop _ rfl) (W.self 0 _ _ _ st₁ (loop _ rfl))
end
end Mine
end
noncomputable section
namespace Mine
open PySem PySem.W PyProof.Rows PySem.Calls PySem.SeqAt
noncomputable def lw8 : (Pos × Pos × Pos × Pos × Pos) × (Scope × Pos × Pos × Pos × Pos) := match lwB.drop 7 with
 | .Return (some (.Compare (.ListComp (.Call (.Name _ p1) [.Name _ p2] _ p3) [⟨.Name _ px, .Name _ p4, _, _⟩] sc p5) _ [.Name _ p6] p7)) p8 :: _ => ((p1, p2, p3, px, p4), (sc, p5, p6, p7, p8))
 | _ => default
theorem lw8_eq : lwB.drop 7 = [.Return (some (.Compare (.ListComp (.Call (.Name "_law_call" lw8.1.1) [.Name "lexer" lw8.1.2.1] [] lw8.1.2.2.1) [⟨.Name "step" lw8.1.2.2.2.1, .Name "told" lw8.1.2.2.2.2, [], 0⟩] lw8.2.1 lw8.2.2.1) [.Eq] [.Name "told" lw8.2.2.2.1] lw8.2.2.2.2.1)) lw8.2.2.2.2.2] := by kernel_rfl
theorem close8 {env : Env} (h : env.scope = scopeOf dLaw) {cl : Addr} (hc : env.cells = [(("lexer" : Str), cl)]) : closureFor lw8.2.1 env = pure [(("lexer" : Str), cl)] := by
 obtain ⟨sc, a, b, c, d, e, f, g, i⟩ := env
 dsimp only at h hc
 subst h
 subst hc
 kernel_rfl
theorem relab8 {env : Env} (h : env.scope = scopeOf dLaw) : (relabel lw8.2.1 env).names.lookup ("_law_call" : Str) = some .globalImplicit ∧ (relabel lw8.2.1 env).names.lookup ("lexer" : Str) = some .cell := by
 obtain ⟨sc, a, b, c, d, e, f, g, i⟩ := env
 dsimp only at h
 subst h
 exact ⟨by kernel_rfl, by kernel_rfl⟩
theorem foot_lx (a a' b b' : AV) (l l' : Int) (wc wc' pc pc' t t' : Str) (p p' : Int) (q q' : List AV) (ρ : Rho) : foot (lxTab a b l wc pc t p q) ρ = foot (lxTab a' b' l' wc' pc' t' p' q') ρ := by
 match ρ with
 | [] => rfl
 | [(_, _)] => rfl
 | [(_, _), (_, _)] => rfl
 | [(_, _), (_, _), (_, _)] => rfl
 | [(_, _), (_, _), (_, _), (_, _)] => rfl
 | (_, _) :: (_, _) :: (_, _) :: (_, _) :: (_, _) :: _ => rfl
noncomputable def SameA (a b : AV) : Prop := (a = .none ∧ b = .none) ∨ (∃ i : Int, (a = .int i ∨ a = .sint i) ∧ (b = .int i ∨ b = .sint i)) ∨ ∃ x : Str, (a = .str x ∨ a = .sstr x) ∧ (b = .str x ∨ b = .sstr x)
inductive SameL : List AV → List AV → Prop
 | nil : SameL [] []
 | cons {a b : AV} {as bs : List AV} (h : SameA a b) (r : SameL as bs) : SameL (a :: as) (b :: bs)
inductive SameT : List (List AV) → List (List AV) → Prop
 | nil : SameT [] []
 | cons {a b : List AV} {as bs : List (List AV)} (h : SameL a b) (r : SameT as bs) : SameT (a :: as) (b :: bs)
theorem SameT.length {a b : List (List AV)} (h : SameT a b) : a.length = b.length := by
 induction h with
 | nil => rfl
 | cons _ _ ih => simp [ih]
theorem eq_sameA {A : Around} {s : Shared} {h : Heap} {ρ ρ' : Rho} {a b : AV} {v w : Value} (S : SameA a b) (ra : VRel h ρ a v) (rb : VRel h ρ' b w) : EqAt A s v w true := by
 rcases S with ⟨rfl, rfl⟩ | ⟨i, ha, hb⟩ | ⟨x, ha, hb⟩
 ·w_dflts ra; w_dflts rb; exact EqAt.same _
 ·have h1 : ∃ t, v = .int i t := by rcases ha with rfl | rfl <;> w_dflts ra <;> exact ⟨_, rfl⟩
  have h2 : ∃ t, w = .int i t := by rcases hb with rfl | rfl <;> w_dflts rb <;> exact ⟨_, rfl⟩
  obtain ⟨t, rfl⟩ := h1
  obtain ⟨u, rfl⟩ := h2
  have := EqAt.int_int (A := A) (s := s) i t i u
  rwa [beq_self_eq_true] at this
 ·have h1 : ∃ t, v = .str x t := by rcases ha with rfl | rfl <;> w_dflts ra <;> exact ⟨_, rfl⟩
  have h2 : ∃ t, w = .str x t := by rcases hb with rfl | rfl <;> w_dflts rb <;> exact ⟨_, rfl⟩
  obtain ⟨t, rfl⟩ := h1
  obtain ⟨u, rfl⟩ := h2
  have := EqAt.str_str (A := A) (s := s) x t x u
  rwa [beq_self_eq_true] at this
theorem eqs_same {A : Around} {s : Shared} {h : Heap} {ρ ρ' : Rho} : ∀ {as bs : List AV} {vs ws : List Value}, SameL as bs → VRels h ρ as vs → VRels h ρ' bs ws → vs.length = ws.length ∧ ∀ (j : Nat) (v w : Value), vs[j]? = some v → ws[j]? = some w → EqAt A s v w true := by
 intro as bs vs ws S
 induction S generalizing vs ws with
 | nil =>
  intro V W
  obtain rfl := V.nil_inv
  obtain rfl := W.nil_inv
  exact ⟨rfl, fun j v w e _ => by cases j <;> cases e⟩
 | cons S r ih =>
  intro V W
  obtain ⟨_, _, rfl, ra, rs⟩ := V.cons_inv
  obtain ⟨_, _, rfl, rb, rt⟩ := W.cons_inv
  refine el0_2 (ih rs rt) fun h1 h2 => ?_
  refine ⟨by simp [h1], fun j v w e f => ?_⟩
  rcases j with _ | j
  ·cases e; cases f; exact eq_sameA S ra rb
  ·exact h2 j v w e f
theorem all_true (n : Nat) : ((List.range n).all fun _ => true) = true := by simp
theorem eqt_same {A : Around} {s : Shared} {F G : List Addr} (hu : A.units < cLine) {as bs : List (List AV)} (S : SameT as bs) : ∀ {vs ws : List Value}, InnerF F s.heap vs as → InnerF G s.heap ws bs → vs.length = ws.length ∧ ∀ (j : Nat) (v w : Value), vs[j]? = some v → ws[j]? = some w → EqAt A s v w true := by
 induction S with
 | nil =>
  intro vs ws h1 h2
  cases vs with
  | cons => exact h1.elim
  | nil =>
   cases ws with
   | cons => exact h2.elim
   | nil => exact ⟨rfl, fun j v w e _ => by cases j <;> cases e⟩
 | cons S r ih =>
  intro vs ws h1 h2
  rcases vs with _ | ⟨v, vs⟩
  ·exact h1.elim
  ·
   rcases ws with _ | ⟨w, ws⟩
   ·exact h2.elim
   ·
    refine el0_2 h1 fun z0_0 hv => ?_; refine el3_4 z0_0 fun d us m q1_3 _ g ru => ?_; subst q1_3
    refine el0_2 h2 fun z0_0 hw => ?_; refine el3_4 z0_0 fun d' us' m' q1_3 _ g' ru' => ?_; subst q1_3
    refine el0_2 (ih hv hw) fun h1 h2 => ?_
    refine ⟨by simp [h1], fun j v w e f => ?_⟩
    rcases j with _ | j
    ·
     cases e; cases f
     by_cases q : d = d'
     ·rw [q]; exact EqAt.same _
     ·refine el0_2 (eqs_same (A := A.in1) (s := s) S ru ru') fun k1 k2 => ?_
      have := RcAt.lists (A := A) (s := s) (l := d) (b := d') (items := us.toArray) (items2 := us'.toArray) (e := fun _ => true) ⟨_, g, rfl, m, rfl⟩ ⟨_, g', rfl, m', rfl⟩ (by simp [k1]) hu (fun j h1 h2 => k2 j _ _ (by simp) (by simp))
      rw [all_true] at this
      exact EqAt.of_refs q this
    ·exact h2 j v w e f
theorem InnerF.ofL {F : List Addr} {h h' : Heap} (hf : ∀ b us n, h.get? b = some (lstObj us n) → b ∉ F ∧ h'.get? b = some (lstObj us n)) (t : TKeep h h') : ∀ {vs : List Value} {items : List (List AV)}, InnerAt h vs items → InnerF F h' vs items
 | [], [], _ => trivial
 | v :: vs, it :: items, ⟨⟨d, us, n, e, g, r⟩, hr⟩ => ⟨⟨d, us, n, e, (hf _ _ _ g).1, (hf _ _ _ g).2, r.mono t (PKeep.refl _)⟩, InnerF.ofL hf t hr⟩
section
variable {cx : Cx} {A : Around}
theorem lw_s8 (C : CxOk cx) (KO : KOk2 cx.w cx.K) (hsc : cx.env.scope = scopeOf dLaw) {kk : Nat} (Rm : Room A (kk + 3)) {c a b : Addr} {v : Value} {x y : Str} {f : Int} {wc pc : Str} {items its : List (List AV)} {n : Nat} {cl lx : Addr}
  {O : Nat → List AObj} (hO : ∀ i, ∃ a t ln p pb, O i = lxTab a t ln wc pc y p pb) (hits : its.length = n) (hn : n ≤ 100000) (hlow : ∀ it ∈ its, lowAs 0 it = true) (same : SameT its items) {ρ : Rho}
  (calls : ∀ i it, its[i]? = some it → ∀ h ρ', CxOk (cx.now h (O i) ρ') → LcOk (cx.now h (O i) ρ') A (mkSt (lwL6 c a b v x f) (O i) []) it (mkSt (lwL6 c a b v x f) (O (i + 1)) []))
  {s₀ s : Shared} {Q : Flow → Shared → Prop} {E : Value → Shared → Prop} (R : Rel cx ρ (mkSt (lwL6 c a b v x f) (O 0) []) s) (T : ToldAt s₀.heap c items) (t₀ : TKeep s₀.heap s.heap)
  (hls : ∀ b us n, s₀.heap.get? b = some (lstObj us n) → b ∉ cx.env.locals :: foot (O 0) ρ ∧ s.heap.get? b = some (lstObj us n))
  (hcells : cx.env.cells = [(("lexer" : Str), cl)]) (hcl : s.heap.IsCell cl (some (.ref lx))) (hclf : cl ∉ cx.env.locals :: foot (O 0) ρ) (V : VRel s.heap ρ (.obj 0) (.ref lx))
  (k : ∀ s', Rel cx ρ (mkSt (lwL6 c a b v x f) (O n) []) s' → Q (.ret (.bool true)) s') :
  wpAny (model cx.prog cx.w) A (execs (lwB.drop 7) cx.env) Q E s := by
 have hA := Rm.handled
 have hu : A.in1.units < cLine := by have := Rm.units; simp only [Around.in1_units]; lia
 have kT : cx.env.kindOf "told" = some .local := by show cx.env.scope.names.lookup _ = _; rw [hsc]; kernel_rfl
 refine el0_2 (relab8 hsc) fun hk1 hk2 => ?_
 have hfoot : ∀ i, foot (O i) ρ = foot (O 0) ρ := fun i => by
  refine el5_1 (hO i) fun _ _ _ _ _ e => ?_
  refine el5_1 (hO 0) fun _ _ _ _ _ e' => ?_
  rw [e, e']; exact foot_lx ..
 refine el2_2 T fun cs cn hc₀ hin₀ => ?_
 refine el0_2 (hls c cs cn hc₀) fun hcf hc => ?_
 have hin : InnerF (cx.env.locals :: foot (O 0) ρ) s.heap cs items := InnerF.ofL hls t₀ hin₀
 have hcsn : cs.length = n := by rw [hin.length, ← same.length, hits]
 rw [lw8_eq]
 refine wpAny_execs_cons (wpAny_Return_some (wpAny_Compare1 ?_))
 rw [eval_ListComp]
 refine wpAny_comprehension_free (use := none) rfl (fun _ => rfl) (close8 hsc hcells) (by decide +kernel) (by decide +kernel) (local_name C R kT (by decide +kernel) (av := .val (.ref c)) (by kernel_rfl) fun w r => ?_)
 w_dflts r
 refine wpAny_pyIter_list ⟨_, hc, rfl, cn, rfl⟩ ?_
 have n₁ := no_get s.heap
 generalize hs₂ : ({ s with heap := s.heap.push { cls := .type "list_iterator", data := .fields #[.ref c, .int 0 0] } } : Shared) = s₂
 have kp₂ : ∀ b o, s.heap.get? b = some o → s₂.heap.get? b = some o := by rw [← hs₂]; exact push_keep
 have R₂ : Rel cx ρ (mkSt (lwL6 c a b v x f) (O 0) []) s₂ := by rw [← hs₂]; exact R_pushed R _
 have e₂ : s₂.heap.get? s.heap.objs.size = some { cls := .type "list_iterator", data := .fields #[.ref c, .int 0 0] } := by rw [← hs₂]; exact Heap.get?_push_size _ rfl
 have nI : ∀ b o, s.heap.get? b = some o → b ≠ s.heap.objs.size := fun b o e q => by rw [q, n₁] at e; exact nS e
 refine el1_2 (id hcl) fun oc hoc hoc' => ?_
 refine comp_calls C KO hA (cs := cs) (n := n) (L := lwL6 c a b v x f) (O := O) (its := its) (lxv := .ref lx) (items := items) (by decide +kernel) (by decide +kernel) (by decide +kernel) hk1 hk2 hits hn hlow hfoot calls (fun acc Cc => compPost (model cx.prog cx.w) A E none _ acc Cc) R₂ (R.newAddr n₁).symm (R.nowhere n₁) (nI c _ hc).symm
  ⟨⟨_, e₂, rfl, rfl⟩, ⟨_, kp₂ _ _ hc, rfl, cn, rfl⟩⟩ hcsn hcf ?_ (hcl.keeps kp₂) (fun h => ?_) (V.mono (.of kp₂) (PKeep.refl _)) fun s' D Cc m ys t' nD nC neDC hN R' hD hc' hY hT => ?_
 ·refine (hin.sub (G := s.heap.objs.size :: cx.env.locals :: foot (O 0) ρ) fun b us m g hb h => ?_).gen (fun b o _ e => kp₂ b o e) (.of kp₂)
  rcases List.mem_cons.mp h with e | h
  ·exact nI b _ g e
  ·exact hb h
 ·rcases List.mem_cons.mp h with e | h
  ·exact nI cl _ hoc e
  ·exact hclf h
 ·refine ⟨m, hN, fun h' sb => ?_⟩
  have nm : Cc ∉ cx.env.locals :: foot (O n) ρ := by rw [hfoot]; exact R₂.nowhere nC
  refine el0_2 (R'.let_go rfl hN nm (R₂.newAddr nC).symm sb) fun R₃ t₃ => ?_
  refine local_name C R₃ kT (by decide +kernel) (av := .val (.ref c)) (by kernel_rfl) fun w r => ?_
  w_dflts r
  have hc₃ : Heap.IsList h' c cs.toArray := hc'.extBut sb.extBut (fun q => by have := kp₂ _ _ hc; rw [q, nC] at this; exact nS this)
  have gk : ∀ b o, b ∉ s.heap.objs.size :: D :: Cc :: cx.env.locals :: foot (O 0) ρ → s'.heap.get? b = some o → h'.get? b = some o := fun b o hb e => sb.extBut b o (fun q => hb (q ▸ .tail _ (.tail _ (.head _)))) e
  refine el0_2 (eqt_same (A := A.in1) (s := { s' with heap := h' }) hu same (hY.gen gk t₃) (hT.gen gk t₃)) fun q1 q2 => ?_
  refine RcAt.lists (A := A) (e := fun _ => true) (hD.extBut sb.extBut neDC).isList hc₃ (by simpa using q1) (by have := Rm.units; lia) (fun j h1 h2 => q2 j _ _ (by simp) (by simp)) _ _ _ _ ?_
  rw [all_true]
  exact k _ R₃
end
end Mine
end
noncomputable section
namespace Mine
open PySem PySem.W PyProof.Rows PySem.Calls PySem.SeqAt
inductive Call1 (wc pc b : Str) : Cf → List AV → Cf → Prop
 | ok {cf cf' : Cf} {n : Nat} (L : Loop wc pc b n { cf with q := false, esc := " " } cf') : Call1 wc pc b cf [rtOut cf', .sint cf'.ln] { cf' with t := "" }
 | raise {cf cf' : Cf} {n : Nat} {msg sx : Str} (L : LoopX wc pc b msg n { cf with q := false, esc := " " } cf') (hs : cf'.st = .str sx) : Call1 wc pc b cf [.str msg, .sint cf'.ln, .str sx, .sstr cf'.t] cf'
inductive CallsR (wc pc b : Str) : Cf → List (List AV) → Prop
 | nil (cf : Cf) : CallsR wc pc b cf []
 | cons {cf cf' : Cf} {it : List AV} {its : List (List AV)} (h : Call1 wc pc b cf it cf') (r : CallsR wc pc b cf' its) : CallsR wc pc b cf (it :: its)
theorem CallsR.seq {wc pc b : Str} {cf : Cf} {its : List (List AV)} (h : CallsR wc pc b cf its) : ∃ C : Nat → Cf, C 0 = cf ∧ ∀ (i : Nat) (it : List AV), its[i]? = some it → Call1 wc pc b (C i) it (C (i + 1)) := by
 induction h with
 | nil cf => exact ⟨fun _ => cf, rfl, fun i it e => by cases i <;> cases e⟩
 | @cons cf cf' it its h r ih =>
  refine el1_2 ih fun C h0 hC => ?_
  refine ⟨fun i => match i with | 0 => cf | i + 1 => C i, rfl, fun i it' e => ?_⟩
  rcases i with _ | i
  ·cases e; show Call1 wc pc b cf it (C 0); rw [h0]; exact h
  ·exact hC i it' e
noncomputable def lxS (wc pc b : Str) (cf : Cf) : List AObj := lxOf wc pc b cf (.sstr cf.t)
theorem lx_tok (wc pc b : Str) (cf : Cf) : SmT (lxOf wc pc b cf (.str "")) (lxS wc pc b { cf with t := "" }) := by
 unfold lxS lxOf lxTab lxObj
 refine .cons _ _ _ _ (.inst _ _ _ ?_) (.refl _)
 iterate 15 refine .cons _ _ _ _ _ (.same _) ?_
 exact .cons _ _ _ _ _ (.str _) (.refl _)
theorem call1_ok {cx : Cx} {A : Around} {k : Nat} (G : Gd2 cx A (k + 8)) (hfr : A.frames = some [cx.env]) (hef : cx.env.frame = some cx.env.locals) {wc pc b : Str} (pz : pc.length ≤ sizeLine) (pn : ((pc.length : Int) != 0) = true) (bz : b.length ≤ sizeLine) {cf cf' : Cf} {it : List AV} (h : Call1 wc pc b cf it cf') {L : List (Str × AV)} :
  LcOk cx A (mkSt L (lxS wc pc b cf) []) it (mkSt L (lxS wc pc b cf') []) := by
 cases h with
 | ok Lp =>
  intro ρ s vs R R₀ V kv
  exact lc_ok G (st := mkSt L (lxS wc pc b cf) []) pz pn bz Lp rfl ρ s vs R R₀ V fun s' a xs t' R' na ha V' => kv s' a xs t' (R'.swap ⟨.refl _, lx_tok _ _ _ _, rfl⟩) na ha V'
 | raise Lp hs => exact lc_raise G hfr hef (st := mkSt L (lxS wc pc b cf) []) rfl pz pn bz Lp hs rfl
structure LawFn (fd : FuncData) : Prop where
 body : fd.body = .stmts lwB
 scope : fd.scope = scopeOf dLaw
 gl : fd.globals = mainGlobals
 bi : fd.builtins = builtinsNs
 clo : fd.closure = []
 bind : ∀ v, bindArgs fd ⟨[v], []⟩ = pure [(("script" : Str), v)]
noncomputable def wcF (f : Int) : Str := wcOf (fmOut (md f))
noncomputable def txF (ns : List Int) : Str := textL (rowIn ns) ++ endOf (firstOf ns)
noncomputable def toldF (ns : List Int) : List (List AV) := toldOut (sgOut (md (firstOf ns))) (rowL (rowIn ns)) (enOf (firstOf ns))
noncomputable def cf0 : Cf := { st := .str " ", t := "", ln := 1, p := 0, pb := [], q := false, esc := " " }
noncomputable def PlainLaw (ns : List Int) : Prop := ∃ its, CallsR (wcF (firstOf ns)) (fmOut (md (firstOf ns))) (txF ns) cf0 its ∧ SameT its (toldF ns) ∧ its.length ≤ 100000 ∧ ∀ it ∈ its, lowAs 0 it = true
theorem cells_law (L : Addr) : cellsFrom (L + 1) (scopeOf dLaw).names [] = [(("lexer" : Str), L + 1)] := by kernel_rfl
theorem lx_tok0 (wc pc b : Str) : SmT (lxTab (.str " ") (.str "") 1 wc pc b 0 []) (lxS wc pc b cf0) := lx_tok wc pc b cf0
theorem textIn_len (ns : List Int) : (textL (rowIn ns)).length ≤ 90000 := by
 have := textL_len (rowIn ns) (rowIn ns).length
 rw [List.take_length] at this
 have := rowIn_len ns
 lia
theorem now_out {cx : Cx} {h : Heap} {os : List AObj} {ρ ρ' : Rho} {st' : AS} {s' : Shared} (R' : Rel (cx.now h os ρ) ρ' st' s') {b : Addr} {o : Obj} (hb : b ∉ cx.env.locals :: foot os ρ) (e : h.get? b = some o) : s'.heap.get? b = some o ∧ b ∉ cx.env.locals :: foot st'.objs ρ' :=
 ⟨R'.keep _ _ e hb, fun hm => by
  rcases R'.own b hm with q | q
  ·exact hb q
  ·have q : h.get? b = none := q
   rw [e] at q; cases q⟩
theorem law_ok {w : World} {K : Frag} {A : Around} (KO : KOk5 w K) {s : Shared} (X : K.In s.heap) (Rm : Room A 21) (hfr : A.frames = some []) (hg : s.gens = #[]) {fa S : Addr} {o : Obj} {fd : FuncData} (ho : s.heap.get? fa = some o) (hd : o.data = .func fd) (F : LawFn fd) (hcd : s.heap.CodeRec fd.code fd.qualname)
  {ws : List Value} {ns : List Int} (hi : IntsAre ws ns) (hz : ns.length ≤ 63) (hS : s.heap.IsList S ws.toArray) (PL : PlainLaw ns) {R : Result → Shared → Prop}
  (k : ∀ s', (∀ b o, s.heap.get? b = some o → s'.heap.get? b = some o) → s'.gens = #[] → s'.os = s.os → R (.ok (.ret (.bool true))) s') : codeAny (model prog0 w) A (.call (.ref fa) ⟨[.ref S], []⟩) R s := by
 have kS : (scopeOf dLaw).names.lookup ("script" : Str) = some .local := by kernel_rfl
 refine codeAny_call_cells (by have := Rm.depth; lia) ho hd (nolimit_of X KO.nl.1 KO.nl.2) hcd F.body (F.bind _) F.clo (fun x hx => .inl ?_) (fun s₁ I => ?_) (by rw [F.scope]; kernel_rfl) (by rw [F.scope]; kernel_rfl) (by rw [F.scope]; kernel_rfl)
 ·rw [List.mem_singleton.mp hx, F.scope]; exact kS
 generalize hL : s.heap.objs.size = L at I
 have nL : s.heap.get? L = none := by rw [← hL]; exact no_get _
 generalize hE : callEnvC fd L fa = env at I
 have Elo : env.locals = L := by rw [← hE]; rfl
 have Efr : env.frame = some env.locals := by rw [← hE]; rfl
 have Esc : env.scope = scopeOf dLaw := by rw [← hE]; exact F.scope
 have Ece : env.cells = [(("lexer" : Str), L + 1)] := by rw [← hE]; show cellsFrom (L + 1) fd.scope.names [] = _; rw [F.scope]; exact cells_law L
 have Egl : env.globals = mainGlobals := by rw [← hE]; exact F.gl
 have Ebi : env.builtins = builtinsNs := by rw [← hE]; exact F.bi
 generalize hcx : ({ prog := prog0, w := w, K := K, base := s.heap, h₀ := s.heap, mt := [], env := env, os := s.os } : Cx) = cx
 have c1 : cx.prog = prog0 := by rw [← hcx]
 have c2 : cx.w = w := by rw [← hcx]
 have c3 : cx.K = K := by rw [← hcx]
 have c4 : cx.env = env := by rw [← hcx]
 have C : CxOk cx := by
  rw [← hcx]
  exact ⟨by show env.scope.kind = _; rw [Esc]; kernel_rfl, Egl, Ebi, X, fun b o e => e, fun a ha => nomatch ha⟩
 refine el2_1 I.toInCall.same fun h₁ tk₁ hs₁ => ?_
 have R₁ : Rel cx [] (mkSt [("script", .val (.ref S))] [] []) s₁ := by
  rw [← hcx]
  refine ⟨fun b o e _ => I.toInCall.keep b o e, ⟨_, I.toInCall.ns, fun x => ?_⟩, trivial, List.nodup_cons.mpr ⟨fun h => (nomatch h), List.nodup_nil⟩, fun a ha => .inr ?_, by rw [hs₁]; exact hg, by rw [hs₁], fun p hp => (nomatch hp), List.nodup_nil⟩
  ·have hk : env.kindOf ("script" : Str) = some .local := by show env.scope.names.lookup _ = _; rw [Esc]; exact kS
   show ORelV _ _ (List.lookup x [(("script" : Str), AV.val (.ref S))]) ((if env.kindOf ("script" : Str) = some .local then fun (y : Str) => if y = "script" then some (Value.ref S) else none else fun _ => none) x)
   rw [if_pos hk, lk_cons]
   by_cases hx : x = ("script" : Str)
   ·rw [if_pos hx, if_pos hx]; exact .val _
   ·rw [if_neg hx, if_neg hx]; trivial
  ·rcases List.mem_cons.mp ha with e | ha
   ·rw [e]; show s.heap.get? env.locals = none; rw [Elo]; exact nL
   ·cases ha
 rw [← c1, ← c2]
 rw [← c2, ← c3] at KO
 rw [← c4] at Elo Efr Esc Ece ⊢
 have Rm' : Room (A.deeper cx.env) 20 := Rm.deeper cx.env
 have hfr' : (A.deeper cx.env).frames = some [cx.env] := by show A.frames.map (cx.env :: ·) = _; rw [hfr]; rfl
 generalize hA : A.deeper cx.env = B at Rm' hfr' ⊢
 have hB := Rm'.handled
 have G5 : Gd5 cx B 20 := ⟨C, KO, c1, Rm'⟩
 have KO2 := KO.toKOk2
 obtain ⟨oc, hoc, hocd⟩ := I.cell ("lexer" : Str) (L + 1) (by rw [← c4, Ece]; kernel_rfl)
 have ncl : L + 1 ∉ cx.env.locals :: foot ([] : List AObj) [] := fun h => by
  rcases List.mem_cons.mp h with e | h
  ·rw [Elo] at e; exact absurd e (Nat.succ_ne_self L)
  ·cases h
 have hcm : bindC env.kindOf [(("script" : Str), Value.ref S)] (fun _ => none) ("lexer" : Str) = none := by
  have hk : env.kindOf ("script" : Str) = some .local := by show env.scope.names.lookup _ = _; rw [← c4, Esc]; exact kS
  show (if env.kindOf ("script" : Str) = some .local then fun _ => none else fun (y : Str) => if y = "script" then some (Value.ref S) else none) ("lexer" : Str) = none
  rw [if_pos hk]
 rw [hcm] at hocd
 have tN : TKeep s₁.heap s₁.heap := TKeep.refl _
 -- numbers
 have C₁ := C.now R₁
 refine lw_s1 (cx := cx.now s₁.heap [] []) C₁ (by show cx.env.scope = _; exact Esc) KO hB hi hz (R₁.now rfl) (let ⟨o, a, b⟩ := hS; ⟨o, I.toInCall.keep _ _ a, b⟩) fun ρ₂ s₂ t₂ R₂' => ?_
 refine el0_2 (now_out R₂' ncl hoc) fun ho₂ nc₂ => ?_
 have R₂ := R₁.then R₂' rfl
 clear R₂'
 -- first, marks, end
 have C₂ := C.now R₂
 refine lw_s2 (cx := cx.now s₂.heap [.list ((nums ns).map .sint)] ρ₂) C₂ Esc KO2 c1 (kk := 17) (Rm'.less (by lia)) (by rw [fmOut_len10]; decide) (R₂.now rfl) fun ρ₃ s₃ t₃ R₃' => ?_
 refine el0_2 (now_out R₃' nc₂ ho₂) fun ho₃ nc₃ => ?_
 have R₃ := R₂.then R₃' rfl
 clear R₃'
 -- text, row
 have C₃ := C.now R₃
 refine lw_s5 (cx := cx.now s₃.heap [.list ((nums ns).map .sint), .list (lwEs (fmOut (md (firstOf ns))))] ρ₃) (kk := 16) ⟨C₃, KO2, c1, Rm'.less (by lia)⟩ Esc (R₃.now rfl) fun a b s₄ rvs nn t₄ R₄' hb hr => ?_
 refine el0_2 (now_out R₄' nc₃ ho₃) fun ho₄ nc₄ => ?_
 have R₄ := R₃.then R₄' rfl
 clear R₄'
 -- told
 have C₄ := C.now R₄
 refine lw_s6 (cx := cx.now s₄.heap [] []) (kk := 16) ⟨C₄, KO2, c1, Rm'.less (by lia)⟩ Esc (rowL_small ns) (rowL_item _) (R₄.now rfl) hb hr fun c s₅ t₅ R₅' T₅ => ?_
 refine el0_2 (now_out R₅' nc₄ ho₄) fun ho₅ nc₅ => ?_
 have R₅ := R₄.then R₅' rfl
 clear R₅'
 -- lexer
 have hfl : L + 1 ∈ cx.mt ∨ cx.h₀.get? (L + 1) = none := .inr (by
  rw [← hcx]
  show s.heap.get? (L + 1) = none
  cases q : s.heap.get? (L + 1) with
  | none => rfl
  | some o => have := Heap.lt_size q; rw [hL] at this; exact absurd this (Nat.not_lt.mpr (Nat.le_succ L)))
 refine lw_s7 (kk := 14) G5 Esc (textIn_len ns) R₅ ⟨oc, ho₅, hocd⟩ (by rw [Ece]; kernel_rfl) hfl fun ρ₆ lx s₆ t₆ R₆ V₆ hc₆ nc₆ hls => ?_
 -- the return
 refine el1_4 PL fun its hCR hsame hlen hlow => ?_
 refine el1_2 hCR.seq fun CC hC0 hCC => ?_
 have hml : (fmOut (md (firstOf ns))).length = 10 := fmOut_len10 _
 have hfoot : foot (lxS (wcF (firstOf ns)) (fmOut (md (firstOf ns))) (txF ns) (CC 0)) ρ₆ = foot (lxTab (.str " ") (.str "") 1 (wcF (firstOf ns)) (fmOut (md (firstOf ns))) (txF ns) 0 []) ρ₆ := foot_lx ..
 refine lw_s8 C KO2 Esc (kk := 17) Rm' (O := fun i => lxS (wcF (firstOf ns)) (fmOut (md (firstOf ns))) (txF ns) (CC i)) (y := txF ns) (fun i => ⟨_, _, _, _, _, rfl⟩) rfl hlen hlow hsame (fun i it hit h ρ' C' => ?_) (R₆.swap ⟨.refl _, by rw [hC0]; exact lx_tok0 _ _ _, rfl⟩) T₅ t₆ (by rw [hfoot]; exact hls) Ece hc₆ (by rw [hfoot]; exact nc₆) V₆ fun s' R' => ?_
 ·refine call1_ok (cx := cx.now h _ ρ') (k := 12) ⟨C', KO2, c1, Rm'⟩ hfr' Efr (by rw [hml]; decide) (by rw [hml]; decide) ?_ (hCC i it hit)
  show (txF ns).length ≤ sizeLine
  unfold txF
  rw [Str.length_append, sizeLine_eq]
  have := textIn_len ns
  have := endOf_len (firstOf ns)
  lia
 ·refine k s' (fun b o e => R'.keep b o (by rw [← hcx]; exact e) (by rw [← hcx]; exact fun h => nomatch h)) R'.gens (R'.os.trans (by rw [← hcx]))
end Mine
end
noncomputable section
namespace Mine
open PySem PySem.W PyProof.Rows PySem.Calls
noncomputable abbrev sg (c : Nat) : Str := ⟨#[c]⟩
theorem inStr_iff (c : Nat) (x : Str) : inStr (sg c) x = true ↔ c ∈ x.cps.toList := by
 unfold inStr
 rw [StrLaws.found_iff]
 constructor
 ·rintro ⟨i, h⟩
  exact List.mem_of_getElem? ((StrLaws.subAt_one x c i).mp h)
 ·intro h
  obtain ⟨i, hi, e⟩ := List.getElem_of_mem h
  exact ⟨i, (StrLaws.subAt_one x c i).mpr (by rw [List.getElem?_eq_getElem hi, e])⟩
theorem inStr_eq (c : Nat) (x : Str) : inStr (sg c) x = decide (c ∈ x.cps.toList) := by
 rw [Bool.eq_iff_iff, inStr_iff, decide_eq_true_iff]
noncomputable def AtP (b : Str) (p : Int) (cs : List Nat) : Prop := ∃ n : Nat, p = (n : Int) ∧ n ≤ b.cps.size ∧ b.cps.toList.drop n = cs
theorem AtP.start (b : Str) : AtP b 0 b.cps.toList := ⟨0, rfl, Nat.zero_le _, rfl⟩
theorem AtP.nil {b : Str} {p : Int} (h : AtP b p []) : rdC b p = "" ∧ rdP b p = p := by
 refine el1_3 h fun n q0_1 hn e => ?_; subst q0_1
 have : b.cps.size ≤ n := by
  have := List.drop_eq_nil_iff.mp e
  simpa using this
 have hl : ((b.length : Nat) : Int) ≤ (n : Int) := by have : b.length = b.cps.size := rfl; lia
 unfold rdC rdP
 rw [if_pos hl, if_pos hl]
 exact ⟨rfl, rfl⟩
theorem slice_one {b : Str} {n c : Nat} {cs : List Nat} (e : b.cps.toList.drop n = c :: cs) : Txt.slice b (some (n : Int)) (some ((n : Int) + 1)) = sg c := by
 have hlt : n < b.cps.size := by
  have := congrArg List.length e
  simp at this
  lia
 have hc : b.cps[n]? = some c := by
  have h0 : (b.cps.toList.drop n)[0]? = some c := by rw [e]; rfl
  rw [List.getElem?_drop] at h0
  simpa using h0
 have hx : b.length = b.cps.size := rfl
 have hi : Builtin.Str.strSliceIndices (some (n : Int)) (some ((n : Int) + 1)) 1 b.length = [n] := by
  unfold Builtin.Str.strSliceIndices
  have h1 : ¬ ((n : Int) < 0) := by lia
  have h2 : ¬ ((n : Int) + 1 < 0) := by lia
  simp only [h1, h2, if_false, show (1 : Int) > 0 by decide, if_true]
  rw [show max (0 : Int) (min (n : Int) (b.length : Int)) = (n : Int) by lia, show max (0 : Int) (min ((n : Int) + 1) (b.length : Int)) = (n : Int) + 1 by lia]
  unfold sliceRange
  simp only [show (1 : Int) > 0 by decide, if_true, show (n : Int) < (n : Int) + 1 by lia]
  rw [show ((n : Int) + 1 - (n : Int) + 1 - 1) / 1 = 1 by lia]
  show (List.range 1).map _ = _
  simp
 unfold Txt.slice
 rw [hi]
 split
 ·rename_i h
  have h1 : b.length = 1 := (by simpa using h : 1 = b.length).symm
  obtain ⟨arr⟩ := b
  have h2 : arr.size = 1 := h1
  have h3 : n = 0 := by have : (⟨arr⟩ : Str).cps.size = arr.size := rfl; lia
  subst h3
  have h4 : arr[0]? = some c := hc
  show (⟨arr⟩ : Str) = ⟨#[c]⟩
  congr 1
  refine Array.ext (by simp [h2]) fun i h5 h6 => ?_
  have : i = 0 := by lia
  subst this
  rw [Array.getElem?_eq_getElem h5] at h4
  simpa using h4
 ·simp [hc]
theorem AtP.cons {b : Str} {p : Int} {c : Nat} {cs : List Nat} (h : AtP b p (c :: cs)) : rdC b p = sg c ∧ rdP b p = p + 1 ∧ AtP b (p + 1) cs := by
 refine el1_3 h fun n q0_1 hn e => ?_; subst q0_1
 have hlt : n < b.cps.size := by
  have := congrArg List.length e
  simp at this
  lia
 have hl : ¬ ((b.length : Nat) : Int) ≤ (n : Int) := by have : b.length = b.cps.size := rfl; lia
 unfold rdC rdP
 rw [if_neg hl, if_neg hl]
 refine ⟨slice_one e, rfl, n + 1, by lia, hlt, ?_⟩
 rw [← List.drop_drop, e]; rfl
theorem range_split {n N a : Nat} {pre post : List Nat} (h : List.range' n N = pre ++ a :: post) : ∀ k, n ≤ k → k < a → k ∈ pre := by
 intro k hk0 hk
 have hL : N = pre.length + (post.length + 1) := by
  have := congrArg List.length h
  simpa using this
 have hlen : n + pre.length = a := by
  have h1 : (List.range' n N)[pre.length]? = some a := by rw [h]; simp
  rw [List.getElem?_range' (by lia)] at h1
  simpa using h1
 have h2 : (List.range' n N)[k - n]? = pre[k - n]? := by rw [h, List.getElem?_append_left (by lia)]
 rw [List.getElem?_range' (by lia)] at h2
 have h3 : pre[k - n]? = some k := by
  rw [← h2]
  simp
  lia
 exact List.mem_of_getElem? h3
theorem fi_nat (L n : Nat) : PySem.fromIndex L (n : Int) = n := by unfold PySem.fromIndex; rw [if_neg (Int.not_lt.mpr (Int.natCast_nonneg _))]; rfl
theorem find4_nl {b : Str} {n : Nat} {pre rest : List Nat} (hn : n ≤ b.cps.size) (e : b.cps.toList.drop n = pre ++ 10 :: rest) (hp : 10 ∉ pre) : find4 b "\n" (n : Int) (b.length : Int) = ((n + pre.length : Nat) : Int) := by
 have hx : b.length = b.cps.size := rfl
 have hlen : b.cps.size = n + (pre.length + (rest.length + 1)) := by
  have := congrArg List.length e
  simp at this
  lia
 have at_k : ∀ k, StrLaws.At b (sg 10) b.length k ↔ b.cps.toList[k]? = some 10 := fun k => StrLaws.subAt_one b 10 k
 have hget : ∀ j, b.cps.toList[n + j]? = (pre ++ 10 :: rest)[j]? := fun j => by rw [← e, List.getElem?_drop]
 unfold find4
 have f1 : PySem.fromIndex b.length (n : Int) = n := fi_nat _ _
 have f2 : min (PySem.fromIndex b.length (b.length : Int)) b.length = b.length := by rw [fi_nat]; exact Nat.min_self _
 rw [f1, f2]
 show (match Builtin.Str.occurrences b (sg 10) n b.length 1 with | k :: _ => (k : Int) | [] => -1) = _
 rw [StrLaws.occ_eq]
 rcases StrLaws.occ_first b (sg 10) b.length 1 (Nat.le_refl _) (List.range' n (b.length + 1 - n)) n (fun i hi => (List.mem_range'.mp hi).elim fun k hk => by lia) with ⟨h0, h1⟩ | ⟨p0, a, p1, h2, h0, h3, h4⟩
 ·refine absurd ((at_k (n + pre.length)).mpr (by rw [hget]; simp)) (h1 _ ?_)
  rw [List.mem_range']
  exact ⟨pre.length, by lia, by lia⟩
 ·have ha : a = n + pre.length := by
   have ea := (at_k a).mp h3
   have mem : a ∈ List.range' n (b.length + 1 - n) := by rw [h2]; simp
   refine el1_2 (List.mem_range'.mp mem) fun j hj q0_2 => ?_; subst q0_2
   rw [Nat.one_mul] at *
   rw [hget] at ea
   rcases Nat.lt_trichotomy j pre.length with hlt | heq | hgt
   ·rw [List.getElem?_append_left hlt] at ea
    exact absurd (List.mem_of_getElem? ea) hp
   ·lia
   ·-- an earlier place would have been met
    have hm : n + pre.length ∈ p0 := range_split h2 _ (by lia) (by lia)
    exact absurd ((at_k (n + pre.length)).mpr (by rw [hget]; simp)) (h4 _ hm)
  generalize (forIn (List.range' n (b.length + 1 - n)) ((#[] : Array Nat), n) (StrLaws.occBody b (sg 10) b.length 1)).run.fst = arr at h0
  have h5 : arr.toList[0]? = some a := by simpa using h0
  cases hL : arr.toList with
  | nil => rw [hL] at h5; cases h5
  | cons c t => rw [hL] at h5; simp at h5; rw [h5, ha]
theorem rl_nl {b : Str} {p : Int} {pre rest : List Nat} (h : AtP b p (pre ++ 10 :: rest)) (hp : 10 ∉ pre) : ∃ q, rlP b p = q ∧ AtP b q rest := by
 refine el1_3 h fun n q0_1 hn e => ?_; subst q0_1
 have hx : b.length = b.cps.size := rfl
 have hlen : b.cps.size = n + (pre.length + (rest.length + 1)) := by
  have := congrArg List.length e
  simp at this
  lia
 refine ⟨_, rfl, n + pre.length + 1, ?_, by lia, ?_⟩
 ·unfold rlP
  rw [if_neg (by lia), find4_nl hn e hp, if_pos (by lia)]
  lia
 ·rw [show n + pre.length + 1 = n + (pre.length + 1) by lia, ← List.drop_drop, e]
  rw [show pre.length + 1 = (pre ++ [10]).length by simp, show pre ++ 10 :: rest = (pre ++ [10]) ++ rest by simp, List.drop_left]
end Mine
end
noncomputable section
namespace Mine
open PySem PySem.W PyProof.Rows PySem.Calls
section
variable {wc pc b : Str}
inductive RunS (wc pc b : Str) (cf : Cf) : List (List AV) → Prop
 | ok {n : Nat} {cf' : Cf} {its : List (List AV)} (L : Loop wc pc b n cf cf') (r : CallsR wc pc b { cf' with t := "" } its) : RunS wc pc b cf ([rtOut cf', .sint cf'.ln] :: its)
 | raise {n : Nat} {cf' : Cf} {msg sx : Str} {its : List (List AV)} (L : LoopX wc pc b msg n cf cf') (hs : cf'.st = .str sx) (r : CallsR wc pc b cf' its) : RunS wc pc b cf ([.str msg, .sint cf'.ln, .str sx, .sstr cf'.t] :: its)
theorem run_next {cf cf1 : Cf} {its : List (List AV)} (h : TurnSem wc pc b cf .next cf1) (e : cf1.pb = []) (r : RunS wc pc b cf1 its) : RunS wc pc b cf its := by
 cases r with
 | ok L r => exact .ok (.next h e L) r
 | raise L hs r => exact .raise (.next h e L) hs r
theorem run_cont {cf cf1 : Cf} {its : List (List AV)} (h : TurnSem wc pc b cf .cont cf1) (e : cf1.pb = []) (r : RunS wc pc b cf1 its) : RunS wc pc b cf its := by
 cases r with
 | ok L r => exact .ok (.cont h e L) r
 | raise L hs r => exact .raise (.cont h e L) hs r
theorem run_brk {cf cf' : Cf} {its : List (List AV)} (h : TurnSem wc pc b cf .brk cf') (r : CallsR wc pc b { cf' with t := "" } its) : RunS wc pc b cf ([rtOut cf', .sint cf'.ln] :: its) := .ok (.stop h) r
theorem run_exc {cf cf' : Cf} {msg sx : Str} {its : List (List AV)} (h : TurnSem wc pc b cf (.exc msg) cf') (hs : cf'.st = .str sx) (r : CallsR wc pc b cf' its) : RunS wc pc b cf ([.str msg, .sint cf'.ln, .str sx, .sstr cf'.t] :: its) := .raise (.stop h) hs r
theorem calls_run {cf : Cf} {its : List (List AV)} (r : RunS wc pc b { cf with q := false, esc := " " } its) : CallsR wc pc b cf its := by
 cases r with
 | ok L r => exact .cons (.ok L) r
 | raise L hs r => exact .cons (.raise L hs) r
inductive Rd (b : Str) (p : Int) (pb : List Str) : List Nat → Prop
 | read {cs : List Nat} (h : pb = []) (a : AtP b p cs) : Rd b p pb cs
 | pop {c : Nat} {cs : List Nat} (h : pb = [sg c]) (a : AtP b p cs) : Rd b p pb (c :: cs)
theorem Rd.nx {p : Int} {pb : List Str} {c : Nat} {cs : List Nat} (h : Rd b p pb (c :: cs)) (st : AV) (t : Str) (ln : Int) (q : Bool) (esc : Str) : ∃ p', Nx b ⟨st, t, ln, p, pb, q, esc⟩ (sg c) ⟨st, t, ln, p', [], q, esc⟩ ∧ AtP b p' cs := by
 cases h with
 | read h a =>
  subst h
  refine el0_3 a.cons fun h1 h2 h3 => ?_
  refine ⟨p + 1, ?_, h3⟩
  have := Nx.read (b := b) (cf := ⟨st, t, ln, p, [], q, esc⟩) rfl
  rw [h1, h2] at this
  exact this
 | pop h a =>
  subst h
  exact ⟨p, .pop (cf := ⟨st, t, ln, p, [sg c], q, esc⟩) (sg c) rfl, a⟩
theorem Rd.nx0 {p : Int} (h : AtP b p []) (st : AV) (t : Str) (ln : Int) (q : Bool) (esc : Str) : Nx b ⟨st, t, ln, p, [], q, esc⟩ "" ⟨st, t, ln, p, [], q, esc⟩ := by
 refine el0_2 h.nil fun h1 h2 => ?_
 have := Nx.read (b := b) (cf := ⟨st, t, ln, p, [], q, esc⟩) rfl
 rw [h1, h2] at this
 exact this
structure LexG (wc pc b : Str) (S : List Nat) : Prop where
 bl : b.length ≤ 100000
 p0 : 0 < pc.length
 p1 : pc.length ≤ 100
 pS : ∀ c ∈ pc.cps.toList, c ∈ S
 wS : ∀ c ∈ S, c ∉ pc.cps.toList → c ∈ wc.cps.toList
 wp : ∀ c ∈ pc.cps.toList, c ∉ wc.cps.toList
 plain : ∀ c ∈ S, c ≠ 10 ∧ c ≠ 9 ∧ c ≠ 13 ∧ c ≠ 32 ∧ c ≠ 35 ∧ c ≠ 39 ∧ c ≠ 34 ∧ c ≠ 92
 q1 : 39 ∉ wc.cps.toList
 q2 : 34 ∉ wc.cps.toList
variable {S : List Nat}
noncomputable def SpAt (wc pc b : Str) (ln : Int) (cs : List Nat) (its : List (List AV)) : Prop := ∀ p pb, Rd b p pb cs → RunS wc pc b ⟨.str " ", "", ln, p, pb, false, " "⟩ its
theorem SpAt.calls {ln : Int} {cs : List Nat} {its : List (List AV)} (h : SpAt wc pc b ln cs its) {p : Int} {pb : List Str} (r : Rd b p pb cs) {q : Bool} {esc : Str} : CallsR wc pc b ⟨.str " ", "", ln, p, pb, q, esc⟩ its := calls_run (h p pb r)
theorem len1 (c : Nat) : (sg c).length ≤ sizeLine := by rw [sizeLine_eq]; show 1 ≤ 16777216; decide
theorem len1' (c : Nat) : (((sg c).length : Int) != 0) = true := by show ((1 : Int) != 0) = true; decide
theorem nl_no {c : Nat} (h : c ≠ 10) : (sg c == ("\n" : Str)) = false := by
 refine beq_eq_false_iff_ne.mpr fun e => h ?_
 have : sg c = sg 10 := e
 injection this with e
 simpa using e
theorem ws_in {c : Nat} : inStr (sg c) " \t\r\n" = decide (c ∈ [32, 9, 13, 10]) := inStr_eq c " \t\r\n"
theorem cm_in {c : Nat} : inStr (sg c) "#" = decide (c ∈ [35]) := inStr_eq c "#"
theorem es_in {c : Nat} : inStr (sg c) "\\" = decide (c ∈ [92]) := inStr_eq c "\\"
theorem qt_in {c : Nat} : inStr (sg c) "'\"" = decide (c ∈ [39, 34]) := inStr_eq c "'\""
end
end Mine
end
noncomputable section
namespace Mine
open PySem PySem.W PyProof.Rows PySem.Calls
theorem AtP.len {b : Str} {p : Int} {cs : List Nat} (h : AtP b p cs) : cs.length ≤ b.length := by
 refine el1_3 h fun n _ hn e => ?_
 rw [← e, List.length_drop]
 have : b.length = b.cps.size := rfl
 have h2 : b.cps.toList.length = b.cps.size := by simp
 lia
section
variable {wc pc b : Str} {S : List Nat} {ln : Int} {cs : List Nat} {its : List (List AV)} {cur : Str} {c : Nat}
noncomputable def TkAt (wc pc b : Str) (st t : Str) (ln : Int) (cs : List Nat) (its : List (List AV)) : Prop := ∀ p q esc, AtP b p cs → 0 < t.length → t.length + cs.length ≤ 200000 → RunS wc pc b ⟨.str st, t, ln, p, [], q, esc⟩ its
noncomputable def QuAt (wc pc b : Str) (st t : Str) (ln : Int) (cs : List Nat) (its : List (List AV)) : Prop := ∀ p q esc, AtP b p cs → t.length + cs.length ≤ 200000 → RunS wc pc b ⟨.str st, t, ln, p, [], q, esc⟩ its
noncomputable def EkAt (wc pc b : Str) (t : Str) (ln : Int) (cs : List Nat) (its : List (List AV)) : Prop := ∀ p q, AtP b p cs → t.length + cs.length ≤ 200000 → RunS wc pc b ⟨.str "\\", t, ln, p, [], q, "a"⟩ its
theorem emp_len : ("" : Str).length ≤ sizeLine := by rw [sizeLine_eq]; decide
theorem emp_n : ((("" : Str).length : Int) != 0) = false := by decide
theorem emp_nl : (("" : Str) == ("\n" : Str)) = false := by decide +kernel
theorem tz {t : Str} {n : Nat} (h : t.length + n ≤ 200000) : t.length ≤ sizeLine := by rw [sizeLine_eq]; lia
theorem tz1 {t : Str} {n : Nat} (h : t.length + (n + 1) ≤ 200000) : t.length + (sg c).length ≤ sizeLine := by rw [sizeLine_eq]; show t.length + 1 ≤ _; lia
theorem tn {t : Str} (h : 0 < t.length) : ((t.length : Int) != 0) = true := bne_iff_ne.mpr (by lia)
theorem out_tok {st : AV} {t : Str} {ln p : Int} {pb : List Str} {q : Bool} {esc : Str} (h : 0 < t.length) : rtOut ⟨st, t, ln, p, pb, q, esc⟩ = .sstr t := by
 unfold rtOut
 dsimp only
 have : (t == ("" : Str)) = false := beq_eq_false_iff_ne.mpr fun e => by rw [e] at h; exact absurd h (by decide)
 rw [this]
 cases q <;> rfl
theorem sp_len (G : LexG wc pc b S) {p : Int} (a : AtP b p cs) : (sg c).length + cs.length ≤ 200000 := by have := a.len; have := G.bl; show 1 + cs.length ≤ _; lia
theorem sp_len0 (G : LexG wc pc b S) {p : Int} (a : AtP b p cs) : ("" : Str).length + cs.length ≤ 200000 := by have := a.len; have := G.bl; show 0 + cs.length ≤ _; lia
theorem ws_no (G : LexG wc pc b S) (h : c ∈ S) : inStr (sg c) " \t\r\n" = false := by
 obtain ⟨h1, h2, h3, h4, -⟩ := G.plain c h
 rw [ws_in]
 refine decide_eq_false fun m => ?_
 rcases List.mem_cons.mp m with m | m
 ·exact h4 m
 rcases List.mem_cons.mp m with m | m
 ·exact h2 m
 rcases List.mem_cons.mp m with m | m
 ·exact h3 m
 ·exact h1 (List.mem_singleton.mp m)
theorem cm_no (G : LexG wc pc b S) (h : c ∈ S) : inStr (sg c) "#" = false := by rw [cm_in]; have := G.plain c h; simp; lia
theorem es_no (G : LexG wc pc b S) (h : c ∈ S) : inStr (sg c) "\\" = false := by rw [es_in]; have := G.plain c h; simp; lia
theorem qt_no (G : LexG wc pc b S) (h : c ∈ S) : inStr (sg c) "'\"" = false := by rw [qt_in]; have := G.plain c h; simp; lia
theorem nl_noS (G : LexG wc pc b S) (h : c ∈ S) : (sg c == ("\n" : Str)) = false := nl_no (G.plain c h).1
theorem wc_yes (G : LexG wc pc b S) (h : c ∈ S) (n : c ∉ pc.cps.toList) : inStr (sg c) wc = true := (inStr_iff _ _).mpr (G.wS c h n)
theorem pc_yes (n : c ∈ pc.cps.toList) : inStr (sg c) pc = true := (inStr_iff _ _).mpr n
theorem pc_no (n : c ∉ pc.cps.toList) : inStr (sg c) pc = false := by rw [inStr_eq]; exact decide_eq_false n
theorem wc_no (G : LexG wc pc b S) (n : c ∈ pc.cps.toList) : inStr (sg c) wc = false := by rw [inStr_eq]; exact decide_eq_false (G.wp c n)
theorem wsT {c : Nat} (hc : c = 32 ∨ c = 9 ∨ c = 13) : inStr (sg c) " \t\r\n" = true := by rcases hc with rfl | rfl | rfl <;> decide +kernel
theorem q_pc (G : LexG wc pc b S) (h : c = 39 ∨ c = 34 ∨ c = 92) : inStr (sg c) pc = false := pc_no fun m => by
 obtain ⟨-, -, -, -, -, h6, h7, h8⟩ := G.plain c (G.pS c m)
 rcases h with h | h | h
 ·exact h6 h
 ·exact h7 h
 ·exact h8 h
theorem sp_word (G : LexG wc pc b S) (h : c ∈ S) (n : c ∉ pc.cps.toList) (k : TkAt wc pc b "a" (sg c) ln cs its) : SpAt wc pc b ln (c :: cs) its := fun p pb r => by
 refine el1_2 (r.nx (.str " ") "" ln false " ") fun p' N a => ?_
 exact run_next (tr_sp_wc N rfl (nl_noS G h) (len1 c) (len1' c) (ws_no G h) (cm_no G h) (es_no G h) (wc_yes G h n)) rfl (k _ _ _ a Nat.zero_lt_one (sp_len G a))
theorem sp_mark (G : LexG wc pc b S) (n : c ∈ pc.cps.toList) (k : TkAt wc pc b "c" (sg c) ln cs its) : SpAt wc pc b ln (c :: cs) its := fun p pb r => by
 refine el1_2 (r.nx (.str " ") "" ln false " ") fun p' N a => ?_
 have h := G.pS c n
 exact run_next (tr_sp_pc N rfl (nl_noS G h) (len1 c) (len1' c) (ws_no G h) (cm_no G h) (es_no G h) (wc_no G n) (pc_yes n)) rfl (k _ _ _ a Nat.zero_lt_one (sp_len G a))
theorem sp_ws (hc : c = 32 ∨ c = 9 ∨ c = 13) (k : SpAt wc pc b ln cs its) : SpAt wc pc b ln (c :: cs) its := fun p pb r => by
 refine el1_2 (r.nx (.str " ") "" ln false " ") fun p' N a => ?_
 refine run_cont (tr_sp_ws N rfl (nl_no (by lia)) (len1 c) (len1' c) (wsT hc) emp_len emp_n rfl) rfl (k p' [] (.read rfl a))
theorem sp_nl (k : SpAt wc pc b (ln + 1) cs its) : SpAt wc pc b ln (10 :: cs) its := fun p pb r => by
 refine el1_2 (r.nx (.str " ") "" ln false " ") fun p' N a => ?_
 refine run_cont (tr_sp_ws_nl N rfl (beq_self_eq_true _) (len1 10) (len1' 10) (by rw [ws_in]; decide) emp_len emp_n rfl) rfl (k p' [] (.read rfl a))
theorem sp_cm (G : LexG wc pc b S) {pre : List Nat} (hp : 10 ∉ pre) (k : SpAt wc pc b (ln + 1) cs its) : SpAt wc pc b ln (35 :: (pre ++ 10 :: cs)) its := fun p pb r => by
 refine el1_2 (r.nx (.str " ") "" ln false " ") fun p' N a => ?_
 refine el1_2 (rl_nl a hp) fun q hq aq => ?_
 refine run_next (tr_sp_cm N rfl (by rw [sizeLine_eq]; have := G.bl; lia)) rfl ?_
 show RunS wc pc b ⟨.str " ", "", ln + 1, rlP b p', [], false, " "⟩ its
 rw [hq]
 exact k q [] (.read rfl aq)
theorem sp_es (G : LexG wc pc b S) (k : EkAt wc pc b "" ln cs its) : SpAt wc pc b ln (92 :: cs) its := fun p pb r => by
 refine el1_2 (r.nx (.str " ") "" ln false " ") fun p' N a => ?_
 exact run_next (tr_sp_es N rfl) rfl (k _ _ a (sp_len0 G a))
theorem sp_sq (G : LexG wc pc b S) (k : QuAt wc pc b "'" "" ln cs its) : SpAt wc pc b ln (39 :: cs) its := fun p pb r => by
 refine el1_2 (r.nx (.str " ") "" ln false " ") fun p' N a => ?_
 exact run_next (tr_sp_sq N rfl (show inStr (sg 39) wc = false by rw [inStr_eq]; exact decide_eq_false G.q1) (q_pc (c := 39) G (by decide))) rfl (k _ _ _ a (sp_len0 G a))
theorem sp_dq (G : LexG wc pc b S) (k : QuAt wc pc b "\"" "" ln cs its) : SpAt wc pc b ln (34 :: cs) its := fun p pb r => by
 refine el1_2 (r.nx (.str " ") "" ln false " ") fun p' N a => ?_
 exact run_next (tr_sp_dq N rfl (show inStr (sg 34) wc = false by rw [inStr_eq]; exact decide_eq_false G.q2) (q_pc (c := 34) G (by decide))) rfl (k _ _ _ a (sp_len0 G a))
theorem a_word (G : LexG wc pc b S) (h : c ∈ S) (n : c ∉ pc.cps.toList) (k : TkAt wc pc b "a" (cur ++ sg c) ln cs its) : QuAt wc pc b "a" cur ln (c :: cs) its := fun p q esc a₀ hz => by
 refine el1_2 ((Rd.read rfl a₀).nx (.str "a") cur ln q esc) fun p' N a => ?_
 refine run_next (tr_a_wc N rfl (nl_noS G h) (len1 c) (len1' c) (ws_no G h) (cm_no G h) (qt_no G h) (es_no G h) (wc_yes G h n) (tz1 hz)) rfl (k _ _ _ a ?_ ?_)
 ·rw [Str.length_append]; show 0 < cur.length + 1; lia
 ·rw [Str.length_append]; show cur.length + 1 + cs.length ≤ _; have : (c :: cs).length = cs.length + 1 := rfl; lia
theorem a_mark (G : LexG wc pc b S) (n : c ∈ pc.cps.toList) (k : SpAt wc pc b ln (c :: cs) its) : TkAt wc pc b "a" cur ln (c :: cs) ([.sstr cur, .sint ln] :: its) := fun p q esc a₀ h0 hz => by
 refine el1_2 ((Rd.read rfl a₀).nx (.str "a") cur ln q esc) fun p' N a => ?_
 have h := G.pS c n
 have R := run_brk (tr_a_pc N rfl (nl_noS G h) (len1 c) (len1' c) (ws_no G h) (cm_no G h) (qt_no G h) (es_no G h) (wc_no G n) (qt_no G h) (by have := G.p1; rw [sizeLine_eq]; lia) (tn G.p0) (tz hz) (tn h0)) (k.calls (.pop rfl a))
 rw [out_tok h0] at R
 exact R
theorem a_ws (hc : c = 32 ∨ c = 9 ∨ c = 13) (k : SpAt wc pc b ln cs its) : TkAt wc pc b "a" cur ln (c :: cs) ([.sstr cur, .sint ln] :: its) := fun p q esc a₀ h0 hz => by
 refine el1_2 ((Rd.read rfl a₀).nx (.str "a") cur ln q esc) fun p' N a => ?_
 have R := run_brk (tr_a_ws N rfl (nl_no (by lia)) (len1 c) (len1' c) (wsT hc) (tz hz) (tn h0)) (k.calls (.read rfl a))
 rw [out_tok h0] at R
 exact R
theorem a_nl (k : SpAt wc pc b (ln + 1) cs its) : TkAt wc pc b "a" cur ln (10 :: cs) ([.sstr cur, .sint (ln + 1)] :: its) := fun p q esc a₀ h0 hz => by
 refine el1_2 ((Rd.read rfl a₀).nx (.str "a") cur ln q esc) fun p' N a => ?_
 have R := run_brk (tr_a_ws_nl N rfl (beq_self_eq_true _) (len1 10) (len1' 10) (by rw [ws_in]; decide) (tz hz) (tn h0)) (k.calls (.read rfl a))
 rw [out_tok h0] at R
 exact R
theorem a_cm (G : LexG wc pc b S) {pre : List Nat} (hp : 10 ∉ pre) (k : SpAt wc pc b (ln + 1) cs its) : TkAt wc pc b "a" cur ln (35 :: (pre ++ 10 :: cs)) ([.sstr cur, .sint (ln + 1)] :: its) := fun p q esc a₀ h0 hz => by
 refine el1_2 ((Rd.read rfl a₀).nx (.str "a") cur ln q esc) fun p' N a => ?_
 refine el1_2 (rl_nl a hp) fun q' hq aq => ?_
 have R := run_brk (tr_a_cm N rfl (by rw [sizeLine_eq]; have := G.bl; lia) (tz hz) (tn h0)) (its := its) (by rw [hq]; exact k.calls (.read rfl aq))
 rw [out_tok h0] at R
 exact R
theorem c_ws (hc : c = 32 ∨ c = 9 ∨ c = 13) (k : SpAt wc pc b ln cs its) : TkAt wc pc b "c" cur ln (c :: cs) ([.sstr cur, .sint ln] :: its) := fun p q esc a₀ h0 hz => by
 refine el1_2 ((Rd.read rfl a₀).nx (.str "c") cur ln q esc) fun p' N a => ?_
 have R := run_brk (tr_c_ws N rfl (nl_no (by lia)) (len1 c) (len1' c) (wsT hc) (tz hz) (tn h0)) (k.calls (.read rfl a))
 rw [out_tok h0] at R
 exact R
theorem c_nl (k : SpAt wc pc b (ln + 1) cs its) : TkAt wc pc b "c" cur ln (10 :: cs) ([.sstr cur, .sint (ln + 1)] :: its) := fun p q esc a₀ h0 hz => by
 refine el1_2 ((Rd.read rfl a₀).nx (.str "c") cur ln q esc) fun p' N a => ?_
 have R := run_brk (tr_c_ws_nl N rfl (beq_self_eq_true _) (len1 10) (len1' 10) (by rw [ws_in]; decide) (tz hz) (tn h0)) (k.calls (.read rfl a))
 rw [out_tok h0] at R
 exact R
theorem c_cm (G : LexG wc pc b S) {pre : List Nat} (hp : 10 ∉ pre) (k : SpAt wc pc b (ln + 1) cs its) : TkAt wc pc b "c" cur ln (35 :: (pre ++ 10 :: cs)) ([.sstr cur, .sint (ln + 1)] :: its) := fun p q esc a₀ h0 hz => by
 refine el1_2 ((Rd.read rfl a₀).nx (.str "c") cur ln q esc) fun p' N a => ?_
 refine el1_2 (rl_nl a hp) fun q' hq aq => ?_
 have R := run_brk (tr_c_cm N rfl (by rw [sizeLine_eq]; have := G.bl; lia) (tz hz) (tn h0)) (its := its) (by rw [hq]; exact k.calls (.read rfl aq))
 rw [out_tok h0] at R
 exact R
theorem a_sq (k : QuAt wc pc b "'" cur ln cs its) : QuAt wc pc b "a" cur ln (39 :: cs) its := fun p q esc a₀ hz => by
 refine el1_2 ((Rd.read rfl a₀).nx (.str "a") cur ln q esc) fun p' N a => ?_
 exact run_next (tr_a_sq N rfl) rfl (k _ _ _ a (by have : (39 :: cs).length = cs.length + 1 := rfl; lia))
theorem c_sq (G : LexG wc pc b S) (k : SpAt wc pc b ln (39 :: cs) its) : TkAt wc pc b "c" cur ln (39 :: cs) ([.sstr cur, .sint ln] :: its) := fun p q esc a₀ h0 hz => by
 refine el1_2 ((Rd.read rfl a₀).nx (.str "c") cur ln q esc) fun p' N a => ?_
 have R := run_brk (tr_c_sq N rfl (q_pc (c := 39) G (by decide))) (k.calls (.pop rfl a))
 rw [out_tok h0] at R
 exact R
theorem sq_in (h1 : c ≠ 10) (h2 : c ≠ 39) (h3 : c ≠ 92) (k : QuAt wc pc b "'" (cur ++ sg c) ln cs its) : QuAt wc pc b "'" cur ln (c :: cs) its := fun p q esc a₀ hz => by
 refine el1_2 ((Rd.read rfl a₀).nx (.str "'") cur ln q esc) fun p' N a => ?_
 refine run_next (tr_sq_in N rfl (nl_no h1) (len1 c) (len1' c) (beq_eq_false_iff_ne.mpr fun e => h2 ?_) (by rw [es_in]; simp; lia) (tz1 hz)) rfl (k _ _ _ a ?_)
 ·have : sg c = sg 39 := e
  injection this with e
  simpa using e
 ·rw [Str.length_append]; show cur.length + 1 + cs.length ≤ _; have : (c :: cs).length = cs.length + 1 := rfl; lia
theorem sq_end (k : QuAt wc pc b "a" cur ln cs its) : QuAt wc pc b "'" cur ln (39 :: cs) its := fun p q esc a₀ hz => by
 refine el1_2 ((Rd.read rfl a₀).nx (.str "'") cur ln q esc) fun p' N a => ?_
 exact run_next (tr_sq_end N rfl) rfl (k _ _ _ a (by have : (39 :: cs).length = cs.length + 1 := rfl; lia))
theorem sq_eof : QuAt wc pc b "'" cur ln [] [[.str "No closing quotation", .sint ln, .str "'", .sstr cur], [.str "No closing quotation", .sint ln, .str "'", .sstr cur]] := fun p q esc a₀ hz => by
 have T : ∀ q esc, TurnSem wc pc b ⟨.str "'", cur, ln, p, [], q, esc⟩ (.exc "No closing quotation") ⟨.str "'", cur, ln, p, [], true, esc⟩ := fun q esc => tr_sq_eof (Rd.nx0 a₀ (.str "'") cur ln q esc) rfl (by decide +kernel) (by rw [sizeLine_eq]; decide) (by decide)
 exact run_exc (T q esc) rfl (calls_run (run_exc (T false " ") rfl (.nil _)))
theorem a_dq (k : QuAt wc pc b "\"" cur ln cs its) : QuAt wc pc b "a" cur ln (34 :: cs) its := fun p q esc a₀ hz => by
 refine el1_2 ((Rd.read rfl a₀).nx (.str "a") cur ln q esc) fun p' N a => ?_
 exact run_next (tr_a_dq N rfl) rfl (k _ _ _ a (by have : (34 :: cs).length = cs.length + 1 := rfl; lia))
theorem c_dq (G : LexG wc pc b S) (k : SpAt wc pc b ln (34 :: cs) its) : TkAt wc pc b "c" cur ln (34 :: cs) ([.sstr cur, .sint ln] :: its) := fun p q esc a₀ h0 hz => by
 refine el1_2 ((Rd.read rfl a₀).nx (.str "c") cur ln q esc) fun p' N a => ?_
 have R := run_brk (tr_c_dq N rfl (q_pc (c := 34) G (by decide))) (k.calls (.pop rfl a))
 rw [out_tok h0] at R
 exact R
theorem dq_in (h1 : c ≠ 10) (h2 : c ≠ 34) (h3 : c ≠ 92) (k : QuAt wc pc b "\"" (cur ++ sg c) ln cs its) : QuAt wc pc b "\"" cur ln (c :: cs) its := fun p q esc a₀ hz => by
 refine el1_2 ((Rd.read rfl a₀).nx (.str "\"") cur ln q esc) fun p' N a => ?_
 refine run_next (tr_dq_in N rfl (nl_no h1) (len1 c) (len1' c) (beq_eq_false_iff_ne.mpr fun e => h2 ?_) (by rw [es_in]; simp; lia) (tz1 hz)) rfl (k _ _ _ a ?_)
 ·have : sg c = sg 34 := e
  injection this with e
  simpa using e
 ·rw [Str.length_append]; show cur.length + 1 + cs.length ≤ _; have : (c :: cs).length = cs.length + 1 := rfl; lia
theorem dq_end (k : QuAt wc pc b "a" cur ln cs its) : QuAt wc pc b "\"" cur ln (34 :: cs) its := fun p q esc a₀ hz => by
 refine el1_2 ((Rd.read rfl a₀).nx (.str "\"") cur ln q esc) fun p' N a => ?_
 exact run_next (tr_dq_end N rfl) rfl (k _ _ _ a (by have : (34 :: cs).length = cs.length + 1 := rfl; lia))
theorem dq_eof : QuAt wc pc b "\"" cur ln [] [[.str "No closing quotation", .sint ln, .str "\"", .sstr cur], [.str "No closing quotation", .sint ln, .str "\"", .sstr cur]] := fun p q esc a₀ hz => by
 have T : ∀ q esc, TurnSem wc pc b ⟨.str "\"", cur, ln, p, [], q, esc⟩ (.exc "No closing quotation") ⟨.str "\"", cur, ln, p, [], true, esc⟩ := fun q esc => tr_dq_eof (Rd.nx0 a₀ (.str "\"") cur ln q esc) rfl (by decide +kernel) (by rw [sizeLine_eq]; decide) (by decide)
 exact run_exc (T q esc) rfl (calls_run (run_exc (T false " ") rfl (.nil _)))
theorem a_es (k : EkAt wc pc b cur ln cs its) : QuAt wc pc b "a" cur ln (92 :: cs) its := fun p q esc a₀ hz => by
 refine el1_2 ((Rd.read rfl a₀).nx (.str "a") cur ln q esc) fun p' N a => ?_
 exact run_next (tr_a_es N rfl) rfl (k _ _ a (by have : (92 :: cs).length = cs.length + 1 := rfl; lia))
theorem c_es (G : LexG wc pc b S) (k : SpAt wc pc b ln (92 :: cs) its) : TkAt wc pc b "c" cur ln (92 :: cs) ([.sstr cur, .sint ln] :: its) := fun p q esc a₀ h0 hz => by
 refine el1_2 ((Rd.read rfl a₀).nx (.str "c") cur ln q esc) fun p' N a => ?_
 have R := run_brk (tr_c_es N rfl (q_pc (c := 92) G (by decide))) (k.calls (.pop rfl a))
 rw [out_tok h0] at R
 exact R
theorem c_mark (G : LexG wc pc b S) (n : c ∈ pc.cps.toList) (k : TkAt wc pc b "c" (cur ++ sg c) ln cs its) : TkAt wc pc b "c" cur ln (c :: cs) its := fun p q esc a₀ h0 hz => by
 refine el1_2 ((Rd.read rfl a₀).nx (.str "c") cur ln q esc) fun p' N a => ?_
 have h := G.pS c n
 refine run_next (tr_c_pc N rfl (nl_noS G h) (len1 c) (len1' c) (ws_no G h) (cm_no G h) (pc_yes n) (tz1 hz)) rfl (k _ _ _ a ?_ ?_)
 ·rw [Str.length_append]; show 0 < cur.length + 1; lia
 ·rw [Str.length_append]; show cur.length + 1 + cs.length ≤ _; have : (c :: cs).length = cs.length + 1 := rfl; lia
theorem c_word (G : LexG wc pc b S) (h : c ∈ S) (n : c ∉ pc.cps.toList) (k : SpAt wc pc b ln (c :: cs) its) : TkAt wc pc b "c" cur ln (c :: cs) ([.sstr cur, .sint ln] :: its) := fun p q esc a₀ h0 hz => by
 refine el1_2 ((Rd.read rfl a₀).nx (.str "c") cur ln q esc) fun p' N a => ?_
 have R := run_brk (tr_c_wc N rfl (nl_noS G h) (len1 c) (len1' c) (ws_no G h) (cm_no G h) (pc_no n) (by rw [ws_no G h]; rfl)) (k.calls (.pop rfl a))
 rw [out_tok h0] at R
 exact R
theorem e_in (h1 : c ≠ 10) (k : TkAt wc pc b "a" (cur ++ sg c) ln cs its) : EkAt wc pc b cur ln (c :: cs) its := fun p q a₀ hz => by
 refine el1_2 ((Rd.read rfl a₀).nx (.str "\\") cur ln q "a") fun p' N a => ?_
 refine run_next (tr_es_in N rfl rfl (nl_no h1) (len1 c) (len1' c) (tz1 hz)) rfl (k _ _ _ a ?_ ?_)
 ·rw [Str.length_append]; show 0 < cur.length + 1; lia
 ·rw [Str.length_append]; show cur.length + 1 + cs.length ≤ _; have : (c :: cs).length = cs.length + 1 := rfl; lia
theorem e_eof : EkAt wc pc b cur ln [] [[.str "No escaped character", .sint ln, .str "\\", .sstr cur], [.str "No escaped character", .sint ln, .str "\\", .sstr cur]] := fun p q a₀ hz => by
 have T : ∀ q esc, TurnSem wc pc b ⟨.str "\\", cur, ln, p, [], q, esc⟩ (.exc "No escaped character") ⟨.str "\\", cur, ln, p, [], q, esc⟩ := fun q esc => tr_es_eof (Rd.nx0 a₀ (.str "\\") cur ln q esc) rfl (by decide +kernel) (by rw [sizeLine_eq]; decide) (by decide)
 exact run_exc (T q "a") rfl (calls_run (run_exc (T false " ") rfl (.nil _)))
noncomputable def noneL (ln : Int) : List AV := [.none, .sint ln]
theorem none_run {p : Int} (a : AtP b p []) {esc : Str} (r : ∀ q esc, CallsR wc pc b ⟨.none, "", ln, p, [], q, esc⟩ its) : RunS wc pc b ⟨.none, "", ln, p, [], false, esc⟩ (noneL ln :: its) :=
 run_brk (cf' := ⟨.none, "", ln, p, [], false, esc⟩) (tr_none_eof (Rd.nx0 a .none "" ln false esc) rfl (by decide +kernel)) (r _ _)
theorem none_calls {p : Int} (a : AtP b p []) : ∀ (n : Nat) q esc, CallsR wc pc b ⟨.none, "", ln, p, [], q, esc⟩ (List.replicate n (noneL ln))
 | 0, _, _ => .nil _
 | n + 1, q, esc => calls_run (none_run a (none_calls a n))
theorem sp_eof : SpAt wc pc b ln [] [noneL ln, noneL ln] := fun p pb r => by
 cases r with
 | read h a =>
  subst h
  exact run_brk (cf' := ⟨.none, "", ln, p, [], false, " "⟩) (tr_sp_eof (Rd.nx0 a (.str " ") "" ln false " ") rfl emp_nl emp_len emp_n) (none_calls a 1 _ _)
theorem a_eof : TkAt wc pc b "a" cur ln [] [[.sstr cur, .sint ln], noneL ln, noneL ln] := fun p q esc a h0 hz => by
 have R := run_brk (wc := wc) (pc := pc) (cf' := ⟨.none, cur, ln, p, [], q, esc⟩) (tr_a_eof (Rd.nx0 a (.str "a") cur ln q esc) rfl emp_nl emp_len emp_n) (none_calls a 2 q esc)
 rw [out_tok h0] at R
 exact R
theorem c_eof : TkAt wc pc b "c" cur ln [] [[.sstr cur, .sint ln], noneL ln, noneL ln] := fun p q esc a h0 hz => by
 have R := run_brk (wc := wc) (pc := pc) (cf' := ⟨.none, cur, ln, p, [], q, esc⟩) (tr_c_eof (Rd.nx0 a (.str "c") cur ln q esc) rfl emp_nl emp_len emp_n) (none_calls a 2 q esc)
 rw [out_tok h0] at R
 exact R
end
end Mine
end
noncomputable section
namespace Mine
open PySem PySem.W PyProof.Rows PySem.Calls
inductive Made
 | no
 | word (cur : Str)
 | run (cur : Str)
noncomputable def wcur : Made → Str
 | .word cur => cur
 | _ => ""
noncomputable def rcur : Made → Str
 | .run cur => cur
 | _ => ""
noncomputable def emit (ln : Int) : Made → List (List AV)
 | .no => []
 | .word cur => [[.sstr cur, .sint ln]]
 | .run cur => [[.sstr cur, .sint ln]]
noncomputable def preW (ln : Int) : Made → List (List AV)
 | .run cur => [[.sstr cur, .sint ln]]
 | _ => []
noncomputable def preR (ln : Int) : Made → List (List AV)
 | .word cur => [[.sstr cur, .sint ln]]
 | _ => []
noncomputable def gapLn (x : Str) (ln : Int) : Int := if chrAt x (-1) = "\n" then ln + 1 else ln
noncomputable def outN (mk : Str) (F : Made → Int → List (List AV)) : List (Str × Str) → Made → Int → List (List AV)
 | [], z, ln => F z ln
 | e :: er, z, ln => if e.2 = "gap" then emit (gapLn e.1 ln) z ++ outN mk F er .no (gapLn e.1 ln)
  else if tdKind mk e = "run" then preR ln z ++ outN mk F er (.run (rcur z ++ e.1)) ln
  else preW ln z ++ outN mk F er (.word (wcur z ++ e.1)) ln
noncomputable def StAt (wc pc b : Str) (z : Made) (ln : Int) (cs : List Nat) (its : List (List AV)) : Prop := match z with
 | .no => SpAt wc pc b ln cs its
 | .word cur => 0 < cur.length → TkAt wc pc b "a" cur ln cs its
 | .run cur => 0 < cur.length → TkAt wc pc b "c" cur ln cs its
theorem emp_app (x : Str) : ("" : Str) ++ x = x := by
 show (⟨(#[] : Array Nat) ++ x.cps⟩ : Str) = x
 simp
section
variable {wc pc b : Str} {S : List Nat} {ln : Int} {cs : List Nat} {its : List (List AV)} {cur : Str} {c : Nat} {z : Made} {F : Made → Int → List (List AV)} {er : List (Str × Str)}
theorem app_pos (x : Str) (c : Nat) : 0 < (x ++ sg c).length := by rw [Str.length_append]; show 0 < x.length + 1; lia
theorem QuAt.tk {st : Str} (h : QuAt wc pc b st cur ln cs its) : TkAt wc pc b st cur ln cs its := fun p q esc a _ hz => h p q esc a hz
theorem TkAt.qu {st : Str} (h0 : 0 < cur.length) (h : TkAt wc pc b st cur ln cs its) : QuAt wc pc b st cur ln cs its := fun p q esc a hz => h p q esc a h0 hz
theorem kind_sign (mk : Str) (c : Nat) : tdKind mk (sg c, "sign") = if c ∈ mk.cps.toList then ("run" : Str) else ("word" : Str) := by
 unfold tdKind
 rw [inStr_eq]
 by_cases h : c ∈ mk.cps.toList
 ·rw [if_pos h, if_pos ⟨rfl, decide_eq_true h⟩]
 ·rw [if_neg h, if_neg fun q => h (of_decide_eq_true q.2)]
theorem kind_kept (mk x : Str) : tdKind mk (x, "kept") = "word" := by
 unfold tdKind
 rw [if_neg]
 intro h
 exact absurd (show ("kept" : Str) = "sign" from h.1) (by decide +kernel)
theorem word_run : ("word" : Str) ≠ "run" := by decide +kernel
theorem out_run {mk : Str} {e : Str × Str} (h1 : e.2 ≠ "gap") (h2 : tdKind mk e = "run") : outN mk F (e :: er) z ln = preR ln z ++ outN mk F er (.run (rcur z ++ e.1)) ln := by
 exact (if_neg h1).trans (if_pos h2)
theorem out_word {mk : Str} {e : Str × Str} (h1 : e.2 ≠ "gap") (h2 : tdKind mk e = "word") : outN mk F (e :: er) z ln = preW ln z ++ outN mk F er (.word (wcur z ++ e.1)) ln := by
 exact (if_neg h1).trans (if_neg (by rw [h2]; exact word_run))
theorem out_gap {mk x : Str} : outN mk F ((x, "gap") :: er) z ln = emit (gapLn x ln) z ++ outN mk F er .no (gapLn x ln) := by
 rw [outN, if_pos rfl]
theorem sign_gap : ("sign" : Str) ≠ "gap" := by decide +kernel
theorem kept_gap : ("kept" : Str) ≠ "gap" := by decide +kernel
theorem st_sign (G : LexG wc pc b S) (h : c ∈ S) (k : ∀ z', StAt wc pc b z' ln cs (outN pc F er z' ln)) : StAt wc pc b z ln (c :: cs) (outN pc F ((sg c, "sign") :: er) z ln) := by
 by_cases n : c ∈ pc.cps.toList
 ·rw [out_run sign_gap (by rw [kind_sign, if_pos n])]
  cases z with
  | no =>
   show SpAt wc pc b ln (c :: cs) (outN pc F er (.run ("" ++ sg c)) ln)
   rw [emp_app]
   exact sp_mark G n (k (.run (sg c)) Nat.zero_lt_one)
  | word cur =>
   intro h0
   show TkAt wc pc b "a" cur ln (c :: cs) ([.sstr cur, .sint ln] :: outN pc F er (.run ("" ++ sg c)) ln)
   rw [emp_app]
   exact a_mark G n (sp_mark G n (k (.run (sg c)) Nat.zero_lt_one))
  | run cur => exact fun h0 => c_mark G n (k (.run (cur ++ sg c)) (app_pos _ _))
 ·rw [out_word sign_gap (by rw [kind_sign, if_neg n])]
  cases z with
  | no =>
   show SpAt wc pc b ln (c :: cs) (outN pc F er (.word ("" ++ sg c)) ln)
   rw [emp_app]
   exact sp_word G h n (k (.word (sg c)) Nat.zero_lt_one)
  | word cur => exact fun h0 => (a_word G h n (k (.word (cur ++ sg c)) (app_pos _ _))).tk
  | run cur =>
   intro h0
   show TkAt wc pc b "c" cur ln (c :: cs) ([.sstr cur, .sint ln] :: outN pc F er (.word ("" ++ sg c)) ln)
   rw [emp_app]
   exact c_word G h n (sp_word G h n (k (.word (sg c)) Nat.zero_lt_one))
theorem st_signs (G : LexG wc pc b S) : ∀ (l : List Nat), (∀ c ∈ l, c ∈ S) → (∀ z', StAt wc pc b z' ln cs (outN pc F er z' ln)) → ∀ z, StAt wc pc b z ln (l ++ cs) (outN pc F (l.map (fun c => (sg c, ("sign" : Str))) ++ er) z ln)
 | [], _, k, z => k z
 | c :: l, h, k, z => st_sign G (h c (.head _)) fun z' => st_signs G l (fun c hc => h c (.tail _ hc)) k z'
theorem st_ws (hc : c = 32 ∨ c = 9 ∨ c = 13) (k : SpAt wc pc b ln cs its) : StAt wc pc b z ln (c :: cs) (emit ln z ++ its) := by
 cases z with
 | no => exact sp_ws hc k
 | word cur => exact fun _ => a_ws hc k
 | run cur => exact fun _ => c_ws hc k
theorem st_nl (k : SpAt wc pc b (ln + 1) cs its) : StAt wc pc b z ln (10 :: cs) (emit (ln + 1) z ++ its) := by
 cases z with
 | no => exact sp_nl k
 | word cur => exact fun _ => a_nl k
 | run cur => exact fun _ => c_nl k
theorem st_cm (G : LexG wc pc b S) {pre : List Nat} (hp : 10 ∉ pre) (k : SpAt wc pc b (ln + 1) cs its) : StAt wc pc b z ln (35 :: (pre ++ 10 :: cs)) (emit (ln + 1) z ++ its) := by
 cases z with
 | no => exact sp_cm G hp k
 | word cur => exact fun _ => a_cm G hp k
 | run cur => exact fun _ => c_cm G hp k
theorem st_gap (G : LexG wc pc b S) {mk x : Str} (hx : x ∈ ([" ", "\n", "\t", "\r", "# it's\n"] : List Str)) (k : ∀ ln', SpAt wc pc b ln' cs (outN mk F er .no ln')) : StAt wc pc b z ln (x.cps.toList ++ cs) (outN mk F ((x, "gap") :: er) z ln) := by
 rw [out_gap]
 simp only [List.mem_cons, List.not_mem_nil, or_false] at hx
 rcases hx with rfl | rfl | rfl | rfl | rfl
 ·rw [show gapLn " " ln = ln from if_neg (by decide +kernel)]; exact st_ws (c := 32) (.inl rfl) (k ln)
 ·rw [show gapLn "\n" ln = ln + 1 from if_pos (by decide +kernel)]; exact st_nl (k (ln + 1))
 ·rw [show gapLn "\t" ln = ln from if_neg (by decide +kernel)]; exact st_ws (c := 9) (.inr (.inl rfl)) (k ln)
 ·rw [show gapLn "\r" ln = ln from if_neg (by decide +kernel)]; exact st_ws (c := 13) (.inr (.inr rfl)) (k ln)
 ·rw [show gapLn "# it's\n" ln = ln + 1 from if_pos (by decide +kernel)]; exact st_cm (pre := [32, 105, 116, 39, 115]) G (by decide) (k (ln + 1))
theorem st_gaps (G : LexG wc pc b S) {mk : Str} (hk : ∀ z' ln', StAt wc pc b z' ln' cs (outN mk F er z' ln')) : ∀ (g : List Str), (∀ x ∈ g, x ∈ ([" ", "\n", "\t", "\r", "# it's\n"] : List Str)) → ∀ z ln, StAt wc pc b z ln (g.flatMap (·.cps.toList) ++ cs) (outN mk F (g.map (fun x => (x, ("gap" : Str))) ++ er) z ln)
 | [], _, z, ln => hk z ln
 | x :: g, h, z, ln => by
  rw [List.flatMap_cons, List.append_assoc]
  exact st_gap G (h x (.head _)) fun ln' => st_gaps G hk g (fun y hy => h y (.tail _ hy)) .no ln'
theorem st_sq (G : LexG wc pc b S) (k : QuAt wc pc b "'" (wcur z) ln cs its) : StAt wc pc b z ln (39 :: cs) (preW ln z ++ its) := by
 cases z with
 | no => exact sp_sq G k
 | word cur => exact fun _ => (a_sq k).tk
 | run cur => exact fun _ => c_sq G (sp_sq G k)
theorem st_dq (G : LexG wc pc b S) (k : QuAt wc pc b "\"" (wcur z) ln cs its) : StAt wc pc b z ln (34 :: cs) (preW ln z ++ its) := by
 cases z with
 | no => exact sp_dq G k
 | word cur => exact fun _ => (a_dq k).tk
 | run cur => exact fun _ => c_dq G (sp_dq G k)
theorem st_es (G : LexG wc pc b S) (k : EkAt wc pc b (wcur z) ln cs its) : StAt wc pc b z ln (92 :: cs) (preW ln z ++ its) := by
 cases z with
 | no => exact sp_es G k
 | word cur => exact fun _ => (a_es k).tk
 | run cur => exact fun _ => c_es G (sp_es G k)
end
end Mine
end
noncomputable section
namespace Mine
open PySem PySem.W PyProof.Rows PySem.Calls
noncomputable abbrev strOf (l : List Nat) : Str := ⟨l.toArray⟩
theorem strOf_app (cur : Str) (c : Nat) (l : List Nat) : cur ++ sg c ++ strOf l = cur ++ strOf (c :: l) := by
 show (⟨cur.cps ++ #[c] ++ l.toArray⟩ : Str) = ⟨cur.cps ++ (c :: l).toArray⟩
 congr 1
 apply Array.ext'
 simp
theorem app_nil (cur : Str) : cur ++ strOf [] = cur := by
 show (⟨cur.cps ++ #[]⟩ : Str) = cur
 simp
theorem app_assoc (x y z : Str) : x ++ y ++ z = x ++ (y ++ z) := by
 show (⟨x.cps ++ y.cps ++ z.cps⟩ : Str) = ⟨x.cps ++ (y.cps ++ z.cps)⟩
 rw [Array.append_assoc]
section
variable {wc pc b : Str} {S : List Nat} {ln : Int} {cs : List Nat} {its : List (List AV)} {cur : Str} {c : Nat} {z : Made} {F : Made → Int → List (List AV)} {er : List (Str × Str)}
theorem sq_chars : ∀ (l : List Nat) (cur : Str), (∀ c ∈ l, c ≠ 10 ∧ c ≠ 39 ∧ c ≠ 92) → QuAt wc pc b "'" (cur ++ strOf l) ln cs its → QuAt wc pc b "'" cur ln (l ++ cs) its
 | [], cur, _, k => by rw [app_nil] at k; exact k
 | c :: l, cur, h, k => by
  refine el0_3 (h c (.head _)) fun h1 h2 h3 => ?_
  exact sq_in h1 h2 h3 (sq_chars l (cur ++ sg c) (fun d hd => h d (.tail _ hd)) (by rw [strOf_app]; exact k))
theorem dq_chars : ∀ (l : List Nat) (cur : Str), (∀ c ∈ l, c ≠ 10 ∧ c ≠ 34 ∧ c ≠ 92) → QuAt wc pc b "\"" (cur ++ strOf l) ln cs its → QuAt wc pc b "\"" cur ln (l ++ cs) its
 | [], cur, _, k => by rw [app_nil] at k; exact k
 | c :: l, cur, h, k => by
  refine el0_3 (h c (.head _)) fun h1 h2 h3 => ?_
  exact dq_in h1 h2 h3 (dq_chars l (cur ++ sg c) (fun d hd => h d (.tail _ hd)) (by rw [strOf_app]; exact k))
theorem st_kept_es (G : LexG wc pc b S) (h : c ≠ 10) (k : ∀ z', StAt wc pc b z' ln cs (outN pc F er z' ln)) : StAt wc pc b z ln (92 :: c :: cs) (outN pc F ((sg c, "kept") :: er) z ln) := by
 rw [out_word kept_gap (kind_kept _ _)]
 exact st_es G (e_in h (k (.word (wcur z ++ sg c)) (app_pos _ _)))
theorem app_len_pos {x y : Str} (h : 0 < y.length) : 0 < (x ++ y).length := by rw [Str.length_append]; lia
theorem st_kept_q (G : LexG wc pc b S) {l : List Nat} (h0 : 0 < l.length) (h : ∀ c ∈ l, c ≠ 10 ∧ c ≠ 39 ∧ c ≠ 92) (k : ∀ z', StAt wc pc b z' ln cs (outN pc F er z' ln)) :
  StAt wc pc b z ln (39 :: (l ++ 39 :: cs)) (outN pc F ((strOf l, "kept") :: er) z ln) := by
 rw [out_word kept_gap (kind_kept _ _)]
 have hp : 0 < (wcur z ++ strOf l).length := app_len_pos (by show 0 < l.toArray.size; simpa using h0)
 exact st_sq G (sq_chars l _ h (sq_end (TkAt.qu hp (k (.word (wcur z ++ strOf l)) hp))))
theorem st_kept_qq (G : LexG wc pc b S) {l : List Nat} (h : ∀ c ∈ l, c ≠ 10 ∧ c ≠ 39 ∧ c ≠ 92) (k : ∀ z', StAt wc pc b z' ln cs (outN pc F er z' ln)) :
  StAt wc pc b z ln (39 :: 39 :: 34 :: 39 :: 34 :: 39 :: (l ++ 39 :: 34 :: 39 :: 34 :: 39 :: 39 :: cs)) (outN pc F (("'" ++ strOf l ++ "'", "kept") :: er) z ln) := by
 rw [out_word kept_gap (kind_kept _ _)]
 have e : wcur z ++ ("'" ++ strOf l ++ "'") = wcur z ++ sg 39 ++ strOf l ++ sg 39 := by
  rw [app_assoc (wcur z), app_assoc (wcur z)]
  rfl
 rw [show ("'" ++ strOf l ++ "'", ("kept" : Str)).1 = "'" ++ strOf l ++ "'" from rfl, e]
 have hp : 0 < (wcur z ++ sg 39 ++ strOf l ++ sg 39).length := app_pos _ _
 refine st_sq G (sq_end (a_dq (dq_in (by decide) (by decide) (by decide) (dq_end (a_sq (sq_chars l _ h (sq_end (a_dq (dq_in (by decide) (by decide) (by decide) (dq_end (a_sq (sq_end (TkAt.qu hp (k (.word (wcur z ++ sg 39 ++ strOf l ++ sg 39)) hp))))))))))))))
noncomputable def refL (mk en : Str) (z : Made) (ln : Int) : List AV := if en = "\\" then [.str "No escaped character", .sint ln, .str en, .sstr (wcur z)] else [.str "No closing quotation", .sint ln, .str en, .sstr (wcur z ++ mk)]
noncomputable def finL (mk en : Str) (z : Made) (ln : Int) : List (List AV) := if en = "" then emit ln z ++ [noneL ln, noneL ln] else preW ln z ++ [refL mk en z ln, refL mk en z ln]
theorem st_end0 {mk : Str} : StAt wc pc b z ln [] (finL mk "" z ln) := by
 unfold finL
 rw [if_pos rfl]
 cases z with
 | no => exact sp_eof
 | word cur => exact fun _ => a_eof
 | run cur => exact fun _ => c_eof
theorem st_end_es (G : LexG wc pc b S) {mk : Str} : StAt wc pc b z ln [92] (finL mk "\\" z ln) := by
 unfold finL refL
 rw [if_neg (by decide +kernel), if_pos rfl]
 exact st_es G e_eof
theorem st_end_sq (G : LexG wc pc b S) {l : List Nat} (h : ∀ c ∈ l, c ≠ 10 ∧ c ≠ 39 ∧ c ≠ 92) : StAt wc pc b z ln (39 :: l) (finL (strOf l) "'" z ln) := by
 unfold finL refL
 rw [if_neg (by decide +kernel), if_neg (by decide +kernel)]
 have := sq_chars (wc := wc) (pc := pc) (b := b) (ln := ln) (cs := []) l (wcur z) h sq_eof
 rw [List.append_nil] at this
 exact st_sq G this
theorem st_end_dq (G : LexG wc pc b S) {l : List Nat} (h : ∀ c ∈ l, c ≠ 10 ∧ c ≠ 34 ∧ c ≠ 92) : StAt wc pc b z ln (34 :: l) (finL (strOf l) "\"" z ln) := by
 unfold finL refL
 rw [if_neg (by decide +kernel), if_neg (by decide +kernel)]
 have := dq_chars (wc := wc) (pc := pc) (b := b) (ln := ln) (cs := []) l (wcur z) h dq_eof
 rw [List.append_nil] at this
 exact st_dq G this
end
end Mine
end
noncomputable section
namespace Mine
open PySem PySem.W PyProof.Rows PySem.Calls
noncomputable def pend (ln : Int) : Made → List (Str × Int)
 | .no => []
 | .word cur => [(cur, ln)]
 | .run cur => [(cur, ln)]
noncomputable def mname : Made → Str
 | .no => ""
 | .word _ => "word"
 | .run _ => "run"
noncomputable def finTd (mk en : Str) (z : TdS) : List (List AV) := if en = "" then z.1.map tlA ++ [[.none, .sint z.2.1], [.none, .sint z.2.1]] else (finOf z).map tlA ++ [refusalOf mk en z, refusalOf mk en z]
noncomputable def refT (mk en : Str) (z : Made) (ln : Int) : List AV := if en = "\\" then [.str "No escaped character", .sint ln, .sstr en, .sstr (wcur z)] else [.str "No closing quotation", .sint ln, .sstr en, .sstr (wcur z ++ mk)]
noncomputable def finT (mk en : Str) (z : Made) (ln : Int) : List (List AV) := if en = "" then emit ln z ++ [noneL ln, noneL ln] else preW ln z ++ [refT mk en z ln, refT mk en z ln]
theorem n1 : ("word" : Str) ≠ "" := by decide +kernel
theorem n2 : ("run" : Str) ≠ "" := by decide +kernel
theorem n3 : ("run" : Str) ≠ "word" := by decide +kernel
theorem n4 : ("" : Str) ≠ "word" := by decide +kernel
theorem n5 : ("" : Str) ≠ "run" := by decide +kernel
theorem pend_emit (ln : Int) (z : Made) : (pend ln z).map tlA = emit ln z := by cases z <;> rfl
theorem finTd_eq (mk en : Str) (L : List (Str × Int)) (z : Made) (ln : Int) : finTd mk en (L ++ pend ln z, ln, mname z) = L.map tlA ++ finT mk en z ln := by
 unfold finTd finT
 by_cases h : en = ""
 ·rw [if_pos h, if_pos h, List.map_append, pend_emit, List.append_assoc]
  rfl
 ·rw [if_neg h, if_neg h]
  have hb : begunOf (L ++ pend ln z, ln, mname z) = wcur z := by
   cases z with
   | no => exact if_neg n4
   | word cur =>
    refine (if_pos rfl).trans ?_
    show ((L ++ [(cur, ln)]).getLast?.map (fun x : Str × Int => x.1)).getD ("" : Str) = cur
    simp
   | run cur => exact if_neg n3
  have hf : (finOf (L ++ pend ln z, ln, mname z)).map tlA = L.map tlA ++ preW ln z := by
   cases z with
   | no =>
    refine (congrArg (List.map tlA) (if_neg n4)).trans ?_
    show (L ++ []).map tlA = _
    rw [List.append_nil]
    exact (List.append_nil _).symm
   | word cur =>
    refine (congrArg (List.map tlA) (if_pos rfl)).trans ?_
    show ((L ++ [(cur, ln)]).dropLast).map tlA = _
    rw [List.dropLast_concat]
    exact (List.append_nil _).symm
   | run cur =>
    refine (congrArg (List.map tlA) (if_neg n3)).trans ?_
    show (L ++ [(cur, ln)]).map tlA = _
    rw [List.map_append]
    rfl
  have hr : refusalOf mk en (L ++ pend ln z, ln, mname z) = refT mk en z ln := by
   unfold refusalOf refT
   rw [hb]
  rw [hf, hr, List.append_assoc]
theorem kind_two (mk : Str) (e : Str × Str) : tdKind mk e = "run" ∨ tdKind mk e = "word" := by
 unfold tdKind
 split
 ·exact .inl rfl
 ·exact .inr rfl
theorem told_rep (mk en : Str) : ∀ (er : List (Str × Str)) (L : List (Str × Int)) (z : Made) (ln : Int), finTd mk en (er.foldl (tdStep mk) (L ++ pend ln z, ln, mname z)) = L.map tlA ++ outN mk (finT mk en) er z ln
 | [], L, z, ln => finTd_eq mk en L z ln
 | e :: er, L, z, ln => by
  rw [List.foldl_cons]
  by_cases hg : e.2 = "gap"
  ·have st : tdStep mk (L ++ pend ln z, ln, mname z) e = ((L ++ pend (gapLn e.1 ln) z) ++ pend (gapLn e.1 ln) .no, gapLn e.1 ln, mname .no) := by
    unfold tdStep
    rw [if_pos hg]
    show (if mname z = "" then L ++ pend ln z else setLast (L ++ pend ln z) fun q => (q.1, gapLn e.1 ln), gapLn e.1 ln, ("" : Str)) = _
    cases z with
    | no => rw [if_pos (show mname .no = "" from rfl)]; simp only [mname, pend, List.append_nil]
    | word cur => rw [if_neg (show ¬ mname (.word cur) = "" from n1)]; simp only [mname, pend, setLast_snoc, List.append_nil]
    | run cur => rw [if_neg (show ¬ mname (.run cur) = "" from n2)]; simp only [mname, pend, setLast_snoc, List.append_nil]
   rw [st, told_rep mk en er, List.map_append, pend_emit, List.append_assoc]
   obtain ⟨x, y⟩ := e
   have hg : y = "gap" := hg
   subst hg
   rw [out_gap]
  ·rcases kind_two mk e with hk | hk
   ·have st : tdStep mk (L ++ pend ln z, ln, mname z) e = ((L ++ (if mname z = "word" then pend ln z else [])) ++ pend ln (.run (rcur z ++ e.1)), ln, mname (.run (rcur z ++ e.1))) := by
     unfold tdStep
     rw [if_neg hg, hk]
     show (if ("run" : Str) = mname z then setLast (L ++ pend ln z) (fun q => (q.1 ++ e.1, q.2)) else (L ++ pend ln z) ++ [(e.1, ln)], ln, ("run" : Str)) = _
     cases z with
     | no => rw [if_neg (show ¬ ("run" : Str) = mname .no from n2), if_neg (show ¬ mname .no = "word" from n4)]; simp only [mname, pend, rcur, emp_app, List.append_nil]
     | word cur => rw [if_neg (show ¬ ("run" : Str) = mname (.word cur) from n3), if_pos (show mname (.word cur) = "word" from rfl)]; simp only [mname, pend, rcur, emp_app]
     | run cur => rw [if_pos (show ("run" : Str) = mname (.run cur) from rfl), if_neg (show ¬ mname (.run cur) = "word" from n3)]; simp only [mname, pend, rcur, setLast_snoc, List.append_nil]
    rw [st, told_rep mk en er, List.map_append, out_run hg hk, List.append_assoc]
    congr 1
    congr 1
    cases z with
    | no => rw [if_neg (show ¬ mname .no = "word" from n4)]; rfl
    | word cur => rw [if_pos (show mname (.word cur) = "word" from rfl)]; rfl
    | run cur => rw [if_neg (show ¬ mname (.run cur) = "word" from n3)]; rfl
   ·have st : tdStep mk (L ++ pend ln z, ln, mname z) e = ((L ++ (if mname z = "run" then pend ln z else [])) ++ pend ln (.word (wcur z ++ e.1)), ln, mname (.word (wcur z ++ e.1))) := by
     unfold tdStep
     rw [if_neg hg, hk]
     show (if ("word" : Str) = mname z then setLast (L ++ pend ln z) (fun q => (q.1 ++ e.1, q.2)) else (L ++ pend ln z) ++ [(e.1, ln)], ln, ("word" : Str)) = _
     cases z with
     | no => rw [if_neg (show ¬ ("word" : Str) = mname .no from n1), if_neg (show ¬ mname .no = "run" from n5)]; simp only [mname, pend, wcur, emp_app, List.append_nil]
     | run cur => rw [if_neg (show ¬ ("word" : Str) = mname (.run cur) from word_run), if_pos (show mname (.run cur) = "run" from rfl)]; simp only [mname, pend, wcur, emp_app]
     | word cur => rw [if_pos (show ("word" : Str) = mname (.word cur) from rfl), if_neg (show ¬ mname (.word cur) = "run" from word_run)]; simp only [mname, pend, wcur, setLast_snoc, List.append_nil]
    rw [st, told_rep mk en er, List.map_append, out_word hg hk, List.append_assoc]
    congr 1
    congr 1
    cases z with
    | no => rw [if_neg (show ¬ mname .no = "run" from n5)]; rfl
    | run cur => rw [if_pos (show mname (.run cur) = "run" from rfl)]; rfl
    | word cur => rw [if_neg (show ¬ mname (.word cur) = "run" from word_run)]; rfl
theorem told_out (mk en : Str) (er : List (Str × Str)) : toldOut mk er en = outN mk (finT mk en) er .no 1 := by
 have := told_rep mk en er [] .no 1
 exact this
end Mine
end
noncomputable section
namespace Mine
open PySem PySem.W PyProof.Rows PySem.Calls
theorem SameA.rfl' {a : AV} (h : a = .none ∨ (∃ i, a = .sint i) ∨ ∃ x, a = .sstr x) : SameA a a := by
 rcases h with h | ⟨i, h⟩ | ⟨x, h⟩
 ·exact .inl ⟨h, h⟩
 ·exact .inr (.inl ⟨i, .inr h, .inr h⟩)
 ·exact .inr (.inr ⟨x, .inr h, .inr h⟩)
theorem SameT.append {a b c d : List (List AV)} (h : SameT a b) (k : SameT c d) : SameT (a ++ c) (b ++ d) := by
 induction h with
 | nil => exact k
 | cons h _ ih => exact .cons h ih
theorem same_tok (cur : Str) (ln : Int) : SameL [.sstr cur, .sint ln] [.sstr cur, .sint ln] := .cons (SameA.rfl' (.inr (.inr ⟨_, rfl⟩))) (.cons (SameA.rfl' (.inr (.inl ⟨_, rfl⟩))) .nil)
theorem same_none (ln : Int) : SameL (noneL ln) (noneL ln) := .cons (SameA.rfl' (.inl rfl)) (.cons (SameA.rfl' (.inr (.inl ⟨_, rfl⟩))) .nil)
theorem same_emit (ln : Int) (z : Made) : SameT (emit ln z) (emit ln z) := by
 cases z with
 | no => exact .nil
 | word cur => exact .cons (same_tok _ _) .nil
 | run cur => exact .cons (same_tok _ _) .nil
theorem same_preW (ln : Int) (z : Made) : SameT (preW ln z) (preW ln z) := by
 cases z with
 | no => exact .nil
 | word cur => exact .nil
 | run cur => exact .cons (same_tok _ _) .nil
theorem same_preR (ln : Int) (z : Made) : SameT (preR ln z) (preR ln z) := by
 cases z with
 | no => exact .nil
 | run cur => exact .nil
 | word cur => exact .cons (same_tok _ _) .nil
theorem same_ref (mk en : Str) (z : Made) (ln : Int) : SameL (refL mk en z ln) (refT mk en z ln) := by
 unfold refL refT
 split
 ·exact .cons (.inr (.inr ⟨_, .inl rfl, .inl rfl⟩)) (.cons (SameA.rfl' (.inr (.inl ⟨_, rfl⟩))) (.cons (.inr (.inr ⟨en, .inl rfl, .inr rfl⟩)) (.cons (SameA.rfl' (.inr (.inr ⟨_, rfl⟩))) .nil)))
 ·exact .cons (.inr (.inr ⟨_, .inl rfl, .inl rfl⟩)) (.cons (SameA.rfl' (.inr (.inl ⟨_, rfl⟩))) (.cons (.inr (.inr ⟨en, .inl rfl, .inr rfl⟩)) (.cons (SameA.rfl' (.inr (.inr ⟨_, rfl⟩))) .nil)))
theorem same_fin (mk en : Str) (z : Made) (ln : Int) : SameT (finL mk en z ln) (finT mk en z ln) := by
 unfold finL finT
 split
 ·exact (same_emit ln z).append (.cons (same_none ln) (.cons (same_none ln) .nil))
 ·exact (same_preW ln z).append (.cons (same_ref mk en z ln) (.cons (same_ref mk en z ln) .nil))
theorem same_out (mk en : Str) : ∀ (er : List (Str × Str)) (z : Made) (ln : Int), SameT (outN mk (finL mk en) er z ln) (outN mk (finT mk en) er z ln)
 | [], z, ln => same_fin mk en z ln
 | e :: er, z, ln => by
  rw [outN, outN]
  split
  ·exact (same_emit _ z).append (same_out mk en er _ _)
  ·split
   ·exact (same_preR ln z).append (same_out mk en er _ _)
   ·exact (same_preW ln z).append (same_out mk en er _ _)
noncomputable def FlatT (x : List (List AV)) : Prop := ∀ it ∈ x, lowAs 0 it = true
theorem FlatT.append {a b : List (List AV)} (h : FlatT a) (k : FlatT b) : FlatT (a ++ b) := fun it hi => (List.mem_append.mp hi).elim (h it) (k it)
theorem flat_one {it : List AV} (h : lowAs 0 it = true) : FlatT [it] := fun i hi => by rw [List.mem_singleton.mp hi]; exact h
theorem flat_nil : FlatT [] := fun _ h => nomatch h
theorem flat_emit (ln : Int) (z : Made) : FlatT (emit ln z) := by cases z <;> first | exact flat_nil | exact flat_one rfl
theorem flat_preW (ln : Int) (z : Made) : FlatT (preW ln z) := by cases z <;> first | exact flat_nil | exact flat_one rfl
theorem flat_preR (ln : Int) (z : Made) : FlatT (preR ln z) := by cases z <;> first | exact flat_nil | exact flat_one rfl
theorem flat_ref (mk en : Str) (z : Made) (ln : Int) : lowAs 0 (refL mk en z ln) = true := by unfold refL; split <;> rfl
theorem flat_fin (mk en : Str) (z : Made) (ln : Int) : FlatT (finL mk en z ln) := by
 unfold finL
 split
 ·exact (flat_emit ln z).append ((flat_one (it := noneL ln) rfl).append (flat_one (it := noneL ln) rfl))
 ·exact (flat_preW ln z).append ((flat_one (flat_ref mk en z ln)).append (flat_one (flat_ref mk en z ln)))
theorem flat_out (mk en : Str) : ∀ (er : List (Str × Str)) (z : Made) (ln : Int), FlatT (outN mk (finL mk en) er z ln)
 | [], z, ln => flat_fin mk en z ln
 | e :: er, z, ln => by
  rw [outN]
  split
  ·exact (flat_emit _ z).append (flat_out mk en er _ _)
  ·split
   ·exact (flat_preR ln z).append (flat_out mk en er _ _)
   ·exact (flat_preW ln z).append (flat_out mk en er _ _)
theorem emit_le (ln : Int) (z : Made) : (emit ln z).length ≤ 1 := by cases z <;> simp [emit]
theorem preW_le (ln : Int) (z : Made) : (preW ln z).length ≤ 1 := by cases z <;> simp [preW]
theorem preR_le (ln : Int) (z : Made) : (preR ln z).length ≤ 1 := by cases z <;> simp [preR]
theorem fin_le (mk en : Str) (z : Made) (ln : Int) : (finL mk en z ln).length ≤ 3 := by
 have h1 := emit_le ln z
 have h2 := preW_le ln z
 unfold finL
 split <;> (rw [List.length_append]; show _ + 2 ≤ 3; lia)
theorem out_le (mk en : Str) : ∀ (er : List (Str × Str)) (z : Made) (ln : Int), (outN mk (finL mk en) er z ln).length ≤ er.length + 3
 | [], z, ln => by have := fin_le mk en z ln; rw [outN]; simpa using this
 | e :: er, z, ln => by
  have h1 := emit_le (gapLn e.1 ln) z
  have h2 := preW_le ln z
  have h3 := preR_le ln z
  have g1 := out_le mk en er .no (gapLn e.1 ln)
  have g2 := out_le mk en er (.run (rcur z ++ e.1)) ln
  have g3 := out_le mk en er (.word (wcur z ++ e.1)) ln
  rw [outN, List.length_cons]
  split
  ·rw [List.length_append]; lia
  ·split <;> (rw [List.length_append]; lia)
end Mine
end
noncomputable section
namespace Mine
open PySem PySem.W PyProof.Rows PySem.Calls
theorem chars_app (x y : Str) : (x ++ y).cps.toList = x.cps.toList ++ y.cps.toList := by
 show (x.cps ++ y.cps).toList = _
 simp
theorem textL_from : ∀ (xs : List Int) (a : Str), xs.foldl (fun t x => t ++ textStep x) a = a ++ textL xs
 | [], a => by show a = a ++ strOf []; rw [app_nil]
 | x :: xs, a => by
  show xs.foldl _ (a ++ textStep x) = a ++ xs.foldl _ ("" ++ textStep x)
  rw [textL_from xs, textL_from xs, emp_app, app_assoc]
theorem textL_cons (x : Int) (xs : List Int) : textL (x :: xs) = textStep x ++ textL xs := by
 show xs.foldl _ ("" ++ textStep x) = _
 rw [textL_from, emp_app]
theorem rowL_from : ∀ (xs : List Int) (a : List (Str × Str)), xs.foldl (fun r x => r ++ rowStep x) a = a ++ rowL xs
 | [], a => (List.append_nil a).symm
 | x :: xs, a => by
  show xs.foldl _ (a ++ rowStep x) = a ++ xs.foldl _ ([] ++ rowStep x)
  rw [rowL_from xs, rowL_from xs, List.nil_append, List.append_assoc]
theorem rowL_cons (x : Int) (xs : List Int) : rowL (x :: xs) = rowStep x ++ rowL xs := by
 show xs.foldl _ ([] ++ rowStep x) = _
 rw [rowL_from, List.nil_append]
theorem gap_in : ∀ g ∈ gapM, ∀ x ∈ g, x ∈ ([" ", "\n", "\t", "\r", "# it's\n"] : List Str) := by decide +kernel
theorem chs_of (l : List Nat) : chs (strOf l) = l.map sg := by
 unfold chs
 have := range_map (fun c => sg c) 0 l
 rw [← this]
 show (List.range l.toArray.size).map _ = _
 rw [List.size_toArray]
 refine List.map_congr_left fun i _ => ?_
 show (⟨#[(l.toArray[i]?).getD 0]⟩ : Str) = _
 rw [List.getElem?_toArray]
theorem str_of (x : Str) : x = strOf x.cps.toList := by obtain ⟨a⟩ := x; rfl
section
variable {wc pc b : Str} {S : List Nat} {ln : Int} {cs : List Nat} {er : List (Str × Str)} {F : Made → Int → List (List AV)}
theorem st_rest (G : LexG wc pc b S) {l : List Nat} (hl : ∀ c ∈ l, c ∈ S) {g : List Str} (hg : g ∈ gapM) (k : ∀ z' ln', StAt wc pc b z' ln' cs (outN pc F er z' ln')) (z : Made) (ln : Int) :
  StAt wc pc b z ln (l ++ (g.flatMap (·.cps.toList) ++ cs)) (outN pc F (l.map (fun c => (sg c, ("sign" : Str))) ++ (g.map (fun x => (x, ("gap" : Str))) ++ er)) z ln) :=
 st_signs G l hl (fun z' => st_gaps G k g (gap_in g hg) z' ln) z
theorem st_text (hstep : ∀ x cs er, (∀ z' ln', StAt wc pc b z' ln' cs (outN pc F er z' ln')) → ∀ z ln, StAt wc pc b z ln ((textStep x).cps.toList ++ cs) (outN pc F (rowStep x ++ er) z ln)) {ecs : List Nat}
  (hend : ∀ z ln, StAt wc pc b z ln ecs (F z ln)) : ∀ (xs : List Int) z ln, StAt wc pc b z ln ((textL xs).cps.toList ++ ecs) (outN pc F (rowL xs) z ln)
 | [], z, ln => by
  show StAt wc pc b z ln ([] ++ ecs) (outN pc F [] z ln)
  rw [List.nil_append, outN]
  exact hend z ln
 | x :: xs, z, ln => by
  rw [textL_cons, rowL_cons, chars_app, List.append_assoc]
  exact hstep x _ _ (fun z' ln' => st_text hstep hend xs z' ln') z ln
theorem row_split (x : Int) (l : List Nat) (h : rS x = strOf l) (er : List (Str × Str)) : rowStep x ++ er = rK x ++ (l.map (fun c => (sg c, ("sign" : Str))) ++ ((rG x).map (fun x => (x, ("gap" : Str))) ++ er)) := by
 unfold rowStep
 rw [h, chs_of, List.map_map, List.append_assoc, List.append_assoc]
 rfl
theorem text_split (x : Int) (cs : List Nat) : (textStep x).cps.toList ++ cs = (rW x).cps.toList ++ ((rG x).flatMap (·.cps.toList) ++ cs) := by
 unfold textStep
 rw [chars_app, glued_nil, List.append_assoc]
end
end Mine
end
noncomputable section
namespace Mine
open PySem PySem.W PyProof.Rows PySem.Calls
theorem tenc {l : List Nat} {n : Nat} (h : l.length = n + 1) : ∃ a r, l = a :: r ∧ r.length = n := by
 rcases l with _ | ⟨a, r⟩
 ·cases h
 ·exact ⟨a, r, rfl, Nat.succ.inj h⟩
theorem ten {l : List Nat} (h : l.length = 10) : ∃ a b c d e f g i j k, l = [a, b, c, d, e, f, g, i, j, k] := by
 obtain ⟨a, r0, e0, h0⟩ := tenc h
 obtain ⟨b, r1, e1, h1⟩ := tenc h0
 obtain ⟨c, r2, e2, h2⟩ := tenc h1
 obtain ⟨d, r3, e3, h3⟩ := tenc h2
 obtain ⟨e, r4, e4, h4⟩ := tenc h3
 obtain ⟨f, r5, e5, h5⟩ := tenc h4
 obtain ⟨g, r6, e6, h6⟩ := tenc h5
 obtain ⟨i, r7, e7, h7⟩ := tenc h6
 obtain ⟨j, r8, e8, h8⟩ := tenc h7
 obtain ⟨k, r9, e9, h9⟩ := tenc h8
 exact ⟨a, b, c, d, e, f, g, i, j, k, by rw [e0, e1, e2, e3, e4, e5, e6, e7, e8, e9, List.length_eq_zero_iff.mp h9]⟩
theorem slice_ten (a b c d e f g i j k : Nat) : Txt.slice (strOf [a, b, c, d, e, f, g, i, j, k]) (some 1) none = strOf [b, c, d, e, f, g, i, j, k] := by kernel_rfl
theorem chr_ten (a b c d e f g i j k : Nat) : chrAt (strOf [a, b, c, d, e, f, g, i, j, k]) 0 = sg a := by kernel_rfl
theorem qt_chars (x : Str) : (qt x).cps.toList = 39 :: (rep 39 [39, 34, 39, 34, 39] x.cps.toList ++ [39]) := by
 unfold qt
 rw [chars_app, chars_app]
 have := replace_rep x "'\"'\"'" 39
 rw [show (("'" : Str)) = ⟨#[39]⟩ from rfl, this]
 rfl
theorem qt_strOf {l : List Nat} (h : 39 ∉ l) : (qt (strOf l)).cps.toList = 39 :: (l ++ [39]) := by
 rw [qt_chars, rep_free 39 _ _ h]
theorem qt_qt {l : List Nat} (h : 39 ∉ l) : (qt (qt (strOf l))).cps.toList = 39 :: 39 :: 34 :: 39 :: 34 :: 39 :: (l ++ 39 :: 34 :: 39 :: 34 :: 39 :: [39]) := by
 rw [qt_chars, qt_strOf h, show (39 :: (l ++ [39])) = [39] ++ (l ++ [39]) from rfl, rep_append, rep_append, rep_free 39 _ _ h]
 have e : rep 39 [39, 34, 39, 34, 39] [39] = [39, 34, 39, 34, 39] := by decide +kernel
 rw [e]
 simp
section
variable {wc pc b : Str} {S : List Nat} {ln : Int} {cs : List Nat} {er : List (Str × Str)} {F : Made → Int → List (List AV)}
theorem st_step (G : LexG wc pc b S) {x : Int} (hP : fmOut (md x + 65536 * wy x) = rSg x) (hS : ∀ c ∈ (rSg x).cps.toList, c ∈ S) (k : ∀ z' ln', StAt wc pc b z' ln' cs (outN pc F er z' ln')) (z : Made) (ln : Int) :
  StAt wc pc b z ln ((textStep x).cps.toList ++ cs) (outN pc F (rowStep x ++ er) z ln) := by
 rw [text_split]
 have hl : (rSg x).cps.toList.length = 10 := by have := rSg_len x; have h2 : (rSg x).length = (rSg x).cps.size := rfl; simp; lia
 have hx := str_of (rSg x)
 generalize (rSg x).cps.toList = l at hl hx hS
 have hok : ∀ c ∈ l, c ≠ 10 ∧ c ≠ 39 ∧ c ≠ 92 := fun c hc => by have := G.plain c (hS c hc); exact ⟨this.1, this.2.2.2.2.2.1, this.2.2.2.2.2.2.2⟩
 have h39 : 39 ∉ l := fun h => (hok 39 h).2.1 rfl
 by_cases w3 : wy x = 3
 ·obtain ⟨a, b1, c, d, e, f, g, i, j, m, rfl⟩ := ten hl
  have e1 : (rW x).cps.toList = 92 :: a :: [b1, c, d, e, f, g, i, j, m] := by
   unfold rW rW1 rN
   rw [if_pos w3, w3, show ((3 : Int).fmod 3).toNat = 0 from by decide, chars_app]
   have hP := hP
   rw [w3] at hP
   show _ ++ (fmOut (md x + 65536 * 3)).cps.toList = _
   rw [hP, hx]
   rfl
  have e2 : rK x = [(sg a, ("kept" : Str))] := by unfold rK; rw [if_pos w3, hx, chr_ten]
  have e3 : rS x = strOf [b1, c, d, e, f, g, i, j, m] := by unfold rS; rw [if_pos w3, hx, slice_ten]
  rw [row_split x _ e3, e1, e2]
  exact st_kept_es G (hok a (.head _)).1 fun z' => st_rest G (fun c hc => hS c (.tail _ hc)) (rG_mem x) k z' ln
 have hrW : rW x = rW1 x := if_neg w3
 by_cases hq : 0 < wy x ∧ chrAt (rSg x) 0 = "?"
 ·have hw := wy_bd x
  have e3 : rS x = strOf [] := by unfold rS; rw [if_neg w3, if_pos hq]; rfl
  have hfirst : (strOf l).cps[0]? = some 63 := by
   obtain ⟨a, b1, c, d, e, f, g, i, j, m, rfl⟩ := ten hl
   have := hq.2
   rw [hx, chr_ten] at this
   have : sg a = sg 63 := this
   injection this with this
   have : a = 63 := by simpa using this
   rw [this]; rfl
  have q1 : qtF (strOf l) = qt (strOf l) := if_pos (.inl hfirst)
  have q2 : qtF (qt (strOf l)) = qt (qt (strOf l)) := if_pos (.inr (qt_first _))
  have hlp : 0 < l.length := by lia
  have hw12 : wy x = 1 ∨ wy x = 2 := by have := hq.1; lia
  rcases hw12 with w | w
  ·have e1 : (rW x).cps.toList = 39 :: (l ++ [39]) := by
    rw [hrW]
    unfold rW1 rN
    rw [hP, hx, w, show ((1 : Int).fmod 3).toNat = 1 from by decide]
    show (qtF (strOf l)).cps.toList = _
    rw [q1, qt_strOf h39]
   have e2 : rK x = [(strOf l, ("kept" : Str))] := by
    unfold rK
    rw [if_neg w3, if_pos hq, hx, w]
    show [(("" : Str) ++ strOf l ++ "", ("kept" : Str))] = _
    rw [emp_app]
    rw [show strOf l ++ ("" : Str) = strOf l from app_nil _]
   rw [row_split x _ e3, e1, e2, List.cons_append, List.append_assoc]
   exact st_kept_q G hlp hok fun z' => st_rest (l := []) G (fun c hc => absurd hc List.not_mem_nil) (rG_mem x) k z' ln
  ·have e1 : (rW x).cps.toList = 39 :: 39 :: 34 :: 39 :: 34 :: 39 :: (l ++ 39 :: 34 :: 39 :: 34 :: 39 :: [39]) := by
    rw [hrW]
    unfold rW1 rN
    rw [hP, hx, w, show ((2 : Int).fmod 3).toNat = 2 from by decide]
    show (qtF (qtF (strOf l))).cps.toList = _
    rw [q1, q2, qt_qt h39]
   have e2 : rK x = [("'" ++ strOf l ++ "'", ("kept" : Str))] := by
    unfold rK
    rw [if_neg w3, if_pos hq, hx, w]
    rfl
   rw [row_split x _ e3, e1, e2]
   have := st_kept_qq G (l := l) (cs := (rG x).flatMap (·.cps.toList) ++ cs) (ln := ln) (z := z) (F := F) (er := ([] : List Nat).map (fun c => (sg c, ("sign" : Str))) ++ ((rG x).map (fun x => (x, ("gap" : Str))) ++ er)) hok fun z' => st_rest (l := []) G (fun c hc => absurd hc List.not_mem_nil) (rG_mem x) k z' ln
   simpa using this
 ·have e3 : rS x = strOf l := by unfold rS; rw [if_neg w3, if_neg hq, hx]
  have e2 : rK x = [] := by unfold rK; rw [if_neg w3, if_neg hq]
  have e1 : (rW x).cps.toList = l := by
   have hq0 : ∀ n, (n = 0 ∨ chrAt (rSg x) 0 ≠ "?") → qtN n (strOf l) = strOf l := by
    intro n hn
    induction n with
    | zero => rfl
    | succ n ih =>
     have hne : chrAt (rSg x) 0 ≠ "?" := hn.elim (fun h => by cases h) id
     show qtF (qtN n (strOf l)) = _
     rw [ih (.inr hne)]
     refine if_neg fun h => ?_
     obtain ⟨a, b1, c, d, e, f, g, i, j, m, rfl⟩ := ten hl
     rcases h with h | h
     ·have : a = 63 := by simpa using h
      exact hne (by rw [hx, chr_ten, this]; rfl)
     ·have : a = 39 := by simpa using h
      exact h39 (this ▸ .head _)
   rw [hrW]
   unfold rW1
   rw [hP, hx, hq0 (rN x) ?_]
   by_cases w0 : 0 < wy x
   ·exact .inr fun h => hq ⟨w0, h⟩
   ·left
    have := wy_bd x
    unfold rN
    rw [show wy x = 0 by lia]
    rfl
  rw [row_split x _ e3, e1, e2, List.nil_append]
  exact st_rest G hS (rG_mem x) k z ln
end
end Mine
end
noncomputable section
namespace Mine
open PySem PySem.W PyProof.Rows PySem.Calls
theorem slice_one1 (h a b c d e f g i j k : Nat) : Txt.slice (strOf [h, a, b, c, d, e, f, g, i, j, k]) none (some 1) = sg h := by kernel_rfl
theorem st_end {wc pc b : Str} {S : List Nat} (G : LexG wc pc b S) {f : Int} (hpc : pc = fmOut (md f)) (z : Made) (ln : Int) : StAt wc pc b z ln (endOf f).cps.toList (finL pc (enOf f) z ln) := by
 have hl : pc.cps.toList.length = 10 := by rw [hpc]; have := fmOut_size (md f); simpa using this
 have hx := str_of pc
 have hok : ∀ c ∈ pc.cps.toList, c ≠ 10 ∧ c ≠ 39 ∧ c ≠ 34 ∧ c ≠ 92 := fun c hc => by have := G.plain c (G.pS c hc); exact ⟨this.1, this.2.2.2.2.2.1, this.2.2.2.2.2.2.1, this.2.2.2.2.2.2.2⟩
 by_cases h0 : wayOf f = 0
 ·have e : endOf f = "" := if_pos h0
  have e2 : enOf f = "" := by unfold enOf; rw [e]; decide +kernel
  rw [e, e2]
  exact st_end0
 by_cases h1 : wayOf f = 1
 ·have e : endOf f = "\"" ++ pc := by rw [hpc]; unfold endOf; rw [if_neg h0, if_pos h1]
  have ec : (endOf f).cps.toList = 34 :: pc.cps.toList := by rw [e, chars_app]; rfl
  have e2 : enOf f = "\"" := by
   unfold enOf
   rw [str_of (endOf f), ec]
   obtain ⟨a, b1, c, d, e, g, i, j, k, m, h⟩ := ten hl
   rw [h]
   exact slice_one1 ..
  rw [ec, e2]
  have := st_end_dq (z := z) (ln := ln) G (l := pc.cps.toList) fun c hc => ⟨(hok c hc).1, (hok c hc).2.2.1, (hok c hc).2.2.2⟩
  rw [← hx] at this
  exact this
 by_cases h2 : wayOf f = 2
 ·have e : endOf f = "'" ++ pc := by rw [hpc]; unfold endOf; rw [if_neg h0, if_neg h1, if_pos h2]
  have ec : (endOf f).cps.toList = 39 :: pc.cps.toList := by rw [e, chars_app]; rfl
  have e2 : enOf f = "'" := by
   unfold enOf
   rw [str_of (endOf f), ec]
   obtain ⟨a, b1, c, d, e, g, i, j, k, m, h⟩ := ten hl
   rw [h]
   exact slice_one1 ..
  rw [ec, e2]
  have := st_end_sq (z := z) (ln := ln) G (l := pc.cps.toList) fun c hc => ⟨(hok c hc).1, (hok c hc).2.1, (hok c hc).2.2.2⟩
  rw [← hx] at this
  exact this
 ·have e : endOf f = "\\" := by unfold endOf; rw [if_neg h0, if_neg h1, if_neg h2]
  have e2 : enOf f = "\\" := by unfold enOf; rw [e]; decide +kernel
  rw [e, e2]
  exact st_end_es G
structure SignsOk (S : List Nat) : Prop where
 same : ∀ (m w : Int), 0 ≤ m → m < 65536 → 0 ≤ w → w < 4 → fmOut (m + 65536 * w) = sgOut m
 inS : ∀ m : Int, 0 ≤ m → m < 65536 → ∀ c ∈ (sgOut m).cps.toList, c ∈ S
 plain : ∀ c ∈ S, c ≠ 10 ∧ c ≠ 9 ∧ c ≠ 13 ∧ c ≠ 32 ∧ c ≠ 35 ∧ c ≠ 39 ∧ c ≠ 34 ∧ c ≠ 92
 wS : ∀ pc : Str, (∀ c ∈ pc.cps.toList, c ∈ S) → ∀ c ∈ S, c ∉ pc.cps.toList → c ∈ (wcOf pc).cps.toList
 wp : ∀ pc : Str, ∀ c ∈ pc.cps.toList, c ∉ (wcOf pc).cps.toList
 q1 : ∀ pc : Str, 39 ∉ (wcOf pc).cps.toList
 q2 : ∀ pc : Str, 34 ∉ (wcOf pc).cps.toList
theorem plain_law {S : List Nat} (H : SignsOk S) (ns : List Int) : PlainLaw ns := by
 have hm := md_bd (firstOf ns)
 have hpc : fmOut (md (firstOf ns)) = sgOut (md (firstOf ns)) := by
  have := H.same (md (firstOf ns)) 0 hm.1 hm.2 (by decide) (by decide)
  rwa [Int.mul_zero, Int.add_zero] at this
 have hpS : ∀ c ∈ (fmOut (md (firstOf ns))).cps.toList, c ∈ S := by rw [hpc]; exact H.inS _ hm.1 hm.2
 have G : LexG (wcF (firstOf ns)) (fmOut (md (firstOf ns))) (txF ns) S := by
  refine ⟨?_, by rw [fmOut_len10]; decide, by rw [fmOut_len10]; decide, hpS, H.wS _ hpS, H.wp _, H.plain, H.q1 _, H.q2 _⟩
  unfold txF
  rw [Str.length_append]
  have := textIn_len ns
  have := endOf_len (firstOf ns)
  lia
 have st := st_text (wc := wcF (firstOf ns)) (pc := fmOut (md (firstOf ns))) (b := txF ns) (F := finL (fmOut (md (firstOf ns))) (enOf (firstOf ns)))
  (fun x cs er k z ln => st_step G (by have h := md_bd x; have hw := wy_bd x; exact H.same (md x) (wy x) h.1 h.2 hw.1 (by lia)) (by have h := md_bd x; exact H.inS _ h.1 h.2) k z ln)
  (fun z ln => st_end G rfl z ln) (rowIn ns) .no 1
 refine ⟨_, SpAt.calls st (p := 0) (pb := []) (q := false) (esc := " ") (.read rfl ?_), ?_, ?_, ?_⟩
 ·have := AtP.start (txF ns)
  unfold txF at this ⊢
  rw [chars_app] at this
  exact this
 ·unfold toldF
  rw [told_out, ← hpc]
  exact same_out ..
 ·have := out_le (fmOut (md (firstOf ns))) (enOf (firstOf ns)) (rowL (rowIn ns)) .no 1
  have := rowL_small ns
  lia
 ·exact flat_out _ _ _ _ _
end Mine
end
noncomputable section
namespace Mine
open PySem PySem.W PyProof.Rows PySem.Calls
theorem stored_keys {K : Type} [DecidableEq K] (k : List (K × Value)) (x y : K) (v : Value) : y ∈ (stored k x v).map (·.1) ↔ y ∈ k.map (·.1) ∨ y = x := by
 unfold stored
 split
 ·rename_i h
  refine el1_2 (List.any_eq_true.mp h) fun q hq e => ?_
  have e : q.1 = x := of_decide_eq_true e
  rw [List.map_map]
  constructor
  ·intro hm
   refine el1_2 (List.mem_map.mp hm) fun r hr q0_2 => ?_; subst q0_2
   left
   refine List.mem_map.mpr ⟨r, hr, ?_⟩
   show r.1 = (if r.1 = x then (r.1, v) else r).1
   split <;> rfl
  ·rintro (hm | rfl)
   ·refine el1_2 (List.mem_map.mp hm) fun r hr q0_2 => ?_; subst q0_2
    refine List.mem_map.mpr ⟨r, hr, ?_⟩
    show (if r.1 = x then (r.1, v) else r).1 = r.1
    split <;> rfl
   ·refine List.mem_map.mpr ⟨q, hq, ?_⟩
    show (if q.1 = y then (q.1, v) else q).1 = y
    split <;> exact e
 ·simp
theorem kvS_keys (l : List Nat) (y : Str) : y ∈ (kvS l).map (·.1) ↔ ∃ c ∈ l, y = sg c := by
 have key : ∀ (l : List Nat) (k : List (Str × Value)), y ∈ (l.foldl (fun k c => stored k (⟨#[c]⟩ : Str) .none) k).map (·.1) ↔ y ∈ k.map (·.1) ∨ ∃ c ∈ l, y = sg c := by
  intro l
  induction l with
  | nil => intro k; simp
  | cons c l ih =>
   intro k
   rw [List.foldl_cons, ih, stored_keys]
   simp [or_assoc]
 have := key l []
 rw [show (y ∈ ([] : List (Str × Value)).map (·.1)) = False by simp, false_or] at this
 exact this
theorem kvI_keys (kvs : List (Str × Value)) (i : Int) : i ∈ (kvI kvs).map (·.1) ↔ ∃ y ∈ kvs.map (·.1), i = (((y.cps[0]?).getD 0 : Nat) : Int) := by
 have key : ∀ (kvs : List (Str × Value)) (k : List (Int × Value)), i ∈ (kvs.foldl (fun k kv => stored k ((((kv.1.cps[0]?).getD 0 : Nat) : Int)) kv.2) k).map (·.1) ↔ i ∈ k.map (·.1) ∨ ∃ y ∈ kvs.map (·.1), i = (((y.cps[0]?).getD 0 : Nat) : Int) := by
  intro kvs
  induction kvs with
  | nil => intro k; simp
  | cons kv kvs ih =>
   intro k
   rw [List.foldl_cons, ih, stored_keys]
   simp [or_assoc]
 have := key kvs []
 rw [show (i ∈ ([] : List (Int × Value)).map (·.1)) = False by simp, false_or] at this
 exact this
theorem wc_mem (pc : Str) (c : Nat) : c ∈ (wcOf pc).cps.toList ↔ c ∈ wcK.cps.toList ∧ c ∉ pc.cps.toList := by
 unfold wcOf wcOut
 show c ∈ (List.filter _ wcK.cps.toList).toArray.toList ↔ _
 rw [List.toList_toArray, List.mem_filter]
 refine and_congr_right fun _ => ?_
 unfold outK
 rw [Bool.not_eq_true', decide_eq_false_iff_not, kvI_keys]
 refine not_congr ⟨?_, fun h => ⟨sg c, (kvS_keys _ _).mpr ⟨c, h, rfl⟩, by simp⟩⟩
 rintro ⟨y, hy, e⟩
 refine el1_2 ((kvS_keys _ _).mp hy) fun d hd q0_2 => ?_; subst q0_2
 have : c = d := Int.ofNat.inj e
 rw [this]; exact hd
noncomputable def signsL : List Nat := [63, 112, 99, 100, 98, 45, 108, 115, 114, 119, 120, 83, 116, 84]
theorem signs_plain : ∀ c ∈ signsL, c ≠ 10 ∧ c ≠ 9 ∧ c ≠ 13 ∧ c ≠ 32 ∧ c ≠ 35 ∧ c ≠ 39 ∧ c ≠ 34 ∧ c ≠ 92 := by decide
theorem signs_wc : ∀ c ∈ signsL, c ∈ wcK.cps.toList := by decide +kernel
theorem wcK_q : 39 ∉ wcK.cps.toList ∧ 34 ∉ wcK.cps.toList := by decide +kernel
end Mine
end
noncomputable section
namespace Mine
open PySem PySem.W PyProof.Rows PySem.Calls
theorem and_win (n s t k : Nat) (hk : k < 2 ^ t) : n &&& (k * 2 ^ s) = ((n / 2 ^ s % 2 ^ t) &&& k) * 2 ^ s := by
 apply Nat.eq_of_testBit_eq
 intro i
 rw [Nat.testBit_and, Nat.testBit_mul_two_pow, Nat.testBit_mul_two_pow, Nat.testBit_and, Nat.testBit_mod_two_pow, Nat.testBit_div_two_pow]
 by_cases h : s ≤ i
 ·have e : s + (i - s) = i := by lia
  by_cases h2 : i - s < t
  ·simp [h, h2, e]
  ·have : k.testBit (i - s) = false := Nat.testBit_lt_two_pow (Nat.lt_of_lt_of_le hk (Nat.pow_le_pow_right (by decide) (by lia)))
   simp [h, this]
 ·simp [h]
theorem band_nat (a b : Nat) : Builtin.bitAnd (a : Int) (b : Int) = ((a &&& b : Nat) : Int) := by
 unfold Builtin.bitAnd
 rw [decide_eq_true (by lia : (0 : Int) ≤ (a : Int)), decide_eq_true (by lia : (0 : Int) ≤ (b : Int))]
 rfl
end Mine
end
noncomputable section
namespace Mine
open PySem PySem.W PyProof.Rows PySem.Calls
theorem cond_win (N s t k : Nat) (hk : k < 2 ^ t) : (Builtin.bitAnd (N : Int) ((k * 2 ^ s : Nat) : Int) == ((k * 2 ^ s : Nat) : Int)) = ((N / 2 ^ s % 2 ^ t) &&& k == k) := by
 rw [band_nat, and_win N s t k hk, Bool.eq_iff_iff, beq_iff_eq, beq_iff_eq]
 have hp : 0 < 2 ^ s := Nat.pow_pos (by decide)
 constructor
 ·intro h
  exact Nat.eq_of_mul_eq_mul_right hp (Int.ofNat.inj h)
 ·intro h
  rw [h]
theorem cond_f (m bit : Int) : fmCond false m bit = (Builtin.bitAnd m bit == bit) := rfl
theorem ch_one (N : Nat) {i s : Nat} {a b : Addr} {x : Str} (hi : i ≠ 0) (h : fmTable[i]? = some (a, [(b, ((1 * 2 ^ s : Nat) : Int), x)])) : fmCh (N : Int) i = if (N / 2 ^ s % 2 ^ 1 &&& 1 == 1) = true then x else "-" := by
 have h0 : ((i : Int) == 0) = false := beq_eq_false_iff_ne.mpr (by lia)
 unfold fmCh
 rw [h, h0]
 show (if fmCond false (N : Int) ((1 * 2 ^ s : Nat) : Int) = true then x else if false = true then "?" else "-") = _
 rw [cond_f, cond_win N s 1 1 (by decide)]
 rfl
theorem ch_three (N : Nat) {i s t k : Nat} {a b c d : Addr} {x y z : Str} (hk : k < 2 ^ t) (hk1 : 1 < 2 ^ t) (h : fmTable[i]? = some (a, [(b, (((k + 1) * 2 ^ s : Nat) : Int), x), (c, ((k * 2 ^ s : Nat) : Int), y), (d, ((1 * 2 ^ s : Nat) : Int), z)])) (hi : i ≠ 0) (hkk : k + 1 < 2 ^ t) :
  fmCh (N : Int) i = if (N / 2 ^ s % 2 ^ t &&& (k + 1) == k + 1) = true then x else if (N / 2 ^ s % 2 ^ t &&& k == k) = true then y else if (N / 2 ^ s % 2 ^ t &&& 1 == 1) = true then z else "-" := by
 have h0 : ((i : Int) == 0) = false := beq_eq_false_iff_ne.mpr (by lia)
 unfold fmCh
 rw [h, h0]
 show (if fmCond false (N : Int) (((k + 1) * 2 ^ s : Nat) : Int) = true then x else if fmCond false (N : Int) ((k * 2 ^ s : Nat) : Int) = true then y else if fmCond false (N : Int) ((1 * 2 ^ s : Nat) : Int) = true then z else if false = true then "?" else "-") = _
 rw [cond_f, cond_f, cond_f, cond_win N s t (k + 1) hkk, cond_win N s t k hk, cond_win N s t 1 hk1]
 rfl
end Mine
end
noncomputable section
namespace Mine
open PySem PySem.W PyProof.Rows PySem.Calls
noncomputable def kindQ (q : Nat) : Str := if q == 10 then "l" else if q == 12 then "s" else if q == 8 then "-" else if q == 6 then "b" else if q == 4 then "d" else if q == 2 then "c" else if q == 1 then "p" else "?"
theorem and15 : ∀ q : Nat, q < 16 → q &&& 15 = q := by decide
theorem cond_k (N c : Nat) : fmCond true (N : Int) ((c * 4096 : Nat) : Int) = (N / 4096 % 16 == c) := by
 show (Builtin.bitAnd (N : Int) ((15 * 2 ^ 12 : Nat) : Int) == ((c * 4096 : Nat) : Int)) = _
 rw [band_nat, and_win N 12 4 15 (by decide), show (2 : Nat) ^ 12 = 4096 from rfl, show (2 : Nat) ^ 4 = 16 from rfl, and15 _ (Nat.mod_lt _ (by decide)), Bool.eq_iff_iff, beq_iff_eq, beq_iff_eq]
 constructor
 ·intro h
  exact Nat.eq_of_mul_eq_mul_right (by decide) (Int.ofNat.inj h)
 ·intro h
  rw [h]
theorem ch_kind (N : Nat) : fmCh (N : Int) 0 = kindQ (N / 4096 % 16) := by
 show (if fmCond true (N : Int) ((10 * 4096 : Nat) : Int) = true then ("l" : Str) else if fmCond true (N : Int) ((12 * 4096 : Nat) : Int) = true then "s" else if fmCond true (N : Int) ((8 * 4096 : Nat) : Int) = true then "-" else if fmCond true (N : Int) ((6 * 4096 : Nat) : Int) = true then "b" else if fmCond true (N : Int) ((4 * 4096 : Nat) : Int) = true then "d" else if fmCond true (N : Int) ((2 * 4096 : Nat) : Int) = true then "c" else if fmCond true (N : Int) ((1 * 4096 : Nat) : Int) = true then "p" else if true = true then "?" else "-") = _
 rw [cond_k, cond_k, cond_k, cond_k, cond_k, cond_k, cond_k]
 rfl
theorem kind_same : ∀ q : Nat, q < 16 → chrAt "?pc?d?b?-?l?s???" ((q : Nat) : Int) = kindQ q := by decide +kernel
end Mine
end
noncomputable section
namespace Mine
open PySem PySem.W PyProof.Rows PySem.Calls
theorem fd_nat (n k m : Nat) : ((n : Int).fdiv (k : Int)).fmod (m : Int) = ((n / k % m : Nat) : Int) := by
 rw [Int.fdiv_eq_ediv_of_nonneg _ (Int.natCast_nonneg _), Int.fmod_eq_emod_of_nonneg _ (Int.natCast_nonneg _)]
 rfl
theorem fig_nat (n : Nat) (k : Nat) (hk : k = 64 ∨ k = 8 ∨ k = 1) : ((n : Int).fdiv (k : Int)).fmod 8 = ((n / k % 8 : Nat) : Int) := fd_nat n k 8
theorem abv_nat (n : Nat) (k : Nat) (hk : k = 2048 ∨ k = 1024 ∨ k = 512) : ((n : Int).fdiv (k : Int)).fmod 2 = ((n / k % 2 : Nat) : Int) := fd_nat n k 2
noncomputable def triN (f a : Nat) (p : Int) : Str := chrAt "-r" (((f : Nat) : Int).fdiv 4) ++ chrAt "-w" ((((f : Nat) : Int).fdiv 2).fmod 2) ++ chrAt "-xSs-xTt" (p.fdiv 2 * 4 + ((a : Nat) : Int) * 2 + ((f : Nat) : Int).fmod 2)
theorem tri0 (n : Nat) : tri (n : Int) 0 = triN (n / 64 % 8) (n / 2048 % 2) 0 := by
 unfold tri triN
 have e1 : fig (n : Int) 0 = ((n / 64 % 8 : Nat) : Int) := fig_nat n 64 (.inl rfl)
 have e2 : abv (n : Int) 0 = ((n / 2048 % 2 : Nat) : Int) := abv_nat n 2048 (.inl rfl)
 rw [e1, e2]
theorem tri1 (n : Nat) : tri (n : Int) 1 = triN (n / 8 % 8) (n / 1024 % 2) 1 := by
 unfold tri triN
 have e1 : fig (n : Int) 1 = ((n / 8 % 8 : Nat) : Int) := fig_nat n 8 (.inr (.inl rfl))
 have e2 : abv (n : Int) 1 = ((n / 1024 % 2 : Nat) : Int) := abv_nat n 1024 (.inr (.inl rfl))
 rw [e1, e2]
theorem tri2 (n : Nat) : tri (n : Int) 2 = triN (n / 1 % 8) (n / 512 % 2) 2 := by
 unfold tri triN
 have e1 : fig (n : Int) 2 = ((n / 1 % 8 : Nat) : Int) := fig_nat n 1 (.inr (.inr rfl))
 have e2 : abv (n : Int) 2 = ((n / 512 % 2 : Nat) : Int) := abv_nat n 512 (.inr (.inr rfl))
 rw [e1, e2]
noncomputable def tri3 (f a : Nat) (y x : Str) : Str := (if f / 4 = 1 then ("r" : Str) else "-") ++ (if f / 2 % 2 = 1 then ("w" : Str) else "-") ++ (if a = 1 ∧ f % 2 = 1 then y else if a = 1 then x else if f % 2 = 1 then "x" else "-")
theorem triN_all : ∀ f : Nat, f < 8 → ∀ a : Nat, a < 2 → triN f a 0 = tri3 f a "s" "S" ∧ triN f a 1 = tri3 f a "s" "S" ∧ triN f a 2 = tri3 f a "t" "T" := by decide +kernel
end Mine
end
noncomputable section
namespace Mine
open PySem PySem.W PyProof.Rows PySem.Calls
noncomputable def thr (k q : Nat) (y x : Str) : Str := if (q &&& (k + 1) == k + 1) = true then y else if (q &&& k == k) = true then x else if (q &&& 1 == 1) = true then "x" else "-"
noncomputable def thr2 (k q : Nat) (y x : Str) : Str := if q / k = 1 ∧ q % 2 = 1 then y else if q / k = 1 then x else if q % 2 = 1 then "x" else "-"
theorem thr_a : ∀ q : Nat, q < 64 → thr 32 q "s" "S" = thr2 32 q "s" "S" := by decide +kernel
theorem thr_b : ∀ q : Nat, q < 256 → thr 128 q "s" "S" = thr2 128 q "s" "S" := by decide +kernel
theorem thr_c : ∀ q : Nat, q < 1024 → thr 512 q "t" "T" = thr2 512 q "t" "T" := by decide +kernel
theorem bit1 : ∀ q : Nat, q < 2 → (q &&& 1 == 1) = decide (q = 1) := by decide
theorem one_sign (q : Nat) (hq : q < 2) (y : Str) : (if (q &&& 1 == 1) = true then y else "-") = if q = 1 then y else "-" := by rw [bit1 q hq]; simp
theorem dv {n w s m : Nat} (r : Nat) (hs : 0 < s) (h : 65536 = s * (m * r)) : (n + 65536 * w) / s % m = n / s % m := by
 rw [h, Nat.mul_assoc s, Nat.add_mul_div_left _ _ hs, Nat.mul_assoc m, Nat.add_mul_mod_self_left]
theorem dq (n a b c : Nat) : n / a % (b * c) / b = n / (a * b) % c := by rw [Nat.mod_mul_right_div_self, Nat.div_div_eq_div_mul]
theorem dq2 (n a b c : Nat) (h : c ∣ b) : n / a % b % c = n / a % c := Nat.mod_mod_of_dvd _ h
theorem dq3 (n a b c d : Nat) (h : d ∣ c) : n / a % (b * c) / b % d = n / (a * b) % d := by rw [dq, Nat.mod_mod_of_dvd _ h]
theorem dr1 (n w : Nat) : (n + 65536 * w) / 2 ^ 8 % 2 = n / 64 % 8 / 4 := (dv 128 (by decide) rfl).trans (dq n 64 4 2).symm
theorem dr2 (n w : Nat) : (n + 65536 * w) / 2 ^ 7 % 2 = n / 64 % 8 / 2 % 2 := (dv 256 (by decide) rfl).trans (dq3 n 64 2 4 2 ⟨2, rfl⟩).symm
theorem dr4 (n w : Nat) : (n + 65536 * w) / 2 ^ 5 % 2 = n / 8 % 8 / 4 := (dv 1024 (by decide) rfl).trans (dq n 8 4 2).symm
theorem dr5 (n w : Nat) : (n + 65536 * w) / 2 ^ 4 % 2 = n / 8 % 8 / 2 % 2 := (dv 2048 (by decide) rfl).trans (dq3 n 8 2 4 2 ⟨2, rfl⟩).symm
theorem dr7 (n w : Nat) : (n + 65536 * w) / 2 ^ 2 % 2 = n / 1 % 8 / 4 := (dv 8192 (by decide) rfl).trans (dq n 1 4 2).symm
theorem dr8 (n w : Nat) : (n + 65536 * w) / 2 ^ 1 % 2 = n / 1 % 8 / 2 % 2 := (dv 16384 (by decide) rfl).trans (dq3 n 1 2 4 2 ⟨2, rfl⟩).symm
theorem ds3 (n w : Nat) : (n + 65536 * w) / 2 ^ 6 % 2 ^ 6 / 32 = n / 2048 % 2 := (congrArg (·/ 32) (dv (m := 2 ^ 6) 16 (by decide) rfl)).trans (dq n 64 32 2)
theorem ds3' (n w : Nat) : (n + 65536 * w) / 2 ^ 6 % 2 ^ 6 % 2 = n / 64 % 8 % 2 := (congrArg (·% 2) (dv (m := 2 ^ 6) 16 (by decide) rfl)).trans ((dq2 n 64 (2 ^ 6) 2 ⟨32, rfl⟩).trans (dq2 n 64 8 2 ⟨4, rfl⟩).symm)
theorem ds6 (n w : Nat) : (n + 65536 * w) / 2 ^ 3 % 2 ^ 8 / 128 = n / 1024 % 2 := (congrArg (·/ 128) (dv (m := 2 ^ 8) 32 (by decide) rfl)).trans (dq n 8 128 2)
theorem ds6' (n w : Nat) : (n + 65536 * w) / 2 ^ 3 % 2 ^ 8 % 2 = n / 8 % 8 % 2 := (congrArg (·% 2) (dv (m := 2 ^ 8) 32 (by decide) rfl)).trans ((dq2 n 8 (2 ^ 8) 2 ⟨128, rfl⟩).trans (dq2 n 8 8 2 ⟨4, rfl⟩).symm)
theorem ds9 (n w : Nat) : (n + 65536 * w) / 2 ^ 0 % 2 ^ 10 / 512 = n / 512 % 2 := (congrArg (·/ 512) (dv (m := 2 ^ 10) 64 (by decide) rfl)).trans (dq n 1 512 2)
theorem ds9' (n w : Nat) : (n + 65536 * w) / 2 ^ 0 % 2 ^ 10 % 2 = n / 1 % 8 % 2 := (congrArg (·% 2) (dv (m := 2 ^ 10) 64 (by decide) rfl)).trans ((dq2 n 1 (2 ^ 10) 2 ⟨512, rfl⟩).trans (dq2 n 1 8 2 ⟨4, rfl⟩).symm)
section
variable (n w : Nat) (hn : n < 65536)
include hn
theorem c1 : fmCh ((n + 65536 * w : Nat) : Int) 1 = if n / 64 % 8 / 4 = 1 then ("r" : Str) else "-" := by
 rw [ch_one (n + 65536 * w) (i := 1) (s := 8) (a := 761) (b := 760) (x := "r") (by decide) rfl, show (2 : Nat) ^ 1 = 2 from rfl, one_sign _ (Nat.mod_lt _ (by decide)), dr1]
theorem c2 : fmCh ((n + 65536 * w : Nat) : Int) 2 = if n / 64 % 8 / 2 % 2 = 1 then ("w" : Str) else "-" := by
 rw [ch_one (n + 65536 * w) (i := 2) (s := 7) (a := 763) (b := 762) (x := "w") (by decide) rfl, show (2 : Nat) ^ 1 = 2 from rfl, one_sign _ (Nat.mod_lt _ (by decide)), dr2]
theorem c4 : fmCh ((n + 65536 * w : Nat) : Int) 4 = if n / 8 % 8 / 4 = 1 then ("r" : Str) else "-" := by
 rw [ch_one (n + 65536 * w) (i := 4) (s := 5) (a := 769) (b := 768) (x := "r") (by decide) rfl, show (2 : Nat) ^ 1 = 2 from rfl, one_sign _ (Nat.mod_lt _ (by decide)), dr4]
theorem c5 : fmCh ((n + 65536 * w : Nat) : Int) 5 = if n / 8 % 8 / 2 % 2 = 1 then ("w" : Str) else "-" := by
 rw [ch_one (n + 65536 * w) (i := 5) (s := 4) (a := 771) (b := 770) (x := "w") (by decide) rfl, show (2 : Nat) ^ 1 = 2 from rfl, one_sign _ (Nat.mod_lt _ (by decide)), dr5]
theorem c7 : fmCh ((n + 65536 * w : Nat) : Int) 7 = if n / 1 % 8 / 4 = 1 then ("r" : Str) else "-" := by
 rw [ch_one (n + 65536 * w) (i := 7) (s := 2) (a := 777) (b := 776) (x := "r") (by decide) rfl, show (2 : Nat) ^ 1 = 2 from rfl, one_sign _ (Nat.mod_lt _ (by decide)), dr7]
theorem c8 : fmCh ((n + 65536 * w : Nat) : Int) 8 = if n / 1 % 8 / 2 % 2 = 1 then ("w" : Str) else "-" := by
 rw [ch_one (n + 65536 * w) (i := 8) (s := 1) (a := 779) (b := 778) (x := "w") (by decide) rfl, show (2 : Nat) ^ 1 = 2 from rfl, one_sign _ (Nat.mod_lt _ (by decide)), dr8]
theorem c3 : fmCh ((n + 65536 * w : Nat) : Int) 3 = if n / 2048 % 2 = 1 ∧ n / 64 % 8 % 2 = 1 then ("s" : Str) else if n / 2048 % 2 = 1 then "S" else if n / 64 % 8 % 2 = 1 then "x" else "-" := by
 rw [ch_three (n + 65536 * w) (i := 3) (s := 6) (t := 6) (k := 32) (a := 767) (b := 764) (c := 765) (d := 766) (x := "s") (y := "S") (z := "x") (by decide) (by decide) rfl (by decide) (by decide)]
 refine (thr_a _ (Nat.mod_lt _ (by decide))).trans ?_
 unfold thr2
 rw [ds3, ds3']
theorem c6 : fmCh ((n + 65536 * w : Nat) : Int) 6 = if n / 1024 % 2 = 1 ∧ n / 8 % 8 % 2 = 1 then ("s" : Str) else if n / 1024 % 2 = 1 then "S" else if n / 8 % 8 % 2 = 1 then "x" else "-" := by
 rw [ch_three (n + 65536 * w) (i := 6) (s := 3) (t := 8) (k := 128) (a := 775) (b := 772) (c := 773) (d := 774) (x := "s") (y := "S") (z := "x") (by decide) (by decide) rfl (by decide) (by decide)]
 refine (thr_b _ (Nat.mod_lt _ (by decide))).trans ?_
 unfold thr2
 rw [ds6, ds6']
theorem c9 : fmCh ((n + 65536 * w : Nat) : Int) 9 = if n / 512 % 2 = 1 ∧ n / 1 % 8 % 2 = 1 then ("t" : Str) else if n / 512 % 2 = 1 then "T" else if n / 1 % 8 % 2 = 1 then "x" else "-" := by
 rw [ch_three (n + 65536 * w) (i := 9) (s := 0) (t := 10) (k := 512) (a := 783) (b := 780) (c := 781) (d := 782) (x := "t") (y := "T") (z := "x") (by decide) (by decide) rfl (by decide) (by decide)]
 refine (thr_c _ (Nat.mod_lt _ (by decide))).trans ?_
 unfold thr2
 rw [ds9, ds9']
end
end Mine
end
noncomputable section
namespace Mine
open PySem PySem.W PyProof.Rows PySem.Calls
theorem kind_n (n w : Nat) (hn : n < 65536) : fmCh ((n + 65536 * w : Nat) : Int) 0 = kindCh (n : Int) := by
 have e : (n + 65536 * w) / 4096 % 16 = n / 4096 := (dv (m := 16) 1 (by decide) rfl).trans (Nat.mod_eq_of_lt (Nat.div_lt_of_lt_mul hn))
 rw [ch_kind, e]
 unfold kindCh
 rw [Int.fdiv_eq_ediv_of_nonneg _ (by decide), show (n : Int) / 4096 = ((n / 4096 : Nat) : Int) from rfl]
 exact (kind_same _ (Nat.div_lt_of_lt_mul hn)).symm
theorem signs_same (n w : Nat) (hn : n < 65536) : fmOut ((n + 65536 * w : Nat) : Int) = sgOut (n : Int) := by
 apply str_ext
 unfold fmOut
 rw [glued_nil]
 show ([fmCh ((n + 65536 * w : Nat) : Int) 0, fmCh ((n + 65536 * w : Nat) : Int) 1, fmCh ((n + 65536 * w : Nat) : Int) 2, fmCh ((n + 65536 * w : Nat) : Int) 3, fmCh ((n + 65536 * w : Nat) : Int) 4, fmCh ((n + 65536 * w : Nat) : Int) 5, fmCh ((n + 65536 * w : Nat) : Int) 6, fmCh ((n + 65536 * w : Nat) : Int) 7, fmCh ((n + 65536 * w : Nat) : Int) 8, fmCh ((n + 65536 * w : Nat) : Int) 9] : List Str).flatMap (·.cps.toList) = _
 rw [kind_n n w hn, c1 n w hn, c2 n w hn, c3 n w hn, c4 n w hn, c5 n w hn, c6 n w hn, c7 n w hn, c8 n w hn, c9 n w hn]
 show _ = (((kindCh (n : Int) ++ tri (n : Int) 0) ++ tri (n : Int) 1) ++ tri (n : Int) 2).cps.toList
 rw [tri0, tri1, tri2, (triN_all _ (Nat.mod_lt _ (by decide)) _ (Nat.mod_lt _ (by decide))).1, (triN_all _ (Nat.mod_lt _ (by decide)) _ (Nat.mod_lt _ (by decide))).2.1, (triN_all _ (Nat.mod_lt _ (by decide)) _ (Nat.mod_lt _ (by decide))).2.2]
 unfold tri3
 simp only [chars_app, List.append_assoc, List.flatMap_cons, List.flatMap_nil, List.append_nil]
end Mine
end
noncomputable section
namespace Mine
open PySem PySem.W PyProof.Rows PySem.Calls
theorem safe_in : ∀ c ∈ safeL, c ∈ signsL := by decide
theorem signsOk : SignsOk signsL where
 same m w h0 h1 h2 h3 := by
  refine el1_1 (Int.eq_ofNat_of_zero_le h0) fun n q0_1 => ?_; subst q0_1
  refine el1_1 (Int.eq_ofNat_of_zero_le h2) fun k q0_1 => ?_; subst q0_1
  have := signs_same n k (by lia)
  rw [← this]
  congr 1
 inS m h0 h1 c hc := by
  refine el1_1 (Int.eq_ofNat_of_zero_le h0) fun n q0_1 => ?_; subst q0_1
  have := signs_same n 0 (by lia)
  rw [← this, fmOut_list] at hc
  refine el1_2 (List.mem_map.mp hc) fun i hi q0_2 => ?_; subst q0_2
  rcases (fmC_spec _ i (List.mem_range.mp hi)).2 with h | ⟨_, h⟩
  ·exact safe_in _ h
  ·rw [h]; decide
 plain := signs_plain
 wS pc _ c hc n := (wc_mem pc c).mpr ⟨signs_wc c hc, n⟩
 wp pc c hc h := ((wc_mem pc c).mp h).2 hc
 q1 pc h := wcK_q.1 ((wc_mem pc 39).mp h).1
 q2 pc h := wcK_q.2 ((wc_mem pc 34).mp h).1
theorem plain_all (ns : List Int) : PlainLaw ns := plain_law signsOk ns
end Mine
end
noncomputable section
namespace Mine
open PySem PySem.W PyProof.Rows
noncomputable def topT (st : SharedT → Thread → Option (SharedT × Thread)) (ok : Thread → Bool) : Nat → SharedT → Thread → Option SharedT
 | 0, _, _ => none
 | n + 1, s, t => match through t with
  | true => some s
  | false => match ok t with
   | false => none
   | true => match st s t with
    | some (s', t') => topT st ok n s' t'
    | none => none
noncomputable def btOf : List Obj → BT → Nat → Option BT
 | [], t, _ => some t
 | o :: l, t, n => match ((t.ins n o).get n).isSome with
  | true => btOf l (t.ins n o) (n + 1)
  | false => none
noncomputable def toT (s : Shared) : Option SharedT := match btOf s.heap.objs.toList .nil 0 with
 | some t => some ⟨t, s.heap.objs.size, s.heap.life, s.gens, s.drawn, s.toks, s.os⟩
 | none => none
theorem topT_sound {tb : String → Option Builtin} {p : Program} {w : World} {n₀ : Nat} {ann : Option Value} : ∀ {n : Nat} {S S₁ : SharedT} {t : Thread}, topT (stepT (denote tb) p w) (stepOk n₀ ann) n S t = some S₁ → topRun tb p w n₀ ann n S.abs t = some S₁.abs
 | 0, _, _, _, h => by cases h
 | n + 1, S, S₁, t, h => by
  unfold topT at h
  unfold topRun
  cases ht : through t with
  | true => rw [ht] at h; cases h; rfl
  | false =>
   rw [ht] at h
   cases hk : stepOk n₀ ann t with
   | false => rw [hk] at h; cases h
   | true =>
    rw [hk] at h
    cases hs : stepT (denote tb) p w S t with
    | none => rw [hs] at h; cases h
    | some r =>
     obtain ⟨S₂, t₂⟩ := r
     rw [hs] at h
     rw [stepT_spec hs]
     exact topT_sound h
theorem btOf_abs {life : Life} : ∀ {l pre : List Obj} {t t' : BT}, btOf l t pre.length = some t' → absHeap t pre.length life = ⟨pre.toArray, life⟩ → absHeap t' (pre ++ l).length life = ⟨(pre ++ l).toArray, life⟩
 | [], pre, t, t', h, e => by cases h; simpa using e
 | o :: l, pre, t, t', h, e => by
  unfold btOf at h
  split at h
  ·rename_i g
   have e' : absHeap (t.ins pre.length o) (pre ++ [o]).length life = ⟨(pre ++ [o]).toArray, life⟩ := by
    have := absHeap_ins (life := life) g
    rw [List.length_append, List.length_singleton, this, e]
    show Heap.push ⟨pre.toArray, life⟩ o = _
    simp [Heap.push]
   have hl : pre.length + 1 = (pre ++ [o]).length := by simp
   rw [hl] at h
   have := btOf_abs h e'
   simpa using this
  ·cases h
theorem toT_sound {s : Shared} {S : SharedT} (h : toT s = some S) : S.abs = s := by
 unfold toT at h
 split at h
 ·rename_i t ht
  cases h
  have := btOf_abs (life := s.heap.life) (pre := []) ht (by unfold absHeap; simp [BT.list])
  obtain ⟨⟨⟨l⟩, lf⟩, g, d, k, os⟩ := s
  unfold SharedT.abs
  simp only [List.nil_append] at this
  have e : absHeap t l.length lf = ⟨l.toArray, lf⟩ := this
  show Shared.mk (absHeap t (Array.mk l).size lf) g d k os = _
  rw [show (Array.mk l).size = l.length from rfl, e]
 ·cases h
theorem leftO_of {p q : Program} {loose : List Str} {Xt : Shared → Bool} {α : Type} {Yf : Shared → α} {Yt : SharedT → α} {Ya : World → α} {N : Nat} (hY : ∀ S, Yf S.abs = Yt S)
  (h : ∀ w, ((fencedOpening treeTable p w N).bind fun s₀ => (toT s₀).bind fun S => (topT (stepT (denote treeTable) p w) (stepOk s₀.heap.objs.size (s₀.heap.nsMap mainGlobals "__annotations__")) N S (topStub p)).map fun S₁ =>
   (s₀.heap.isNs mainGlobals && s₀.gens.size == 0, staticsOk (importedModules p.main.body) s₀.heap S₁.abs.heap && namesBound p S₁.abs.heap && gensDone S₁.abs && laidKept s₀.heap S₁.abs.heap,
    openSeen q loose (importedModules p.main.body) Xt true S₁.abs, Yt S₁)) = some (true, true, openGood q loose, Ya w)) : LeftO p q loose Xt Yf Ya N := by
 intro w
 obtain ⟨s₀, h1, h2⟩ := Option.bind_eq_some_iff.mp (h w)
 obtain ⟨S, h3, h4⟩ := Option.bind_eq_some_iff.mp h2
 obtain ⟨S₁, h5, h6⟩ := Option.map_eq_some_iff.mp h4
 obtain ⟨e1, e2, e3, e4⟩ : _ ∧ _ ∧ _ ∧ _ := by simpa only [Prod.mk.injEq] using h6
 have r := topT_sound h5
 rw [toT_sound h3] at r
 unfold openEnds
 rw [h1]
 show (topFrom treeTable p w N s₀).map _ = _
 unfold topFrom
 rw [e1]
 dsimp only
 rw [r]
 show ((match staticsOk (importedModules p.main.body) s₀.heap S₁.abs.heap && namesBound p S₁.abs.heap && gensDone S₁.abs && laidKept s₀.heap S₁.abs.heap with | true => some S₁.abs | false => none).map _) = _
 rw [e2]
 exact congrArg some (Prod.ext e3 ((hY S₁).trans e4))
end Mine
end
noncomputable section
namespace Mine
open PySem PySem.W PyProof.Rows PySem.Calls
noncomputable def fragAt (h : Heap) : List Addr → Frag
 | [] => []
 | a :: l => match h.get? a with
  | some o => (a, o) :: fragAt h l
  | none => fragAt h l
theorem fragAt_in (h : Heap) : ∀ l, Frag.In (fragAt h l) h
 | [], a, o, e => by cases e
 | b :: l, a, o, e => by
  unfold fragAt at e
  split at e
  ·rename_i q
   rw [List.lookup_cons] at e
   split at e
   ·rename_i g; cases e; rw [eq_of_beq g]; exact q
   ·exact fragAt_in h l a o e
  ·exact fragAt_in h l a o e
noncomputable def fdAt (K : Frag) (f : Addr) : Option FuncData := match K.lookup f with
 | some ⟨_, _, .func fd, _⟩ => some fd
 | _ => none
theorem fdAt_of {K : Frag} {f : Addr} {fd : FuncData} (e : fdAt K f = some fd) : ∃ oc od sl, K.lookup f = some ⟨oc, od, .func fd, sl⟩ := by
 unfold fdAt at e
 split at e
 ·rename_i q; cases e; exact ⟨_, _, _, q⟩
 ·cases e
noncomputable abbrev FnS := Option (FuncBody × Scope × Addr × Addr × List (Str × Addr) × Bool)
noncomputable abbrev BdS := Setting → Value → Value → Value → Option (Option (List (Str × Value)))
noncomputable def fnS (K : Frag) (f : Addr) : FnS := (fdAt K f).map fun fd => (fd.body, fd.scope, fd.globals, fd.builtins, fd.closure, codeIn K fd.code fd.qualname)
noncomputable def bdS (K : Frag) (f n : Nat) : BdS := fun S a b c => (fdAt K f).map fun fd => peek K S (bindArgs fd ⟨[a, b, c].take n, []⟩)
noncomputable def fnG (d : Option (List Stmt × Scope)) : FnS := some (.stmts (bodyOf d), scopeOf d, mainGlobals, builtinsNs, [], true)
noncomputable def bdG (n : Nat) (ns : List Str) (ds : List Value) : BdS := fun _ a b c => some (some (ns.zip ([a, b, c].take n ++ ds)))
noncomputable def sideOk (sc : Scope) (ns : List Str) : Bool := !sc.isCoroutine && (!sc.isGenerator && ((match sc.kind with | .function => true | _ => false) && (sc.names.all (fun x => match x.2 with | .cell => false | _ => true) && ns.all fun n => match sc.names.lookup n with | some .local => true | _ => false)))
structure Side (sc : Scope) (ns : List Str) : Prop where
 co : sc.isCoroutine = false
 gen : sc.isGenerator = false
 kf : sc.kind = .function
 cell : ∀ x ∈ sc.names, x.2 ≠ .cell
 loc : ∀ n ∈ ns, sc.names.lookup n = some .local
theorem side_of {sc : Scope} {ns : List Str} (e : sideOk sc ns = true) : Side sc ns := by
 unfold sideOk at e
 simp only [Bool.and_eq_true, Bool.not_eq_true', List.all_eq_true] at e
 refine el0_5 e fun e1 e2 e3 e4 e5 => ?_
 refine ⟨e1, e2, ?_, fun x hx q => ?_, fun n hn => ?_⟩
 ·split at e3
  ·assumption
  ·cases e3
 ·have := e4 x hx
  rw [q] at this
  cases this
 ·have := e5 n hn
  split at this
  ·assumption
  ·cases this
theorem code_of {K : Frag} {cd : Value} {q : Str} (e : codeIn K cd q = true) : ∃ c o vs t, cd = .ref c ∧ K.lookup c = some o ∧ o.data = .fields vs ∧ vs[1]? = some (.str q t) := by
 unfold codeIn at e
 split at e
 ·split at e
  ·rename_i c _ _ _ vs _ hl
   split at e
   ·rename_i a n t r hv
    rw [← eq_of_beq e]
    refine ⟨_, _, vs, t, rfl, hl, rfl, ?_⟩
    rw [← Array.getElem?_toList, hv]
    rfl
   ·cases e
  ·cases e
 ·cases e
theorem fnS_of {K : Frag} {f : Addr} {d : Option (List Stmt × Scope)} (e : fnS K f = fnG d) : ∃ fd, fdAt K f = some fd ∧ fd.body = .stmts (bodyOf d) ∧ fd.scope = scopeOf d ∧ fd.globals = mainGlobals ∧ fd.builtins = builtinsNs ∧ fd.closure = [] ∧ codeIn K fd.code fd.qualname = true := by
 unfold fnS fnG at e
 refine el1_2 (Option.map_eq_some_iff.mp e) fun fd h1 h2 => ?_
 simp only [Prod.mk.injEq] at h2
 exact ⟨fd, h1, h2⟩
theorem take_three {vs : List Value} {n : Nat} (h : vs.length = n) (hn : n ≤ 3) : ∃ a b c, vs = [a, b, c].take n := by
 subst h
 rcases vs with _ | ⟨a, _ | ⟨b, _ | ⟨c, _ | ⟨d, r⟩⟩⟩⟩
 ·exact ⟨.none, .none, .none, rfl⟩
 ·exact ⟨a, .none, .none, rfl⟩
 ·exact ⟨a, b, .none, rfl⟩
 ·exact ⟨a, b, c, rfl⟩
 ·exact absurd (Nat.le_of_succ_le_succ (Nat.le_of_succ_le_succ (Nat.le_of_succ_le_succ hn))) (Nat.not_succ_le_zero _)
theorem fnAt_of {K : Frag} {f : Addr} {d : Option (List Stmt × Scope)} {n : Nat} {ns : List Str} {ds : List Value} (e1 : fnS K f = fnG d) (e2 : bdS K f n = bdG n ns ds) (hn : n ≤ 3) (hs : sideOk (scopeOf d) ns = true) (w : World) :
  FnAt prog0 w K f (bodyOf d) (scopeOf d) n (fun vs => ns.zip (vs ++ ds)) := by
 refine el1_7 (fnS_of e1) fun fd h1 h2 h3 h4 h5 h6 h7 => ?_
 refine el3_1 (fdAt_of h1) fun oc od sl hl => ?_
 have S := side_of hs
 refine ⟨⟨fd, oc, od, sl, hl, h2, h3, h4, h5, h6, code_of h7, fun vs h hv X => ?_⟩, S.co, S.gen, S.kf, S.cell, fun vs hv x hx => S.loc _ (List.of_mem_zip hx).1⟩
 refine el3_1 (take_three hv hn) fun a b c q0_3 => ?_; subst q0_3
 have z : ∀ St, peek K St (bindArgs fd ⟨[a, b, c].take n, []⟩) = some (ns.zip ([a, b, c].take n ++ ds)) := fun St => by
  have := congrFun (congrFun (congrFun (congrFun e2 St) a) b) c
  unfold bdS bdG at this
  rw [h1] at this
  exact Option.some.inj this
 exact Looks.of_peek X (z _)
noncomputable def fnL : List (Addr × Option (List Stmt × Scope) × Nat × List Str × List Value) := [(63, dIndex, 2, nm ["n", "what"], []), (381, dCheck, 1, nm ["self"], []), (395, dLine, 2, nm ["self", "limit"], []), (551, dReadline, 1, nm ["self", "size"], [.int (-1) 960]), (663, dPc, 1, nm ["self"], []),
 (700, dRt, 1, nm ["self"], []), (693, dGt, 1, nm ["self"], []), (543, dRead, 2, nm ["self", "size"], []), (824, dLc, 1, nm ["lexer"], []), (798, dMode, 1, nm ["number"], []), (805, dSigns, 1, nm ["mode"], []), (791, dFilemode, 1, nm ["mode"], []), (751, dIfmt, 1, nm ["mode"], []),
 (744, dQuote, 1, nm ["s"], []), (810, dRow, 1, nm ["numbers"], []), (817, dTold, 3, nm ["row", "marks", "end"], []), (374, dTrans, 2, nm ["self", "s"], []), (367, dSinit, 2, nm ["self", "initial_value", "newline"], [.str "\n" 756])]
theorem fnL_side : (fnL.all fun p => Nat.ble p.2.2.1 3 && sideOk (scopeOf p.2.1) p.2.2.2.1) = true := by kernel_rfl
noncomputable def glS (K : Frag) (x : Str) : Option Value := match nsIn K mainGlobals x with
 | some (some v) => some v
 | some none => (match nsIn K builtinsNs x with
  | some (some v) => some v
  | _ => none)
 | none => none
noncomputable def keepS (K : Frag) (v : Value) : Bool := match v with
 | .ref _ => keepIn K v
 | _ => true
theorem glS_of {K : Frag} {x : Str} {v : Value} (e : glS K x = some v) : nsIn K mainGlobals x = some (some v) ∨ (nsIn K mainGlobals x = some none ∧ nsIn K builtinsNs x = some (some v)) := by
 unfold glS at e
 split at e
 ·cases e; exact .inl ‹_›
 ·split at e
  ·cases e; exact .inr ⟨‹_›, ‹_›⟩
  ·cases e
 ·cases e
theorem keepS_of {K : Frag} {v : Value} (e : keepS K v = true) (a : Addr) (h : v = .ref a) : keepIn K v = true := by
 subst h; exact e
noncomputable def gAll : List (Str × Value) := gL ++ gL2 ++ gL3
noncomputable def paS (K : Frag) (C : Addr) (x : Str) := (plainGet K C x, hasDictIn K C, findIn K (.ref C) x, plainOver K C, takerIn K C x, findIn K (.ref C) "__setattr__")
noncomputable def meS (K : Frag) (C : Addr) (x : Str) (f : Addr) := (plainGet K C x, findIn K (.ref C) x, typeIn K (.ref f), keepIn K (.ref f))
noncomputable def prS (K : Frag) (C : Addr) (x : Str) := (plainGet K C x, hasDictIn K C, match findIn K (.ref C) x with
 | some (some (.ref p)) => some (specialIn K (.ref p) "__get__", takesIn K (.ref p), (recIn K p "property").map List.head?)
 | _ => none)
noncomputable def iS (K : Frag) (a : Addr) : Option (Value × Option Addr × Nat × Array (Option Value) × Int × Str) := match K.lookup a with
 | some ⟨c, d, .seq vs n, sl⟩ => (match vs.toList with
  | [.int i t, .str s u] => some (c, d, n, sl, i, s)
  | _ => none)
 | _ => none
theorem iS_of {K : Frag} {a : Addr} {i : Int} {s : Str} (e : iS K a = some (.type "tuple", none, 0, #[], i, s)) : ∃ t u, K.lookup a = some (tupObj [.int i t, .str s u] 0) := by
 unfold iS at e
 split at e
 ·split at e
  ·rename_i c d vs n sl hl _ i' t s' u hv
   cases e
   refine ⟨t, u, ?_⟩
   rw [hl, show vs = [Value.int i t, .str s u].toArray from by rw [← hv]]
  ·cases e
 ·cases e
noncomputable def reS (K : Frag) : Option (Value × Option Addr × Nat × Array (Option Value) × List Int) := match K.lookup 48 with
 | some ⟨c, d, .seq vs n, sl⟩ => some (c, d, n, sl, vs.toList.map Builtin.Re.reRawOf)
 | _ => none
theorem reS_of {K : Frag} (e : reS K = some (.type "tuple", none, 0, #[], sreCode)) : ∃ cvs, K.lookup 48 = some (tupObj cvs 0) ∧ cvs.map Builtin.Re.reRawOf = sreCode := by
 unfold reS at e
 split at e
 ·rename_i c d vs n sl hl
  simp only [Option.some.injEq, Prod.mk.injEq] at e
  obtain ⟨rfl, rfl, rfl, rfl, e⟩ := e
  exact ⟨vs.toList, hl, e⟩
 ·cases e
noncomputable def fdS (K : Frag) (f : Addr) : Option (Arguments × Value) := (fdAt K f).map fun fd => (fd.params, fd.defaults)
noncomputable def clS (K : Frag) : Option (Bool × Bool × Value) := match K.lookup 597 with
 | some ⟨oc, od, .cls cd, sl⟩ => some (cd.abstract, cd.hasDel, oc)
 | _ => none
noncomputable def nwS (K : Frag) := ((clS K, fun S => peek K S (mroOf (.ref 597)), fun S => peek K S (checkBuiltinCall "object.__new__" ⟨[.ref 597], []⟩), fun S => peek K S (isType (.ref 597)), fun S => peek K S (Bind.madeHere "object.__new__" (.ref 597)), fun S => peek K S (Bind.madeBy (.ref 597))),
 (specialIn K (.ref 597) "__call__", instIn K (.ref 597) (.type "type"), mroIn K 597 (.ref 597), typeIn K (.ref 597), readsIn K 597 (.type "type"), findCls K (.ref 597) (.type "type") "__new__"),
 (recIn K 94 "staticmethod", findIn K (.ref 597) "__init__", typeIn K (.ref 367)))
noncomputable def nwG : (Option (Bool × Bool × Value) × (Setting → Option (List Value)) × (Setting → Option Unit) × (Setting → Option Bool) × (Setting → Option Unit) × (Setting → Option (Option String))) × (Option (Option Value) × Option Bool × Option Bool × Option Value × Bool × Option CFound) × (Option (List Value) × Option (Option Value) × Option Value) :=
 ((some (false, false, .type "type"), fun _ => some [.ref 597, .ref 120, .ref 93, .type "object"], fun _ => some (), fun _ => some true, fun _ => some (), fun _ => some none),
 (some (some (.builtin "type.__call__")), some true, some true, some (.type "type"), true, some (.get (.builtin "staticmethod.__get__") (.ref 94) .none (.ref 597))),
 (some [.ref 90], some (some (.ref 367)), some (.type "function")))
noncomputable def liS (K : Frag) := (fun (S : Setting) (a b c d : Value) => (fdAt K 656).map fun fd => peek K S (bindArgs fd ⟨[a, b], [("posix", c), ("punctuation_chars", d)]⟩), fnS K 656, makesIn K 732, findIn K (.ref 732) "__init__", typeIn K (.ref 656))
noncomputable def liG : (Setting → Value → Value → Value → Value → Option (Option (List (Str × Value)))) × FnS × Bool × Option (Option Value) × Option Value := (fun _ a b c d => some (some [("self", a), ("instream", b), ("infile", .none), ("posix", c), ("punctuation_chars", d)]), fnG dLinit, true, some (some (.ref 656)), some (.type "function"))
noncomputable def kS1 (K : Frag) := ((nsOkIn K cStatics, nsIn K cStatics "sys.recursionlimit", nsIn K mainGlobals "ValueError", nsIn K builtinsNs "ValueError"), lexNames.map (paS K 732), sioNames.map (paS K 597), meL.map (fun p => meS K p.1 p.2.1 p.2.2), meL3.map (fun p => meS K p.1 p.2.1 p.2.2), prL.map (fun p => prS K p.1 p.2.1), gAll.map fun p => (glS K p.1, keepS K p.2))
noncomputable def paG : Bool × Bool × Option (Option Value) × Bool × Option (Option Value) × Option (Option Value) := (true, true, some none, true, some none, some (some (.builtin "object.__setattr__")))
noncomputable def meG (f : Addr) : Bool × Option (Option Value) × Option Value × Bool := (true, some (some (.ref f)), some (.type "function"), true)
noncomputable def prG (f : Addr) : Bool × Bool × Option (Option (Option Value) × Option Bool × Option (Option Value)) := (true, true, some (some (some (.builtin "property.__get__")), some true, some (some (.ref f))))
noncomputable def kG1 : (Bool × Option (Option Value) × Option (Option Value) × Option (Option Value)) × List (Bool × Bool × Option (Option Value) × Bool × Option (Option Value) × Option (Option Value)) × List (Bool × Bool × Option (Option Value) × Bool × Option (Option Value) × Option (Option Value)) × List (Bool × Option (Option Value) × Option Value × Bool) × List (Bool × Option (Option Value) × Option Value × Bool) × List (Bool × Bool × Option (Option (Option Value) × Option Bool × Option (Option Value))) × List (Option Value × Bool) :=
 ((true, some none, some none, some (some (.type "ValueError"))), lexNames.map (fun _ => paG), sioNames.map (fun _ => paG), meL.map (fun p => meG p.2.2), meL3.map (fun p => meG p.2.2), prL.map (fun p => prG p.2.2), gAll.map fun p => (some p.2, true))
noncomputable def kS2 (K : Frag) := fnL.map fun p => (fnS K p.1, bdS K p.1 p.2.2.1)
noncomputable def kG2 := fnL.map fun p => (fnG p.2.1, bdG p.2.2.1 p.2.2.2.1 p.2.2.2.2)
noncomputable def kS3 (K : Frag) := ((reS K, K.lookup 49, K.lookup 737, nsIn K mainGlobals "_find_unsafe", nsIn K mainGlobals "_filemode_table", K.lookup 784), fmTable.map (fun p => (K.lookup p.1, p.2.map fun q => iS K q.1)), (fnS K 90, fdS K 90), (nsIn K mainGlobals "BytesIO", nsIn K mainGlobals "StringIO", nsIn K mainGlobals "object", nsIn K builtinsNs "object", nsIn K mainGlobals "dict", nsIn K builtinsNs "dict"), ((K.lookup 350).isSome, (K.lookup sysModules).isSome))
noncomputable def kG3 : (Option (Value × Option Addr × Nat × Array (Option Value) × List Int) × Option Obj × Option Obj × Option (Option Value) × Option (Option Value) × Option Obj) × List (Option Obj × List (Option (Value × Option Addr × Nat × Array (Option Value) × Int × Str))) × (FnS × Option (Arguments × Value)) × (Option (Option Value) × Option (Option Value) × Option (Option Value) × Option (Option Value) × Option (Option Value) × Option (Option Value)) × (Bool × Bool) :=
 ((some (.type "tuple", none, 0, #[], sreCode), some (patObj 332 369 0 0), some bndObj, some (some (.ref 737)), some (some (.ref 784)), some (tupObj (fmTable.map fun p => .ref p.1) 0)), fmTable.map (fun p => (some (tupObj (p.2.map fun q => .ref q.1) 0), p.2.map fun q => some (Value.type "tuple", none, 0, #[], q.2.1, q.2.2))), (fnG dNew, some (newPar, .none)), (some (some (.ref 350)), some (some (.ref 597)), some none, some (some (.type "object")), some none, some (some (.type "dict"))), (true, true))
end Mine
end
noncomputable section
namespace Mine
open PySem PySem.W PyProof.Rows PySem.Calls
noncomputable def kAddrs : List Addr := [732, 597, 3, 1, 731, 596, 120, 119, 93, 92, 0, 2, 48, 49, 62, 63, 89, 90, 94, 350, 360, 366, 367, 373, 374, 380, 381, 394, 395, 536, 542, 543, 544, 550, 551, 649, 655, 656, 662, 663, 664, 692, 693, 699, 700, 737, 743, 744, 750, 751, 752, 753, 754, 755, 756, 757, 758, 759, 760, 761, 762, 763, 764, 765, 766, 767, 768, 769, 770, 771, 772, 773, 774, 775, 776, 777, 778, 779, 780, 781, 782, 783, 784, 790, 791, 797, 798, 804, 805, 809, 810, 816, 817, 823, 824]
noncomputable def kSays (K : Frag) := (kS1 K, kS2 K, kS3 K, nwS K, liS K)
noncomputable def kGood := (kG1, kG2, kG3, nwG, liG)
noncomputable def fragT (S : SharedT) : List Addr → Frag
 | [] => []
 | a :: l => match Nat.blt a S.n with
  | true => (match alive ((S.tree.get a).getD default) with
   | some o => (a, o) :: fragT S l
   | none => fragT S l)
  | false => fragT S l
theorem fragT_abs (S : SharedT) : ∀ l, fragAt S.abs.heap l = fragT S l
 | [] => rfl
 | a :: l => by
  unfold fragAt fragT
  rw [fragT_abs S l]
  cases q : Nat.blt a S.n with
  | true =>
   have e := absHeap_at S.tree S.n S.life a
   rw [if_pos (Nat.blt_eq.mp q)] at e
   have e' : S.abs.heap.get? a = alive ((S.tree.get a).getD default) := by
    show Heap.get? (absHeap S.tree S.n S.life) a = _
    unfold Heap.get?
    rw [e]
    generalize (S.tree.get a).getD default = o
    obtain ⟨c, d, dt, sl⟩ := o
    cases dt <;> rfl
   rw [e']
   try rfl
  | false =>
   have e' : S.abs.heap.get? a = none := abs_get_none fun h => Bool.noConfusion ((Nat.blt_eq.mpr h).symm.trans q)
   rw [e']
noncomputable def qV : Program := view prog0 [prog0.main.body.length - 1]
noncomputable def looseV : List Str := nm ["_sre", "deque", "_wall", "_twin_re_1", "_whence", "_index", "UnsupportedOperation", "IOBase", "BufferedIOBase", "TextIOBase", "BytesIO", "StringIO", "_kind", "_fspath", "_check_arg_types", "isabs", "join", "dirname", "shlex", "_find_unsafe", "quote", "S_IFMT", "S_IFDIR", "S_IFCHR", "S_IFBLK", "S_IFREG", "S_IFIFO", "S_IFLNK", "S_IFSOCK", "S_ISUID", "S_ISGID", "S_ISVTX", "S_IRUSR", "S_IWUSR", "S_IXUSR", "S_IRGRP", "S_IWGRP", "S_IXGRP", "S_IROTH", "S_IWOTH", "S_IXOTH", "_filemode_table", "filemode", "_law_mode", "_law_signs", "_law_row", "_law_told", "_law_call"]
theorem left0 : LeftO prog0 qV looseV (fun _ => true) (fun s => kSays (fragAt s.heap kAddrs)) (fun _ => kGood) 10962 := by
 refine leftO_of (Yt := fun S => kSays (fragT S kAddrs)) (fun S => congrArg kSays (fragT_abs S kAddrs)) fun w => ?_
 unfold fencedOpening kSays nwS
 rw [PySem.W.Fast.te10274390034422433532, PySem.W.Fast.te10156331382660048174, PySem.W.Fast.te14364793385576792824, PySem.W.Fast.te11892475500146522536, PySem.W.Fast.te6613529449190102663, PySem.W.Fast.te14289696077712309145, PySem.W.Fast.te4187177175401517315, PySem.W.Fast.te10254737850608025244, PySem.W.Fast.te7909335148693498415]
 kernel_rfl
end Mine
end
noncomputable section
namespace Mine
open PySem PySem.W PyProof.Rows PySem.Calls
theorem map_eq {α β : Type} {f g : α → β} {l : List α} (e : l.map f = l.map g) : ∀ x ∈ l, f x = g x := List.map_inj_left.mp e
theorem p1_of {K : Frag} {α : Type} {t : Sem α} {r : α} (e : (fun S => peek K S t) = fun _ => some r) : P1 K t r := fun S => congrFun e S
theorem fn_of {K : Frag} (e : kS2 K = kG2) (w : World) {p : Addr × Option (List Stmt × Scope) × Nat × List Str × List Value} (hp : p ∈ fnL) : FnAt prog0 w K p.1 (bodyOf p.2.1) (scopeOf p.2.1) p.2.2.1 (fun vs => p.2.2.2.1.zip (vs ++ p.2.2.2.2)) := by
 unfold kS2 kG2 at e
 have h := map_eq e p hp
 have hs := List.all_eq_true.mp fnL_side p hp
 refine el0_2 (Prod.mk.inj h) fun h1 h2 => ?_
 refine el0_2 (Bool.and_eq_true_iff.mp hs) fun s1 s2 => ?_
 exact fnAt_of h1 h2 (Nat.le_of_ble_eq_true s1) s2 w
theorem fnRec_of {K : Frag} {f : Addr} {d : Option (List Stmt × Scope)} (e1 : fnS K f = fnG d) (hs : sideOk (scopeOf d) [] = true) (w : World) : ∃ fd, fdAt K f = some fd ∧ FnRec prog0 w K f fd (bodyOf d) (scopeOf d) := by
 refine el1_7 (fnS_of e1) fun fd h1 h2 h3 h4 h5 h6 h7 => ?_
 have S := side_of hs
 exact ⟨fd, h1, fdAt_of h1, h2, h3, h4, h5, h6, h7, S.co, S.gen, S.kf, S.cell⟩
theorem new_side : sideOk (scopeOf dNew) [] = true := by kernel_rfl
theorem linit_side : sideOk (scopeOf dLinit) [] = true := by kernel_rfl
theorem kOk1 {K : Frag} (e1 : kS1 K = kG1) (e2 : kS2 K = kG2) (w : World) : KOk w K ∧ (∀ p ∈ gAll, (nsIn K mainGlobals p.1 = some (some p.2) ∨ (nsIn K mainGlobals p.1 = some none ∧ nsIn K builtinsNs p.1 = some (some p.2))) ∧ (∀ a, p.2 = .ref a → keepIn K p.2 = true)) ∧ ∀ p ∈ meL3, MethAt K p.1 p.2.1 p.2.2 := by
 unfold kS1 kG1 at e1
 refine el0_2 (Prod.mk.inj e1) fun a e1 => ?_
 refine el0_2 (Prod.mk.inj e1) fun b e1 => ?_
 refine el0_2 (Prod.mk.inj e1) fun c e1 => ?_
 refine el0_2 (Prod.mk.inj e1) fun d e1 => ?_
 refine el0_2 (Prod.mk.inj e1) fun f e1 => ?_
 refine el0_2 (Prod.mk.inj e1) fun g h => ?_
 refine el0_2 (Prod.mk.inj a) fun a1 a => ?_
 refine el0_2 (Prod.mk.inj a) fun a2 a => ?_
 refine el0_2 (Prod.mk.inj a) fun a3 a4 => ?_
 have pa : ∀ {C : Addr} {x : Str}, paS K C x = paG → PlainAttr K C x := fun h => by
  unfold paS paG at h
  refine el0_2 (Prod.mk.inj h) fun h1 h => ?_
  refine el0_2 (Prod.mk.inj h) fun h2 h => ?_
  refine el0_2 (Prod.mk.inj h) fun h3 h => ?_
  refine el0_2 (Prod.mk.inj h) fun h4 h => ?_
  refine el0_2 (Prod.mk.inj h) fun h5 h6 => ?_
  exact ⟨h1, h2, h3, h4, h5, h6⟩
 have me : ∀ {C : Addr} {x : Str} {f : Addr}, meS K C x f = meG f → MethAt K C x f := fun h => by
  unfold meS meG at h
  refine el0_2 (Prod.mk.inj h) fun h1 h => ?_
  refine el0_2 (Prod.mk.inj h) fun h2 h => ?_
  refine el0_2 (Prod.mk.inj h) fun h3 h4 => ?_
  exact ⟨h1, h2, h3, h4⟩
 have pr : ∀ {C : Addr} {x : Str} {f : Addr}, prS K C x = prG f → PropAt K C x f := fun h => by
  unfold prS prG at h
  refine el0_2 (Prod.mk.inj h) fun h1 h => ?_
  refine el0_2 (Prod.mk.inj h) fun h2 h => ?_
  refine ⟨h1, h2, ?_⟩
  split at h
  ·rename_i p hp
   refine el0_2 (Prod.mk.inj (Option.some.inj h)) fun h3 h => ?_
   refine el0_2 (Prod.mk.inj h) fun h4 h => ?_
   refine el1_2 (Option.map_eq_some_iff.mp h) fun l h5 h6 => ?_
   rcases l with _ | ⟨y, r⟩
   ·cases h6
   ·cases h6; exact ⟨p, r, hp, h3, h4, h5⟩
  ·cases h
 have gl : ∀ p ∈ gAll, (nsIn K mainGlobals p.1 = some (some p.2) ∨ (nsIn K mainGlobals p.1 = some none ∧ nsIn K builtinsNs p.1 = some (some p.2))) ∧ (∀ a, p.2 = .ref a → keepIn K p.2 = true) := fun p hp => by
  refine el0_2 (Prod.mk.inj (map_eq h p hp)) fun h1 h2 => ?_
  exact ⟨glS_of h1, keepS_of h2⟩
 have fn := fun {p} hp => fn_of e2 w (p := p) hp
 have F1 : ∀ {f : Addr} {d : Option (List Stmt × Scope)} {n : Nat} {ns : List Str}, (f, d, n, ns, []) ∈ fnL → FnAt prog0 w K f (bodyOf d) (scopeOf d) n (fun vs => ns.zip vs) := fun hp => by
  have := fn hp
  simpa only [List.append_nil] using this
 refine ⟨⟨⟨⟨a1, a2⟩, a3, a4⟩, fun x hx => pa (map_eq b x hx), fun x hx => pa (map_eq c x hx), fun p hp => me (map_eq d p hp), fun p hp => pr (map_eq g p hp), fun p hp => gl p (List.mem_append_left _ (List.mem_append_left _ hp)), ?_, ?_, ?_, ⟨960, ?_⟩, ?_, ?_, ?_, ?_⟩, gl, fun p hp => me (map_eq f p hp)⟩
 ·exact F1 (List.mem_of_getElem? (i := 0) rfl)
 ·exact F1 (List.mem_of_getElem? (i := 1) rfl)
 ·exact F1 (List.mem_of_getElem? (i := 2) rfl)
 ·exact fn (p := (551, dReadline, 1, nm ["self", "size"], [.int (-1) 960])) (List.mem_of_getElem? (i := 3) rfl)
 ·exact F1 (List.mem_of_getElem? (i := 4) rfl)
 ·exact F1 (List.mem_of_getElem? (i := 5) rfl)
 ·exact F1 (List.mem_of_getElem? (i := 6) rfl)
 ·exact F1 (List.mem_of_getElem? (i := 7) rfl)
theorem kNew {K : Frag} (e : nwS K = nwG) (e9 : fnS K 90 = fnG dNew) (e90 : fdS K 90 = some (newPar, .none)) (e3 : (nsIn K mainGlobals "BytesIO", nsIn K mainGlobals "StringIO", nsIn K mainGlobals "object", nsIn K builtinsNs "object", nsIn K mainGlobals "dict", nsIn K builtinsNs "dict") = (some (some (.ref 350)), some (some (.ref 597)), some none, some (some (.type "object")), some none, some (some (.type "dict"))))
  (e35 : (K.lookup 350).isSome = true) (w : World) : KNew2 w K := by
 unfold nwS nwG at e
 refine el0_2 (Prod.mk.inj e) fun a b => ?_
 refine el0_2 (Prod.mk.inj b) fun b c => ?_
 refine el0_2 (Prod.mk.inj a) fun a1 a => ?_
 refine el0_2 (Prod.mk.inj a) fun a2 a => ?_
 refine el0_2 (Prod.mk.inj a) fun a3 a => ?_
 refine el0_2 (Prod.mk.inj a) fun a4 a => ?_
 refine el0_2 (Prod.mk.inj a) fun a5 a6 => ?_
 refine el0_2 (Prod.mk.inj b) fun b1 b => ?_
 refine el0_2 (Prod.mk.inj b) fun b2 b => ?_
 refine el0_2 (Prod.mk.inj b) fun b3 b => ?_
 refine el0_2 (Prod.mk.inj b) fun b4 b => ?_
 refine el0_2 (Prod.mk.inj b) fun b5 b6 => ?_
 refine el0_2 (Prod.mk.inj c) fun c1 c => ?_
 refine el0_2 (Prod.mk.inj c) fun c2 c3 => ?_
 refine el0_2 (Prod.mk.inj e3) fun g1 g => ?_
 refine el0_2 (Prod.mk.inj g) fun g2 g => ?_
 refine el0_2 (Prod.mk.inj g) fun g3 g => ?_
 refine el0_2 (Prod.mk.inj g) fun g4 g => ?_
 have a1' : ∃ oc od cd sl, K.lookup 597 = some ⟨oc, od, .cls cd, sl⟩ ∧ cd.abstract = false ∧ cd.hasDel = false ∧ oc = .type "type" := by
  unfold clS at a1
  split at a1
  ·rename_i oc od cd sl hl
   simp only [Option.some.injEq, Prod.mk.injEq] at a1
   exact ⟨oc, od, cd, sl, hl, a1⟩
  ·cases a1
 refine el4_4 a1' fun oc od cd sl h1 h2 h3 h4 => ?_
 refine el1_2 (fnRec_of e9 new_side w) fun fd f1 f2 => ?_
 unfold fdS at e90
 rw [f1] at e90
 refine el0_2 (Prod.mk.inj (Option.some.inj e90)) fun f3 f4 => ?_
 exact ⟨⟨⟨oc, od, cd, sl, h1, h2, h3⟩, ⟨_, _, p1_of a2⟩, p1_of a3, p1_of a4, p1_of a5, p1_of a6, b1, b2, b3, ⟨_, b4, b5, b6⟩, c1, c2, c3⟩, ⟨fd, f2, f3, f4⟩, g1, g2, ⟨g3, g4⟩, Option.isSome_iff_exists.mp e35, ⟨_, h1, h4⟩⟩
theorem kOk5 {K : Frag} (e : kSays K = kGood) (w : World) : KOk5 w K := by
 unfold kSays kGood at e
 refine el0_2 (Prod.mk.inj e) fun e1 e => ?_
 refine el0_2 (Prod.mk.inj e) fun e2 e => ?_
 refine el0_2 (Prod.mk.inj e) fun e3 e => ?_
 refine el0_2 (Prod.mk.inj e) fun e4 e5 => ?_
 refine el0_3 (kOk1 e1 e2 w) fun k1 gl me3 => ?_
 have fn := fun {p} hp => fn_of e2 w (p := p) hp
 have F1 : ∀ {f : Addr} {d : Option (List Stmt × Scope)} {n : Nat} {ns : List Str}, (f, d, n, ns, []) ∈ fnL → FnAt prog0 w K f (bodyOf d) (scopeOf d) n (fun vs => ns.zip vs) := fun hp => by
  have := fn hp
  simpa only [List.append_nil] using this
 unfold kS3 kG3 at e3
 refine el0_2 (Prod.mk.inj e3) fun a b => ?_
 refine el0_2 (Prod.mk.inj b) fun b c => ?_
 refine el0_2 (Prod.mk.inj c) fun c d => ?_
 refine el0_2 (Prod.mk.inj d) fun d g => ?_
 refine el0_2 (Prod.mk.inj a) fun a1 a => ?_
 refine el0_2 (Prod.mk.inj a) fun a2 a => ?_
 refine el0_2 (Prod.mk.inj a) fun a3 a => ?_
 refine el0_2 (Prod.mk.inj a) fun a4 a => ?_
 refine el0_2 (Prod.mk.inj a) fun a5 a6 => ?_
 refine el0_2 (Prod.mk.inj c) fun c1 c2 => ?_
 refine el0_2 (Prod.mk.inj g) fun g1 g2 => ?_
 refine el1_2 (reS_of a1) fun cvs s1 s2 => ?_
 have d' := (Prod.mk.inj (Prod.mk.inj (Prod.mk.inj (Prod.mk.inj d).2).2).2).2
 unfold liS liG at e5
 refine el0_2 (Prod.mk.inj e5) fun l1 l => ?_
 refine el0_2 (Prod.mk.inj l) fun l2 l => ?_
 refine el0_2 (Prod.mk.inj l) fun l3 l => ?_
 refine el1_2 (fnRec_of l2 linit_side w) fun fd f1 f2 => ?_
 have k2 : KOk2 w K := by
  refine ⟨k1, fun p hp => gl p (List.mem_append_left _ (List.mem_append_right _ hp)), ?_, ?_, ?_, ?_, ?_, ?_, ?_, ?_, ⟨_, _, _, _, cvs, a2, s1, s2⟩, a3, a4, a5, a6, fun p hp => (Prod.mk.inj (map_eq b p hp)).1, fun p hp q hq => iS_of (map_eq (Prod.mk.inj (map_eq b p hp)).2 q hq)⟩
  ·exact F1 (List.mem_of_getElem? (i := 8) rfl)
  ·exact F1 (List.mem_of_getElem? (i := 9) rfl)
  ·exact F1 (List.mem_of_getElem? (i := 10) rfl)
  ·exact F1 (List.mem_of_getElem? (i := 11) rfl)
  ·exact F1 (List.mem_of_getElem? (i := 12) rfl)
  ·exact F1 (List.mem_of_getElem? (i := 13) rfl)
  ·exact F1 (List.mem_of_getElem? (i := 14) rfl)
  ·exact F1 (List.mem_of_getElem? (i := 15) rfl)
 have k3 : KOk3 w K := by
  refine ⟨k2, kNew e4 c1 c2 d (Prod.mk.inj g |>.1) w, fun p hp => gl p (List.mem_append_right _ hp), me3, ?_, ⟨756, ?_⟩⟩
  ·exact F1 (List.mem_of_getElem? (i := 16) rfl)
  ·exact fn (p := (367, dSinit, 2, nm ["self", "initial_value", "newline"], [.str "\n" 756])) (List.mem_of_getElem? (i := 17) rfl)
 refine ⟨⟨k3, Prod.mk.inj d', Option.isSome_iff_exists.mp g2⟩, ⟨fd, f2, fun v1 v2 v3 v4 S => ?_⟩, l3, Prod.mk.inj l⟩
 have := congrFun (congrFun (congrFun (congrFun (congrFun l1 S) v1) v2) v3) v4
 rw [f1] at this
 exact Option.some.inj this
end Mine
end
noncomputable section
namespace Mine
open PySem PySem.W PyProof.Rows PySem.Calls
noncomputable abbrev lw0 := PySem.Challenge.rw_mr0355_01
theorem sr0 : sreFenced lw0.row.prog.main = true := by kernel_rfl
theorem sr1 : ((moduleNames lw0.row.prog.main.body).isEmpty || lookedIntoSs (moduleNames lw0.row.prog.main.body) lw0.row.prog.main.body) = true := by kernel_rfl
theorem sr2 : namesResolve lw0.row.prog = true := by
 rw [PySem.W.Fast.te8377067652309620493]
 kernel_rfl
theorem sr3 : lw0.row.prog.boundNames.all (fun n => !worldNames.contains n) = true := by kernel_rfl
theorem srb : (["vars", "dir", "locals"] : List Str).filter (readsOut lw0.row.prog lw0.row.prog.main.body) = [] := by
 rw [PySem.W.Fast.te13343964577679436407]
 kernel_rfl
theorem sr4 : noRoadLSs { strict := !(importedModules lw0.row.prog.main.body).all cThrough.contains, foot := none, bare := (["vars", "dir", "locals"] : List Str).filter (readsOut lw0.row.prog lw0.row.prog.main.body) } lw0.row.prog.main.body = true := by
 rw [srb, PySem.W.Fast.te8326940854005059898]
 kernel_rfl
theorem sr5 : namesMeet lw0.row.prog lw0.row.prog.main.body (fun _ n => attrL n) = true := by
 unfold namesMeet
 rw [PySem.W.Fast.te6116379765354995101, PySem.W.Fast.te17868728402115742887]
 kernel_rfl
theorem sr6 : looksOpen lw0.row.prog = true := look_both (look_both (look_both (look_both (look_both sr0 sr1) sr2) sr3) sr4) sr5
theorem sr7 : OpenRow.wellSaid lw0.row = true := by
 unfold OpenRow.wellSaid OpenRow.partSaid
 rw [sr6]
 kernel_rfl
theorem sr8 : noRoadLSs { strict := true, foot := some lw0.bound', writes := lw0.writes, may := lw0.may } lw0.footing = true := by kernel_rfl
theorem said0 : OpenLaw.wellSaid lw0 = true := by
 unfold OpenLaw.wellSaid
 repeat' (with_reducible refine look_both ?_ ?_)
 all_goals first | with_reducible exact sr7 | with_reducible exact sr8 | (rw [PySem.W.Fast.te17119622794617984870]; kernel_rfl) | kernel_rfl
end Mine
end
noncomputable section
namespace Mine
open PySem PySem.W PyProof.Rows PySem.Calls
noncomputable def lawD : DefRec × List (Str × Expr) := match defOf qV lw0.row.name with
 | some x => x
 | none => (⟨"", default, [], default, default⟩, [])
theorem lawD_at : defOf qV lw0.row.name = some (lawD.1, lawD.2) := by kernel_rfl
theorem law_def : lw0.row.prog.theDef lw0.row.name = some (lawD.1.params, lawD.1.body, lawD.1.scope) := by kernel_rfl
theorem law_kw : kwWritten? lawD.1.params.kwonlyargs lawD.1.params.kw_defaults = some lawD.2 := by kernel_rfl
theorem law_open : (chainsOk qV && opensWell lw0.row.prog && (frees lw0.row.toRowW && lw0.row.within.isEmpty)) = true := by kernel_rfl
theorem law_bare : lw0.row.prog.bare := ⟨rfl, rfl, rfl, rfl, rfl, by kernel_rfl⟩
theorem law_nodef : lawD.1.params.defaults = [] := by kernel_rfl
theorem law_body : FuncBody.stmts lawD.1.body = .stmts lwB := by kernel_rfl
theorem law_scope : lawD.1.scope = scopeOf dLaw := by kernel_rfl
theorem law_fn (pm cd doc kV : Value) : LawFn { docDef lawD.1.name lawD.1.params lawD.1.body lawD.1.scope pm cd doc with defaults := .none, kwdefaults := kV } := ⟨law_body, law_scope, rfl, rfl, rfl, fun v => by kernel_rfl⟩
theorem main_ok : PySem.Challenge.rw_mr0355_01.Holds := by
 w_on
 refine holds_law said0 fun said => ?_
 refine holds_openX (q := qV) (loose := looseV) (Xt := fun _ => true) (XP := fun _ _ => True) (Yf := fun s => kSays (fragAt s.heap kAddrs)) (Ya := fun _ => kGood) (N := 10962) left0 (fun _ _ => trivial) (fun _ _ _ _ _ => trivial) lawD_at law_def law_kw (fun s _ => recFacts_nil rfl) (by rfl) said law_open law_bare ?hw ?hc
 case hw => w_witness2
 case hc =>
  generalize hl : lawD = dd
  intro w s₀ s₁ mg mb G y fa o pm cd doc dV kV ho hd hcd hD hmg hg args vals as L hpre hlay hrd hwl hlo
  subst hl
  have T : True := trivial
  have B : True := trivial
  wrow_args hpre hlay hrd hwl hlo
  rename_i ws _ a vs _ hLi _ _ _ hI _ hcl _
  have he := Dflts.none hD law_nodef
  subst he
  refine wpAny_call (law_ok (K := fragAt s₀.heap kAddrs) (kOk5 y w) ((fragAt_in s₀.heap kAddrs).keeps L.keeps) ⟨by decide, by decide, rfl⟩ rfl hg ho hd (law_fn pm cd doc kV) hcd hI (by lia) hLi (plain_all _) fun s' h1 h2 h3 => ?_)
  refine GoodW.toG ⟨.inl ⟨_, .bool true, [], rfl, raisesW_false ?_, .bool true, ?_, fun _ => ⟨List.nodup_nil, fun a h => nomatch h⟩⟩, h1, h3, h2⟩
  ·wrow_none_raised
  ·wrow_post
end Mine
end
theorem PySem.Challenge.cw_mr0355_01_holds : PySem.Challenge.rw_mr0355_01.Holds := by
  exact Mine.main_ok
