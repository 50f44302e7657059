import PyProof.Rows.All
import Wide.All
import OpenK.AllK
import Wide.FinOn
import PySem.Challenge.RW_ik0160_01
set_option Elab.async false
set_option maxRecDepth 100000
set_option linter.all false
set_option maxHeartbeats 8000000
set_option tactic.hygienic false
set_option bootstrap.genMatcherCode false
namespace Mine.Internal
open PySem PySem.Calls PyProof.Rows PySem.W
section
section
variable {P Q R S T U V g : Prop}
theorem zk (h : P ∧ Q) (k : P → Q → g) : g := k h.1 h.2
theorem xr (h : P ∧ Q ∧ R) (k : P → Q → R → g) : g := zk h.2 (k h.1)
theorem zc1 (h : P ∧ Q ∧ R ∧ S) (k : P → Q → R → S → g) : g := xr h.2 (k h.1)
theorem zh3 (h : P ∧ Q ∧ R ∧ S ∧ T) (k : P → Q → R → S → T → g) : g := zc1 h.2 (k h.1)
theorem zoU (h : P ∧ Q ∧ R ∧ S ∧ T ∧ U) (k : P → Q → R → S → T → U → g) : g := zh3 h.2 (k h.1)
theorem e0_7 (h : P ∧ Q ∧ R ∧ S ∧ T ∧ U ∧ V) (k : P → Q → R → S → T → U → V → g) : g := zoU h.2 (k h.1)
end
section
variable {a : Sort _} {P Q R S T U V : a → Prop} {g : Prop}
theorem zU (h : ∃ x, P x) (k : ∀ x, P x → g) : g := h.elim k
theorem zQ (h : ∃ x, P x ∧ Q x) (k : ∀ x, P x → Q x → g) : g := h.elim fun x h => zk h (k x)
theorem x2 (h : ∃ x, P x ∧ Q x ∧ R x) (k : ∀ x, P x → Q x → R x → g) : g := h.elim fun x h => xr h (k x)
theorem e1_4 (h : ∃ x, P x ∧ Q x ∧ R x ∧ S x) (k : ∀ x, P x → Q x → R x → S x → g) : g := h.elim fun x h => zc1 h (k x)
theorem e1_5 (h : ∃ x, P x ∧ Q x ∧ R x ∧ S x ∧ T x) (k : ∀ x, P x → Q x → R x → S x → T x → g) : g := h.elim fun x h => zh3 h (k x)
theorem e1_6 (h : ∃ x, P x ∧ Q x ∧ R x ∧ S x ∧ T x ∧ U x) (k : ∀ x, P x → Q x → R x → S x → T x → U x → g) : g := h.elim fun x h => zoU h (k x)
theorem e1_7 (h : ∃ x, P x ∧ Q x ∧ R x ∧ S x ∧ T x ∧ U x ∧ V x) (k : ∀ x, P x → Q x → R x → S x → T x → U x → V x → g) : g := h.elim fun x h => e0_7 h (k x)
end
section
variable {a b : Sort _} {P Q R S T U V : a → b → Prop} {g : Prop}
theorem zaP (h : ∃ x y, P x y) (k : ∀ x y, P x y → g) : g := h.elim fun x h => zU h (k x)
theorem xl (h : ∃ x y, P x y ∧ Q x y) (k : ∀ x y, P x y → Q x y → g) : g := h.elim fun x h => zQ h (k x)
theorem xf (h : ∃ x y, P x y ∧ Q x y ∧ R x y) (k : ∀ x y, P x y → Q x y → R x y → g) : g := h.elim fun x h => x2 h (k x)
theorem zjL (h : ∃ x y, P x y ∧ Q x y ∧ R x y ∧ S x y) (k : ∀ x y, P x y → Q x y → R x y → S x y → g) : g := h.elim fun x h => e1_4 h (k x)
theorem e2_5 (h : ∃ x y, P x y ∧ Q x y ∧ R x y ∧ S x y ∧ T x y) (k : ∀ x y, P x y → Q x y → R x y → S x y → T x y → g) : g := h.elim fun x h => e1_5 h (k x)
theorem zhL (h : ∃ x y, P x y ∧ Q x y ∧ R x y ∧ S x y ∧ T x y ∧ U x y) (k : ∀ x y, P x y → Q x y → R x y → S x y → T x y → U x y → g) : g := h.elim fun x h => e1_6 h (k x)
theorem zkd (h : ∃ x y, P x y ∧ Q x y ∧ R x y ∧ S x y ∧ T x y ∧ U x y ∧ V x y) (k : ∀ x y, P x y → Q x y → R x y → S x y → T x y → U x y → V x y → g) : g := h.elim fun x h => e1_7 h (k x)
end
section
variable {a b c : Sort _} {P Q R S T U V : a → b → c → Prop} {g : Prop}
theorem zoE (h : ∃ x y z, P x y z) (k : ∀ x y z, P x y z → g) : g := h.elim fun x h => zaP h (k x)
theorem zfg (h : ∃ x y z, P x y z ∧ Q x y z) (k : ∀ x y z, P x y z → Q x y z → g) : g := h.elim fun x h => xl h (k x)
theorem yI (h : ∃ x y z, P x y z ∧ Q x y z ∧ R x y z) (k : ∀ x y z, P x y z → Q x y z → R x y z → g) : g := h.elim fun x h => xf h (k x)
theorem za4 (h : ∃ x y z, P x y z ∧ Q x y z ∧ R x y z ∧ S x y z) (k : ∀ x y z, P x y z → Q x y z → R x y z → S x y z → g) : g := h.elim fun x h => zjL h (k x)
theorem zcj (h : ∃ x y z, P x y z ∧ Q x y z ∧ R x y z ∧ S x y z ∧ T x y z) (k : ∀ x y z, P x y z → Q x y z → R x y z → S x y z → T x y z → g) : g := h.elim fun x h => e2_5 h (k x)
theorem e3_6 (h : ∃ x y z, P x y z ∧ Q x y z ∧ R x y z ∧ S x y z ∧ T x y z ∧ U x y z) (k : ∀ x y z, P x y z → Q x y z → R x y z → S x y z → T x y z → U x y z → g) : g := h.elim fun x h => zhL h (k x)
theorem e3_7 (h : ∃ x y z, P x y z ∧ Q x y z ∧ R x y z ∧ S x y z ∧ T x y z ∧ U x y z ∧ V x y z) (k : ∀ x y z, P x y z → Q x y z → R x y z → S x y z → T x y z → U x y z → V x y z → g) : g := h.elim fun x h => zkd h (k x)
end
section
variable {a b c d : Sort _} {P Q R S T U V : a → b → c → d → Prop} {g : Prop}
theorem e4_1 (h : ∃ x y z w, P x y z w) (k : ∀ x y z w, P x y z w → g) : g := h.elim fun x h => zoE h (k x)
theorem zbX (h : ∃ x y z w, P x y z w ∧ Q x y z w ∧ R x y z w) (k : ∀ x y z w, P x y z w → Q x y z w → R x y z w → g) : g := h.elim fun x h => yI h (k x)
theorem zmv (h : ∃ x y z w, P x y z w ∧ Q x y z w ∧ R x y z w ∧ S x y z w) (k : ∀ x y z w, P x y z w → Q x y z w → R x y z w → S x y z w → g) : g := h.elim fun x h => za4 h (k x)
theorem e4_5 (h : ∃ x y z w, P x y z w ∧ Q x y z w ∧ R x y z w ∧ S x y z w ∧ T x y z w) (k : ∀ x y z w, P x y z w → Q x y z w → R x y z w → S x y z w → T x y z w → g) : g := h.elim fun x h => zcj h (k x)
theorem e4_6 (h : ∃ x y z w, P x y z w ∧ Q x y z w ∧ R x y z w ∧ S x y z w ∧ T x y z w ∧ U x y z w) (k : ∀ x y z w, P x y z w → Q x y z w → R x y z w → S x y z w → T x y z w → U x y z w → g) : g := h.elim fun x h => e3_6 h (k x)
theorem e4_7 (h : ∃ x y z w, P x y z w ∧ Q x y z w ∧ R x y z w ∧ S x y z w ∧ T x y z w ∧ U x y z w ∧ V x y z w) (k : ∀ x y z w, P x y z w → Q x y z w → R x y z w → S x y z w → T x y z w → U x y z w → V x y z w → g) : g := h.elim fun x h => e3_7 h (k x)
end
section
variable {a b c d e : Sort _} {P Q R S T U V : a → b → c → d → e → Prop} {g : Prop}
theorem e5_1 (h : ∃ x y z w p, P x y z w p) (k : ∀ x y z w p, P x y z w p → g) : g := h.elim fun x h => e4_1 h (k x)
theorem e5_3 (h : ∃ x y z w p, P x y z w p ∧ Q x y z w p ∧ R x y z w p) (k : ∀ x y z w p, P x y z w p → Q x y z w p → R x y z w p → g) : g := h.elim fun x h => zbX h (k x)
theorem e5_5 (h : ∃ x y z w p, P x y z w p ∧ Q x y z w p ∧ R x y z w p ∧ S x y z w p ∧ T x y z w p) (k : ∀ x y z w p, P x y z w p → Q x y z w p → R x y z w p → S x y z w p → T x y z w p → g) : g := h.elim fun x h => e4_5 h (k x)
theorem e5_7 (h : ∃ x y z w p, P x y z w p ∧ Q x y z w p ∧ R x y z w p ∧ S x y z w p ∧ T x y z w p ∧ U x y z w p ∧ V x y z w p) (k : ∀ x y z w p, P x y z w p → Q x y z w p → R x y z w p → S x y z w p → T x y z w p → U x y z w p → V x y z w p → g) : g := h.elim fun x h => e4_7 h (k x)
end
section
variable {a b c d e f : Sort _} {P Q R S T U V : a → b → c → d → e → f → Prop} {g : Prop}
theorem e6_1 (h : ∃ x y z w p q, P x y z w p q) (k : ∀ x y z w p q, P x y z w p q → g) : g := h.elim fun x h => e5_1 h (k x)
theorem e6_3 (h : ∃ x y z w p q, P x y z w p q ∧ Q x y z w p q ∧ R x y z w p q) (k : ∀ x y z w p q, P x y z w p q → Q x y z w p q → R x y z w p q → g) : g := h.elim fun x h => e5_3 h (k x)
theorem e6_5 (h : ∃ x y z w p q, P x y z w p q ∧ Q x y z w p q ∧ R x y z w p q ∧ S x y z w p q ∧ T x y z w p q) (k : ∀ x y z w p q, P x y z w p q → Q x y z w p q → R x y z w p q → S x y z w p q → T x y z w p q → g) : g := h.elim fun x h => e5_5 h (k x)
end
section
variable {a b c d e f i : Sort _} {P Q R S T U V : a → b → c → d → e → f → i → Prop} {g : Prop}
theorem e7_5 (h : ∃ x y z w p q r, P x y z w p q r ∧ Q x y z w p q r ∧ R x y z w p q r ∧ S x y z w p q r ∧ T x y z w p q r) (k : ∀ x y z w p q r, P x y z w p q r → Q x y z w p q r → R x y z w p q r → S x y z w p q r → T x y z w p q r → g) : g := h.elim fun x h => e6_5 h (k x)
end
theorem eS {α β : Type _} {x : Option α} {f : α → Option β} {d : β} {g : Prop} (h : (Option.casesOn (motive := fun _ => Option β) x none f) = some d) (k : ∀ a, x = some a → f a = some d → g) : g := by
 cases x with
 | none => cases h
 | some a => exact k a rfl h
theorem eT {β : Type _} {b : Bool} {x : Option β} {d : β} {g : Prop} (h : (Bool.casesOn (motive := fun _ => Option β) b none x) = some d) (k : b = true → x = some d → g) : g := by
 cases b with
 | false => cases h
 | true => exact k rfl h
theorem eI {β : Type _} {c : Prop} [i : Decidable c] {x : Option β} {d : β} {g : Prop} (h : (if c then x else none) = some d) (k : c → x = some d → g) : g := by
 cases i with
 | isFalse q => cases h
 | isTrue q => exact k q h
end
local macro_rules
| `(tactic| injection $h:term) => `(tactic| set_option smartUnfolding false in refine $h)
noncomputable section
theorem zds {α : Type} {m : Model} {A : Around} {c : Sem α} {Q : α → Shared → Prop} {E : Value → Shared → Prop} {s : Shared} (h : ∀ (Q' : α → Shared → Prop) (E' : Value → Shared → Prop), (∀ v s, Q v s → Q' v s) → (∀ v s, E v s → E' v s) → wpAny m A c Q' E' s) : wpAny m A c Q E s := h Q E (fun zz zz => id) fun zz zz => id
theorem zpq {m : Model} {A : Around} {c : Code} {R : Result → Shared → Prop} {s : Shared} (h : ∀ R' : Result → Shared → Prop, (∀ v s, R v s → R' v s) → codeAny m A c R' s) : codeAny m A c R s := h R fun zz zz => id
section
inductive D where
 | none
 | bool (b : Bool)
 | int (i : Int)
 | str (s : Str)
 | tup (ds : List D)
 | lst (ds : List D)
 | node (r : Int) (t : Option Str)
 | opq (a : Addr)
 | blt (id : String)
 | typ (n : String)
 | rng (a b : Int)
 | own (ds : List D)
 | app (x : Str)
 | unb
noncomputable abbrev y9 (vs : List Value) (n : Nat) : Obj := { cls := .type "tuple", data := .seq vs.toArray n }
noncomputable abbrev zW (vs : List Value) (n : Nat) : Obj := { cls := .type "list", data := .seq vs.toArray n }
noncomputable def zie (C : Addr) (X : List Addr) (h : Heap) (a : Addr) (r : Int) (t : Option Str) : Prop :=
 ∃ dx es n tr vt, a ∉ X ∧ dx ∉ X ∧ h.get? a = some (instObj C dx) ∧ h.get? dx = some (dictOf es n) ∧
  getL "root" es = some (some (.int r tr)) ∧ getL "tag" es = some (some vt) ∧
  (match t with | some y => ∃ tt, vt = .str y tt | none => vt = .none)
mutual
noncomputable def Rd (C : Addr) (X : List Addr) (h : Heap) : D → Value → Prop
 | .none, v => v = .none
 | .bool b, v => v = .bool b
 | .int i, v => ∃ t, v = .int i t
 | .str s, v => ∃ t, v = .str s t
 | .tup ds, v => ∃ a vs n, v = .ref a ∧ a ∉ X ∧ h.get? a = some (y9 vs n) ∧ RdL C X h ds vs
 | .lst ds, v => ∃ a vs n, v = .ref a ∧ a ∉ X ∧ h.get? a = some (zW vs n) ∧ RdL C X h ds vs
 | .node r t, v => ∃ a, v = .ref a ∧ zie C X h a r t
 | .opq a, v => v = .ref a
 | .blt id, v => v = .builtin id
 | .typ n, v => v = .type n
 | .rng i j, v => ∃ a t u w, v = .ref a ∧ a ∉ X ∧ h.get? a = some { cls := .type "range", data := .fields #[.int i t, .int j u, .int 1 w] }
 | .own _, _ => False
 | .app _, _ => False
 | .unb, _ => False
noncomputable def RdL (C : Addr) (X : List Addr) (h : Heap) : List D → List Value → Prop
 | [], vs => vs = []
 | d :: ds, vs => ∃ v vs', vs = v :: vs' ∧ Rd C X h d v ∧ RdL C X h ds vs'
end
mutual
theorem Rd.imp {C : Addr} {X X' : List Addr} {h h' : Heap} (k : ∀ b o, b ∉ X → h.get? b = some o → b ∉ X' ∧ h'.get? b = some o) : ∀ {d : D} {v : Value}, Rd C X h d v → Rd C X' h' d v
 | .none, _, r => r
 | .bool _, _, r => r
 | .int _, _, r => r
 | .str _, _, r => r
 | .tup ds, v, r => by
  refine za4 r fun a vs n e hx hg hl => ?_
  exact ⟨a, vs, n, e, (k a _ hx hg).1, (k a _ hx hg).2, RdL.imp k hl⟩
 | .lst ds, v, r => by
  refine za4 r fun a vs n e hx hg hl => ?_
  exact ⟨a, vs, n, e, (k a _ hx hg).1, (k a _ hx hg).2, RdL.imp k hl⟩
 | .node _ _, v, r => by
  obtain ⟨a, e, dx, es, n, tr, vt, h1, h2, h3, h4, h5⟩ := r
  exact ⟨a, e, dx, es, n, tr, vt, (k a _ h1 h3).1, (k dx _ h2 h4).1, (k a _ h1 h3).2, (k dx _ h2 h4).2, h5⟩
 | .opq _, _, r => r
 | .blt _, _, r => r
 | .typ _, _, r => r
 | .rng _ _, v, r => by
  refine zbX r fun a t u w e hx hg => ?_
  exact ⟨a, t, u, w, e, (k a _ hx hg).1, (k a _ hx hg).2⟩
 | .own _, _, r => False.elim r
 | .app _, _, r => False.elim r
 | .unb, _, r => False.elim r
theorem RdL.imp {C : Addr} {X X' : List Addr} {h h' : Heap} (k : ∀ b o, b ∉ X → h.get? b = some o → b ∉ X' ∧ h'.get? b = some o) : ∀ {ds : List D} {vs : List Value}, RdL C X h ds vs → RdL C X' h' ds vs
 | [], _, r => r
 | d :: ds, vs, r => by
  refine xf r fun v vs' e hr hl => ?_
  exact ⟨v, vs', e, Rd.imp k hr, RdL.imp k hl⟩
end
section
variable {C : Addr} {X : List Addr} {h : Heap}
theorem RdL.nil : RdL C X h [] [] := rfl
theorem RdL.cons {d ds v vs} (a : Rd C X h d v) (b : RdL C X h ds vs) : RdL C X h (d :: ds) (v :: vs) := ⟨v, vs, rfl, a, b⟩
theorem RdL.nil_inv {vs} (r : RdL C X h [] vs) : vs = [] := r
theorem RdL.cons_inv {d ds vs} (r : RdL C X h (d :: ds) vs) : ∃ v vs', vs = v :: vs' ∧ Rd C X h d v ∧ RdL C X h ds vs' := r
theorem RdL.length : ∀ {ds : List D} {vs : List Value}, RdL C X h ds vs → vs.length = ds.length
 | [], _, r => by rw [r.nil_inv]; rfl
 | _ :: _, _, r => by refine xf r.cons_inv fun v vs' zz2 zz3 l => ?_; subst zz2; rw [List.length_cons, List.length_cons, RdL.length l]
theorem RdL.append : ∀ {ds es : List D} {vs us : List Value}, RdL C X h ds vs → RdL C X h es us → RdL C X h (ds ++ es) (vs ++ us)
 | [], _, _, _, r, q => by rw [r.nil_inv]; exact q
 | _ :: _, _, _, _, r, q => by refine xf r.cons_inv fun v vs' zz2 hr l => ?_; subst zz2; exact .cons hr (RdL.append l q)
theorem RdL.get : ∀ {ds : List D} {vs : List Value} {i : Nat} {d : D}, RdL C X h ds vs → ds[i]? = some d → ∃ v, vs[i]? = some v ∧ Rd C X h d v
 | [], _, _, _, _, e => by simp at e
 | d :: ds, _, 0, _, r, e => by
  refine xf r.cons_inv fun v vs' zz2 hr l => ?_; subst zz2
  simp at e; subst e
  exact ⟨v, rfl, hr⟩
 | d :: ds, _, i + 1, _, r, e => by
  refine xf r.cons_inv fun v vs' zz2 hr l => ?_; subst zz2
  simp at e
  refine zQ (RdL.get l e) fun u h1 h2 => ?_
  exact ⟨u, by exact h1, h2⟩
theorem RdL.take : ∀ {ds : List D} {vs : List Value} (n : Nat), RdL C X h ds vs → RdL C X h (ds.take n) (vs.take n)
 | [], _, n, r => by rw [r.nil_inv]; simp; exact .nil
 | d :: ds, _, 0, r => by simp; exact .nil
 | d :: ds, _, n + 1, r => by
  refine xf r.cons_inv fun v vs' zz2 hr l => ?_; subst zz2
  simp only [List.take_succ_cons]
  exact .cons hr (RdL.take n l)
theorem RdL.drop : ∀ {ds : List D} {vs : List Value} (n : Nat), RdL C X h ds vs → RdL C X h (ds.drop n) (vs.drop n)
 | [], _, n, r => by rw [r.nil_inv]; simp; exact .nil
 | d :: ds, _, 0, r => by exact r
 | d :: ds, _, n + 1, r => by
  refine xf r.cons_inv fun v vs' zz2 hr l => ?_; subst zz2
  simp only [List.drop_succ_cons]
  exact RdL.drop n l
set_option linter.unusedVariables false in
theorem RdL.map {α : Type} {f : α → D} {g : α → Value} : ∀ {l : List α}, (∀ x ∈ l, Rd C X h (f x) (g x)) → RdL C X h (l.map f) (l.map g)
 | [], _ => .nil
 | x :: l, k => .cons (k x (.head _)) (RdL.map fun y hy => k y (.tail _ hy))
end
theorem zT {h : Heap} {a : Addr} (e : h.objs.size ≤ a) : h.get? a = none := by
 cases q : h.get? a with
 | none => rfl
 | some o => exact absurd (Heap.lt_size q) (Nat.not_lt.mpr e)
noncomputable def TK (o : Obj) : Prop := ∃ vs, o.data = .fields vs ∧ (o.cls = .none ∨ ∃ q t, vs[1]? = some (.str q t))
structure Gd where
 prog : Program
 w : World
 hb : Heap
 T : List Addr
 TI : Heap → Prop
 C : Addr
 mg : Str → Option Value
 mb : Str → Option Value
 hmg : hb.Ns mainGlobals mg
 hmb : hb.Ns builtinsNs mb
 nolim : hb.NoLimit
 hT : ∀ a ∈ T, hb.get? a = none
 tabs : ∀ h, TI h → ∀ a ∈ T, ∃ vs, h.get? a = some { cls := .none, data := .fields vs }
 frame : ∀ h h', TI h → (∀ b o, TK o → h.get? b = some o → h'.get? b = some o) → TI h'
structure Cx (G : Gd) (h : Heap) : Prop where
 hb : ∀ b o, G.hb.get? b = some o → h.get? b = some o
 ti : G.TI h
structure Gr (G : Gd) (s s' : Shared) : Prop where
 heap : ∀ b o, b ∉ G.T → s.heap.get? b = some o → s'.heap.get? b = some o
 ti : G.TI s.heap → G.TI s'.heap
 os : s'.os = s.os
 bare : AllBare s.gens → AllBare s'.gens
theorem Gr.refl {G : Gd} (s : Shared) : Gr G s s := ⟨fun zz zz zz e => e, id, rfl, id⟩
theorem Gr.trans {G : Gd} {s s₁ s₂ : Shared} (a : Gr G s s₁) (b : Gr G s₁ s₂) : Gr G s s₂ :=
 ⟨fun x o hx e => b.heap x o hx (a.heap x o hx e), fun t => b.ti (a.ti t), b.os.trans a.os, fun t => b.bare (a.bare t)⟩
theorem Gr.of {G : Gd} {s : Shared} {h' : Heap} {tk : Nat} (k : ∀ b o, s.heap.get? b = some o → h'.get? b = some o) : Gr G s { s with heap := h', toks := tk } :=
 ⟨fun b o zz e => k b o e, fun t => G.frame _ _ t fun b o zz e => k b o e, rfl, id⟩
theorem Gr.keeps {G : Gd} {s s' : Shared} (k : Keeps s s') : Gr G s s' := by
 refine xl k fun h' tk zz2 hk => ?_; subst zz2
 exact Gr.of hk
theorem Gr.tok {G : Gd} {s : Shared} {tk : Nat} : Gr G s { s with toks := tk } := Gr.of fun zz zz e => e
theorem Gr.push {G : Gd} {s : Shared} {o : Obj} {tk : Nat} : Gr G s { s with heap := s.heap.push o, toks := tk } := Gr.of fun zz zz e => Heap.get?_push_of_some _ e
theorem Gr.push' {G : Gd} {s : Shared} {o : Obj} : Gr G s { s with heap := s.heap.push o } := Gr.of (tk := s.toks) fun zz zz e => Heap.get?_push_of_some _ e
theorem Gr.cx {G : Gd} {s s' : Shared} (g : Gr G s s') (x : Cx G s.heap) : Cx G s'.heap :=
 ⟨fun b o e => g.heap b o (fun hb => by rw [G.hT b hb] at e; cases e) (x.hb b o e), g.ti x.ti⟩
structure XOk (G : Gd) (X : List Addr) (h : Heap) : Prop where
 tabs : ∀ a ∈ G.T, a ∈ X
 live : ∀ a ∈ X, ∃ o, h.get? a = some o
theorem XOk.low {G : Gd} {X : List Addr} {h : Heap} (x : XOk G X h) : ∀ a ∈ X, a < h.objs.size := fun a ha => let ⟨_, e⟩ := x.live a ha; Heap.lt_size e
theorem XOk.none {G : Gd} {X : List Addr} {h : Heap} {a : Addr} (x : XOk G X h) (e : h.get? a = .none) : a ∉ X := fun ha => by
 refine zU (x.live a ha) fun o q => ?_
 rw [e] at q; cases q
theorem XOk.gr {G : Gd} {X : List Addr} {s s' : Shared} (x : XOk G X s.heap) (ti : G.TI s.heap) (g : Gr G s s') : XOk G X s'.heap := ⟨x.tabs, fun a ha => by
 by_cases h : a ∈ G.T
 ·refine zU (G.tabs _ (g.ti ti) a h) fun vs e => ?_
  exact ⟨_, e⟩
 ·refine zU (x.live a ha) fun o e => ?_
  exact ⟨o, g.heap a o h e⟩⟩
theorem Rd.gr {G : Gd} {X : List Addr} {s s' : Shared} {d : D} {v : Value} (hX : ∀ a ∈ G.T, a ∈ X) (g : Gr G s s') (r : Rd G.C X s.heap d v) : Rd G.C X s'.heap d v :=
 r.imp fun b o hb e => ⟨hb, g.heap b o (fun ht => hb (hX b ht)) e⟩
theorem RdL.gr {G : Gd} {X : List Addr} {s s' : Shared} {d : List D} {v : List Value} (hX : ∀ a ∈ G.T, a ∈ X) (g : Gr G s s') (r : RdL G.C X s.heap d v) : RdL G.C X s'.heap d v :=
 r.imp fun b o hb e => ⟨hb, g.heap b o (fun ht => hb (hX b ht)) e⟩
noncomputable def Rv (C : Addr) (X : List Addr) (h : Heap) (d : D) (v : Value) : Prop := match d with
 | .own ds => ∃ a vs n, v = .ref a ∧ h.get? a = some (zW vs n) ∧ RdL C X h ds vs
 | d => Rd C X h d v
noncomputable def D.pure : D → Bool
 | .own _ | .app _ | .unb => false
 | _ => true
theorem Rv.rd {C X h d v} (r : Rv C X h d v) (p : d.pure = true) : Rd C X h d v := by cases d <;> first | exact r | cases p
theorem Rd.rv {C X h d v} (r : Rd C X h d v) : Rv C X h d v := by
 cases d <;> first | exact r | exact False.elim r
theorem Rd.pure {C X h d v} (r : Rd C X h d v) : d.pure = true := by
 cases d <;> first | rfl | exact False.elim r
theorem Rv.gr {G : Gd} {X : List Addr} {s s' : Shared} {d : D} {v : Value} (hX : ∀ a ∈ G.T, a ∈ X) (x : Cx G s.heap) (g : Gr G s s') (r : Rv G.C X s.heap d v) : Rv G.C X s'.heap d v := by
 cases d with
 | own ds =>
  refine yI r fun a vs n e hg hl => ?_
  refine ⟨a, vs, n, e, g.heap a _ (fun ht => ?_) hg, hl.gr hX g⟩
  refine zU (G.tabs _ x.ti a ht) fun us q => ?_
  rw [hg] at q; cases q
 | _ => exact Rd.gr hX g r
noncomputable def D.list? : D → Option (List D)
 | .lst ds | .own ds => some ds
 | _ => Option.none
theorem Rv.list {C X h d v ds} (e : d.list? = some ds) (r : Rv C X h d v) : ∃ a vs n, v = .ref a ∧ h.get? a = some (zW vs n) ∧ RdL C X h ds vs := by
 cases d with
 | lst _ => cases e; refine za4 r fun a vs n e zz4 hg hl => ?_; exact ⟨a, vs, n, e, hg, hl⟩
 | own _ => cases e; exact r
 | _ => cases e
theorem Rv.tup {C X h v ds} (r : Rv C X h (.tup ds) v) : ∃ a vs n, v = .ref a ∧ a ∉ X ∧ h.get? a = some (y9 vs n) ∧ RdL C X h ds vs := by
 exact r
theorem Rv.int {C X h v i} (r : Rv C X h (.int i) v) : ∃ t, v = .int i t := r
theorem Rv.str {C X h v i} (r : Rv C X h (.str i) v) : ∃ t, v = .str i t := r
theorem Rv.bool {C X h v i} (r : Rv C X h (.bool i) v) : v = .bool i := r
theorem Rv.none {C X h v} (r : Rv C X h .none v) : v = .none := r
theorem Rv.opq {C X h v a} (r : Rv C X h (.opq a) v) : v = .ref a := r
theorem Rv.blt {C X h v a} (r : Rv C X h (.blt a) v) : v = .builtin a := r
theorem Rv.typ {C X h v a} (r : Rv C X h (.typ a) v) : v = .type a := r
theorem Rd.int' {C X h i t} : Rd C X h (.int i) (.int i t) := ⟨t, rfl⟩
theorem Rd.str' {C X h i t} : Rd C X h (.str i) (.str i t) := ⟨t, rfl⟩
theorem Rd.bool' {C X h i} : Rd C X h (.bool i) (.bool i) := rfl
theorem Rd.none' {C X h} : Rd C X h .none .none := rfl
theorem Rd.opq' {C X h a} : Rd C X h (.opq a) (.ref a) := rfl
theorem Rd.blt' {C X h a} : Rd C X h (.blt a) (.builtin a) := rfl
theorem Rd.typ' {C X h a} : Rd C X h (.typ a) (.type a) := rfl
theorem Rd.tup' {C X h a vs n ds} (hx : a ∉ X) (hg : h.get? a = some (y9 vs n)) (hl : RdL C X h ds vs) : Rd C X h (.tup ds) (.ref a) := ⟨a, vs, n, rfl, hx, hg, hl⟩
theorem Rd.lst' {C X h a vs n ds} (hx : a ∉ X) (hg : h.get? a = some (zW vs n)) (hl : RdL C X h ds vs) : Rd C X h (.lst ds) (.ref a) := ⟨a, vs, n, rfl, hx, hg, hl⟩
structure zby (k : Nat) (A : Around) : Prop where
 hh : A.handled = none
 depth : A.depth + 2 * k < recursionLimit
 units : A.units + 40 * k + 100 < cLine
noncomputable def Ev (G : Gd) (A : Around) (X : List Addr) (s : Shared) (t : Sem Value) (d : D) : Prop :=
 ∀ E, wpAny (model G.prog G.w) A t (fun v s' => Gr G s s' ∧ Rv G.C X s'.heap d v) E s
end
section
noncomputable def zK : Nat := 1000000
noncomputable def D.int? : D → Option Int
 | .int i => some i
 | _ => Option.none
noncomputable def D.str? : D → Option Str
 | .str x => some x
 | _ => Option.none
noncomputable def gd {α : Type} (b : Bool) (o : Option α) : Option α := match b with | true => o | false => none
noncomputable def orO {α : Type} (a b : Option α) : Option α := match a with | some x => some x | none => b
noncomputable def two {A α β : Type} (f : A → Option α) (g : α → α → Option β) (a b : A) : Option β := match f a with
 | some x => (match f b with | some y => g x y | none => none)
 | none => none
theorem zA {α : Type} {o : α} {P : Prop} (h : none = some o) : P := nomatch h
theorem D.int_in {a : D} {i : Int} (h : a.int? = some i) : a = .int i := by
 cases a with
 | int j => exact congrArg D.int (Option.some.inj h)
 | _ => exact zA h
theorem D.str_in {a : D} {x : Str} (h : a.str? = some x) : a = .str x := by
 cases a with
 | str j => exact congrArg D.str (Option.some.inj h)
 | _ => exact zA h
theorem zdB {α : Type} {b : Bool} {o : Option α} {x : α} (h : gd b o = some x) : b = true ∧ o = some x := by
 cases b with
 | true => exact ⟨rfl, h⟩
 | false => exact zA h
theorem zem {α : Type} {a b : Option α} {x : α} (h : orO a b = some x) : a = some x ∨ b = some x := by
 cases a with
 | some y => exact .inl h
 | none => exact .inr h
theorem zcb {A α β : Type} {f : A → Option α} {g : α → α → Option β} {a b : A} {z : β} (h : two f g a b = some z) : ∃ x y, f a = some x ∧ f b = some y ∧ g x y = some z := by
 unfold two at h
 cases p : f a with
 | none => rw [p] at h; exact zA h
 | some x =>
  rw [p] at h
  cases q : f b with
  | none => rw [q] at h; exact zA h
  | some y => rw [q] at h; exact ⟨x, y, rfl, rfl, h⟩
theorem zha {n m : Nat} (h : Nat.ble n zK = true) (q : zK ≤ m) : n ≤ m := Nat.le_trans (Nat.le_of_ble_eq_true h) q
theorem zcN {a b c n : Nat} (h : a + b < n) (q : c ≤ b) : a + c < n := Nat.lt_of_le_of_lt (Nat.add_le_add_left q a) h
noncomputable def addD (a b : D) : Option D := orO (two D.int? (fun i j => some (.int (i + j))) a b) (orO (two D.str? (fun x y => gd (Nat.ble (x.length + y.length) zK) (some (.str (x ++ y)))) a b)
 (two D.list? (fun xs ys => gd (Nat.ble (xs.length + ys.length) zK) (some (.lst (xs ++ ys)))) a b))
noncomputable def yu (op : Operator) (a b : D) : Option D := match op with
 | .Add => addD a b
 | .Sub => two D.int? (fun i j => some (.int (i - j))) a b
 | .Mod => two D.int? (fun i j => gd (!decide (j = 0)) (some (.int (i.fmod j)))) a b
 | .FloorDiv => two D.int? (fun i j => gd (decide (0 < j ∧ j < 1000)) (some (.int (i.fdiv j)))) a b
 | _ => none
noncomputable def zc2 (y x : D) : Option Bool := match y with
 | .none => match x with | .none => some true | .str _ => some false | .tup _ => some false | _ => none
 | .int i => match x with | .int j => some (i == j) | _ => none
 | .str i => match x with | .str j => some (i == j) | .none => some false | _ => none
 | .tup _ => match x with | .none => some false | _ => none
 | _ => none
noncomputable def zaM (x : D) : List D → Option Bool
 | [] => some false
 | y :: r => match zc2 y x with
  | some b => match zaM x r with
   | some c => some (b || c)
   | none => none
  | none => none
noncomputable def zdG : List D → Option (List Int)
 | [] => some []
 | y :: r => match y.int? with
  | some i => (match zdG r with | some l => some (i :: l) | none => none)
  | none => none
noncomputable def zlp : D → Bool
 | .str _ | .int _ | .tup _ | .lst _ | .own _ | .bool _ => true
 | _ => false
noncomputable def znA (q : Addr) (a : D) : Option Bool := match a with
 | .opq p => gd (Nat.beq p q) (some true)
 | .str _ => some false
 | _ => none
noncomputable def isD (a b : D) : Option Bool := match b with
 | .none => (match a with | .none => some true | a => gd (zlp a) (some false))
 | .opq q => znA q a
 | _ => none
noncomputable def inD (a b : D) : Option Bool := match b with
 | .tup ds => zaM a ds
 | .lst ds => zaM a ds
 | .own ds => zaM a ds
 | .str y => match a with | .str x => some (Txt.contains y x) | _ => none
 | _ => none
noncomputable def eqD (a b : D) : Option Bool := orO (two D.int? (fun i j => some (i == j)) a b) (orO (two D.str? (fun i j => some (i == j)) a b) (two D.list? (two zdG fun ns ms => some (decide (ns = ms))) a b))
noncomputable def neD (a b : D) : Option Bool := orO (two D.int? (fun i j => some (i != j)) a b) (two D.str? (fun i j => some (i != j)) a b)
noncomputable def zmi (o : Option Bool) : Option Bool := match o with | some c => some (!c) | none => none
noncomputable def yB (op : CmpOp) (a b : D) : Option Bool := match op with
 | .Eq => eqD a b
 | .NotEq => neD a b
 | .Lt => two D.int? (fun i j => some (decide (i < j))) a b
 | .LtE => two D.int? (fun i j => some (decide (i ≤ j))) a b
 | .Gt => two D.int? (fun i j => some (decide (i > j))) a b
 | .GtE => two D.int? (fun i j => some (decide (i ≥ j))) a b
 | .Is => isD a b
 | .IsNot => zmi (isD a b)
 | .In => inD a b
 | .NotIn => zmi (inD a b)
noncomputable def zcg (a : D) : Option Bool := match a with
 | .bool b => some b
 | .none => some false
 | .int i => some (i != 0)
 | .str x => some (x.length != 0)
 | .lst ds => some (ds.length != 0)
 | .own ds => some (ds.length != 0)
 | _ => none
theorem zfO {xs ys : List D} (h : xs.length + ys.length ≤ zK) : yu .Add (.lst xs) (.lst ys) = some (.lst (xs ++ ys)) := by
 show gd (Nat.ble (xs.length + ys.length) zK) _ = _
 rw [Nat.ble_eq_true_of_le h]; rfl
theorem zhf {x y : Str} (h : x.length + y.length ≤ zK) : yu .Add (.str x) (.str y) = some (.str (x ++ y)) := by
 show orO (gd (Nat.ble (x.length + y.length) zK) _) _ = _
 rw [Nat.ble_eq_true_of_le h]; rfl
section
variable {G : Gd} {A : Around} {X : List Addr} {s : Shared} {d a b : D} {va vb : Value}
theorem Ev.of {t : Sem Value} (h : ∀ E, wpAny (model G.prog G.w) A t (fun v s' => Gr G s s' ∧ Rv G.C X s'.heap d v) E s) : Ev G A X s t d := h
theorem zhu (hX : XOk G X s.heap) : s.heap.objs.size ∉ X := fun h => Nat.lt_irrefl _ (hX.low _ h)
theorem z5 (vs : List Value) : vs.toArray.size = vs.length := by simp
theorem zbi {α : Type} {g : Int → Int → Option α} {z : α} (ra : Rv G.C X s.heap a va) (rb : Rv G.C X s.heap b vb) (e : two D.int? g a b = some z) : ∃ i t j u, va = .int i t ∧ vb = .int j u ∧ g i j = some z := by
 refine xf (zcb e) fun i j e1 e2 e3 => ?_
 refine zU ((D.int_in e1 ▸ ra).int) fun t h1 => ?_
 refine zU ((D.int_in e2 ▸ rb).int) fun u h2 => ?_
 exact ⟨i, t, j, u, h1, h2, e3⟩
theorem zgp {α : Type} {g : Str → Str → Option α} {z : α} (ra : Rv G.C X s.heap a va) (rb : Rv G.C X s.heap b vb) (e : two D.str? g a b = some z) : ∃ i t j u, va = .str i t ∧ vb = .str j u ∧ g i j = some z := by
 refine xf (zcb e) fun i j e1 e2 e3 => ?_
 refine zU ((D.str_in e1 ▸ ra).str) fun t h1 => ?_
 refine zU ((D.str_in e2 ▸ rb).str) fun u h2 => ?_
 exact ⟨i, t, j, u, h1, h2, e3⟩
theorem znc (hX : XOk G X s.heap) {xs ys : List D} (ra : Rv G.C X s.heap a va) (rb : Rv G.C X s.heap b vb) (e1 : a.list? = some xs) (e2 : b.list? = some ys) (e3 : Nat.ble (xs.length + ys.length) zK = true) : Ev G A X s (binaryOp .Add va vb) (.lst (xs ++ ys)) := by
 intro E
 refine yI (ra.list e1) fun l vs n zz3 hl rl => ?_; subst zz3
 refine yI (rb.list e2) fun l2 us n2 zz3 hl2 rl2 => ?_; subst zz3
 refine P.add_list hl hl2 ⟨Gr.push', Rd.rv (Rd.lst' (vs := vs ++ us) (n := 0) (zhu hX) ?_ (RdL.append (rl.gr hX.tabs Gr.push') (rl2.gr hX.tabs Gr.push')))⟩ (by rw [z5, z5, rl.length, rl2.length]; exact zha e3 (by decide))
 rw [Heap.get?_push_size _ rfl, List.append_toArray]
theorem zlX (hX : XOk G X s.heap) (ra : Rv G.C X s.heap a va) (rb : Rv G.C X s.heap b vb) (e : addD a b = some d) : Ev G A X s (binaryOp .Add va vb) d := by
 rcases zem e with e | e
 ·refine zbX (zbi ra rb e) fun i t j u zz4 zz5 e => ?_; subst zz4; subst zz5
  cases e
  exact fun E => PyProof.Rows.add_int ⟨Gr.tok, Rd.rv Rd.int'⟩
 ·rcases zem e with e | e
  ·refine zbX (zgp ra rb e) fun i t j u zz4 zz5 e => ?_; subst zz4; subst zz5
   refine zk (zdB e) fun hb e => ?_
   cases e
   exact fun E => PyProof.Rows.add_str (fun zz zz => ⟨Gr.tok, Rd.rv Rd.str'⟩) (zha hb (by decide))
  ·refine xf (zcb e) fun xs ys e1 e2 e => ?_
   refine zk (zdB e) fun hb e => ?_
   cases e
   exact znc hX ra rb e1 e2 hb
theorem zmj (hX : XOk G X s.heap) (x : Cx G s.heap) (op : Operator) (ra : Rv G.C X s.heap a va) (rb : Rv G.C X s.heap b vb) (e : yu op a b = some d) : Ev G A X s (binaryOp op va vb) d := by
 cases op with
 | Add => exact zlX hX ra rb e
 | Sub =>
  refine zbX (zbi ra rb e) fun i t j u zz4 zz5 e => ?_; subst zz4; subst zz5
  cases e
  exact fun E => PyProof.Rows.sub_int' ⟨Gr.tok, Rd.rv Rd.int'⟩
 | Mod =>
  refine zbX (zbi ra rb e) fun i t j u zz4 zz5 e => ?_; subst zz4; subst zz5
  refine zk (zdB e) fun hj e => ?_
  cases e
  exact fun E => PyProof.Rows.mod_int' (of_decide_eq_false ((Bool.not_eq_true' _).mp hj)) ⟨Gr.tok, Rd.rv Rd.int'⟩
 | FloorDiv =>
  refine zbX (zbi ra rb e) fun i t j u zz4 zz5 e => ?_; subst zz4; subst zz5
  refine zk (zdB e) fun hj e => ?_
  cases e
  have hj' := of_decide_eq_true hj
  exact fun E => PyProof.Rows.floordiv_int (by omega) ⟨Gr.tok, Rd.rv Rd.int'⟩ (.inl (PyProof.noPylong_small (by omega)))
 | _ => exact zA e
theorem zj9 (hu : A.units + 8 < cLine) {y z : D} {vy vz : Value} {c : Bool} (ry : Rv G.C X s.heap y vy) (rz : Rv G.C X s.heap z vz) (e : zc2 y z = some c) : SeqAt.EqAt A s vy vz c := by
 cases y with
 | none =>
  have := ry.none; subst this
  cases z with
  | none => cases e; have := rz.none; subst this; exact SeqAt.EqAt.same _
  | str y => cases e; refine zU rz.str fun t zz1 => ?_; subst zz1; exact SeqAt.EqAt.none_str _ _
  | tup ds => cases e; refine za4 rz.tup fun a vs n zz3 zz4 hg zz6 => ?_; subst zz3; exact SeqAt.EqAt.none_tuple (items := vs.toArray) ⟨_, hg, rfl, n, rfl⟩ (Nat.lt_of_le_of_lt (Nat.le_add_right _ _) hu)
  | _ => exact zA e
 | int i =>
  cases z with
  | int j => cases e; refine zU ry.int fun t zz1 => ?_; subst zz1; refine zU rz.int fun u zz1 => ?_; subst zz1; exact SeqAt.EqAt.int_int _ _ _ _
  | _ => exact zA e
 | str i =>
  cases z with
  | str j => cases e; refine zU ry.str fun t zz1 => ?_; subst zz1; refine zU rz.str fun u zz1 => ?_; subst zz1; exact SeqAt.EqAt.str_str _ _ _ _
  | none => cases e; refine zU ry.str fun t zz1 => ?_; subst zz1; have := rz.none; subst this; exact SeqAt.EqAt.str_none _ _
  | _ => exact zA e
 | tup ds =>
  cases z with
  | none => cases e; have := rz.none; subst this; refine za4 ry.tup fun a vs n zz3 zz4 hg zz6 => ?_; subst zz3; exact SeqAt.EqAt.tuple_none (items := vs.toArray) ⟨_, hg, rfl, n, rfl⟩ (Nat.lt_of_le_of_lt (Nat.le_add_right _ _) hu)
  | _ => exact zA e
 | _ => exact zA e
noncomputable def zgn (z : D) (v : Value) : Bool := match z with
 | .none => (match v with | .none => true | _ => false)
 | .int j => (match v with | .int i _ => i == j | _ => false)
 | .str j => (match v with | .str i _ => i == j | _ => false)
 | _ => false
theorem zho {C : Addr} {h : Heap} {y z : D} {vy : Value} {c : Bool} (ry : Rv C X h y vy) (e : zc2 y z = some c) : zgn z vy = c := by
 cases y with
 | none => have := ry.none; subst this; cases z <;> first | exact zA e | exact Option.some.inj e
 | int i => refine zU ry.int fun t zz1 => ?_; subst zz1; cases z <;> first | exact zA e | exact Option.some.inj e
 | str i => refine zU ry.str fun t zz1 => ?_; subst zz1; cases z <;> first | exact zA e | exact Option.some.inj e
 | tup ds => refine zfg ry.tup fun a vs n zz3 zz4 => ?_; subst zz3; cases z <;> first | exact zA e | exact Option.some.inj e
 | _ => exact zA e
theorem zeK (hu : A.units + 8 < cLine) {z : D} {vz : Value} (rz : Rv G.C X s.heap z vz) : ∀ {ds : List D} {vs : List Value} {c : Bool}, RdL G.C X s.heap ds vs → zaM z ds = some c →
  (∀ y ∈ vs, SeqAt.EqAt A s y vz (zgn z y)) ∧ vs.any (zgn z) = c
 | [], vs, c, r, e => by
  have := r.nil_inv; subst this; cases e
  exact ⟨fun y hy => (nomatch hy), rfl⟩
 | d :: ds, vs, c, r, e => by
  refine xf r.cons_inv fun v vs' zz2 hr l => ?_; subst zz2
  unfold zaM at e
  injection eS e fun b hb e => ?_
  injection eS e fun c' hc e => ?_
  cases e
  refine zk (zeK hu rz l hc) fun hf hany => ?_
  have h1 := zj9 (A := A) hu (Rd.rv hr) rz hb
  have h2 := zho (Rd.rv hr) hb
  exact ⟨List.forall_mem_cons.mpr ⟨h2.symm ▸ h1, hf⟩, by rw [List.any_cons, h2, hany]⟩
theorem ziC (vs : List Value) (f : Value → Bool) : vs.toArray.any f = vs.any f := by simp
theorem zdQ {vs : List Value} {y : Value} (h : y ∈ vs.toArray) : y ∈ vs := by simpa using h
noncomputable abbrev InS (G : Gd) (A : Around) (s : Shared) (va vb : Value) (c : Bool) : Prop := (∀ E Q, Q (.bool c) s → wpAny (model G.prog G.w) A (compareOp .In va vb) Q E s) ∧ (∀ E Q, Q (.bool (!c)) s → wpAny (model G.prog G.w) A (compareOp .NotIn va vb) Q E s)
noncomputable abbrev IsS (G : Gd) (A : Around) (s : Shared) (va vb : Value) (c : Bool) : Prop := (∀ E Q, Q (.bool c) s → wpAny (model G.prog G.w) A (compareOp .Is va vb) Q E s) ∧ (∀ E Q, Q (.bool (!c)) s → wpAny (model G.prog G.w) A (compareOp .IsNot va vb) Q E s)
theorem zlz (hu : A.units + 16 < cLine) {c : Bool} {ds : List D} (ra : Rv G.C X s.heap a va) (rb : Rv G.C X s.heap b vb) (e1 : b.list? = some ds) (e2 : zaM a ds = some c) : InS G A s va vb c := by
 refine yI (rb.list e1) fun l vs n zz3 hl rl => ?_; subst zz3
 obtain ⟨hf, hany⟩ := zeK (A := A.in1) (show A.units + 1 + 8 < cLine by rw [Nat.add_assoc]; exact zcN hu (by decide)) ra rl e2
 have il : s.heap.IsList l vs.toArray := ⟨_, hl, rfl, n, rfl⟩
 have hc : vs.toArray.any (zgn a) = c := (ziC _ _).trans hany
 exact ⟨fun E Q h => SeqAt.in_listAt (zgn a) il (fun y hy => hf y (zdQ hy)) (hc.symm ▸ h), fun E Q h => SeqAt.notIn_listAt (zgn a) il (fun y hy => hf y (zdQ hy)) (hc.symm ▸ h)⟩
theorem zoq (hu : A.units + 16 < cLine) {c : Bool} {ds : List D} (ra : Rv G.C X s.heap a va) (rb : Rv G.C X s.heap (.tup ds) vb) (e : zaM a ds = some c) : InS G A s va vb c := by
 refine za4 rb.tup fun l vs n zz3 zz4 hl rl => ?_; subst zz3
 obtain ⟨hf, hany⟩ := zeK (A := A.in1) (show A.units + 1 + 8 < cLine by rw [Nat.add_assoc]; exact zcN hu (by decide)) ra rl e
 have il : s.heap.IsTuple l vs.toArray := ⟨_, hl, rfl, n, rfl⟩
 have hc : vs.toArray.any (zgn a) = c := (ziC _ _).trans hany
 exact ⟨fun E Q h => SeqAt.in_tupleAt (zgn a) il (fun y hy => hf y (zdQ hy)) (hc.symm ▸ h), fun E Q h => SeqAt.notIn_tupleAt (zgn a) il (fun y hy => hf y (zdQ hy)) (hc.symm ▸ h)⟩
theorem zkw (hu : A.units + 16 < cLine) {c : Bool} (ra : Rv G.C X s.heap a va) (rb : Rv G.C X s.heap b vb) (e : inD a b = some c) : InS G A s va vb c := by
 cases b with
 | tup ds => exact zoq hu ra rb e
 | lst ds => exact zlz hu ra rb rfl e
 | own ds => exact zlz hu ra rb rfl e
 | str y =>
  cases a with
  | str z =>
   replace e : some (Txt.contains y z) = some c := e
   cases e
   refine zU ra.str fun t zz1 => ?_; subst zz1; refine zU rb.str fun u zz1 => ?_; subst zz1
   exact ⟨fun E Q h => SB.contains h, fun E Q h => SB.notContains h⟩
  | _ => exact zA e
 | _ => exact zA e
theorem yt {c : Bool} (h1 : plainIs va vb = true) (h2 : (va == vb) = c) : IsS G A s va vb c :=
 ⟨fun E Q h => wpAny_is_plain h1 (h2.symm ▸ h), fun E Q h => wpAny_isNot_plain h1 (h2.symm ▸ h)⟩
theorem zm2 {a : D} (ra : Rv G.C X s.heap a va) (h : zlp a = true) : IsS G A s va .none false := by
 cases a with
 | str x => refine zU ra.str fun t zz1 => ?_; subst zz1; exact yt rfl rfl
 | int x => refine zU ra.int fun t zz1 => ?_; subst zz1; exact yt rfl rfl
 | bool x => have := ra.bool; subst this; exact yt rfl rfl
 | tup x => refine zfg ra.tup fun t zz1 zz2 zz3 zz4 => ?_; subst zz3; exact yt rfl rfl
 | lst x => refine zfg (ra.list rfl) fun t zz1 zz2 zz3 zz4 => ?_; subst zz3; exact yt rfl rfl
 | own x => refine zfg (ra.list rfl) fun t zz1 zz2 zz3 zz4 => ?_; subst zz3; exact yt rfl rfl
 | _ => exact Bool.noConfusion (show false = true from h)
theorem zoA {q : Addr} {c : Bool} (ra : Rv G.C X s.heap a va) (e : znA q a = some c) : IsS G A s va (.ref q) c := by
 cases a with
 | opq p =>
  have := ra.opq; subst this
  refine zk (zdB (show gd (Nat.beq p q) (some true) = some c from e)) fun hb e => ?_
  cases e
  have := Nat.eq_of_beq_eq_true hb; subst this
  exact ⟨fun E Q h => wpAny_is_ref_self h, fun E Q h => wpAny_isNot_ref_self h⟩
 | str x =>
  replace e : some false = some c := e
  cases e; refine zU ra.str fun t zz1 => ?_; subst zz1; exact yt rfl rfl
 | _ => exact zA e
theorem zks {c : Bool} (ra : Rv G.C X s.heap a va) (rb : Rv G.C X s.heap b vb) (e : isD a b = some c) : IsS G A s va vb c := by
 cases b with
 | none =>
  have := rb.none; subst this
  unfold isD at e
  dsimp only at e
  split at e
  ·cases e; have := ra.none; subst this; exact yt rfl rfl
  ·refine zk (zdB e) fun hp e => ?_
   cases e
   exact zm2 ra hp
 | opq q => have := rb.opq; subst this; exact zoA ra e
 | _ => exact zA e
theorem zbR {C : Addr} {h : Heap} : ∀ {ds : List D} {vs : List Value} {ns : List Int}, RdL C X h ds vs → zdG ds = some ns → IntsAre vs ns
 | [], vs, ns, r, e => by have := r.nil_inv; subst this; cases e; exact .nil
 | d :: ds, vs, ns, r, e => by
  refine xf r.cons_inv fun v vs' zz2 hr l => ?_; subst zz2
  unfold zdG at e
  injection eS e fun i hi e => ?_
  injection eS e fun l' hl e => ?_
  cases e
  refine zU ((D.int_in hi ▸ Rd.rv hr : Rv C X h (.int i) v).int) fun t zz1 => ?_; subst zz1
  exact .cons i t (zbR l hl)
theorem ziV {o : Option Bool} {c : Bool} (h : zmi o = some c) : o = some (!c) := by
 cases o with
 | none => exact zA h
 | some b => have := Option.some.inj (show some (!b) = some c from h); rw [← this, Bool.not_not]
noncomputable abbrev zl9 (G : Gd) (A : Around) (s : Shared) (op : CmpOp) (va vb : Value) (c : Bool) : Prop := ∀ E (Q : Value → Shared → Prop), Q (.bool c) s → wpAny (model G.prog G.w) A (compareOp op va vb) Q E s
theorem zoK (hu : A.units + 100 < cLine) {c : Bool} (ra : Rv G.C X s.heap a va) (rb : Rv G.C X s.heap b vb) (e : eqD a b = some c) : zl9 G A s .Eq va vb c := by
 intro E Q hq
 rcases zem e with e | e
 ·refine zbX (zbi ra rb e) fun i t j u zz4 zz5 e => ?_; subst zz4; subst zz5
  cases e; exact PyProof.Rows.eq_int hq
 ·rcases zem e with e | e
  ·refine zbX (zgp ra rb e) fun i t j u zz4 zz5 e => ?_; subst zz4; subst zz5
   cases e; exact PyProof.Rows.eq_str hq
  ·refine xf (zcb e) fun xs ys e1 e2 e => ?_
   refine xf (zcb e) fun ns ms e3 e4 e => ?_
   refine yI (ra.list e1) fun l vs n zz3 hl rl => ?_; subst zz3
   refine yI (rb.list e2) fun l2 us n2 zz3 hl2 rl2 => ?_; subst zz3
   exact eq_intsK ⟨_, hl, rfl, n, rfl⟩ (zbR rl e3) ⟨_, hl2, rfl, n2, rfl⟩ (zbR rl2 e4) (zcN hu (by decide)) ((Option.some.inj e).symm ▸ hq)
theorem zoI {c : Bool} (ra : Rv G.C X s.heap a va) (rb : Rv G.C X s.heap b vb) (e : neD a b = some c) : zl9 G A s .NotEq va vb c := by
 intro E Q hq
 rcases zem e with e | e
 ·refine zbX (zbi ra rb e) fun i t j u zz4 zz5 e => ?_; subst zz4; subst zz5
  cases e; exact PyProof.Rows.ne_int hq
 ·refine zbX (zgp ra rb e) fun i t j u zz4 zz5 e => ?_; subst zz4; subst zz5
  cases e; exact PyProof.Rows.ne_str hq
theorem zdR {op : CmpOp} {f : Int → Int → Bool} (k : ∀ {i j : Int} {t u : Tok} {E} {Q : Value → Shared → Prop}, Q (.bool (f i j)) s → wpAny (model G.prog G.w) A (compareOp op (.int i t) (.int j u)) Q E s) {c : Bool} (ra : Rv G.C X s.heap a va) (rb : Rv G.C X s.heap b vb) (e : two D.int? (fun i j => some (f i j)) a b = some c) : zl9 G A s op va vb c := by
 intro E Q hq
 refine zbX (zbi ra rb e) fun i t j u zz4 zz5 e => ?_; subst zz4; subst zz5
 exact k ((Option.some.inj e).symm ▸ hq)
theorem ziL (hu : A.units + 100 < cLine) {c : Bool} (op : CmpOp) (ra : Rv G.C X s.heap a va) (rb : Rv G.C X s.heap b vb) (e : yB op a b = some c) : zl9 G A s op va vb c := by
 cases op with
 | Eq => exact zoK hu ra rb e
 | NotEq => exact zoI ra rb e
 | Lt => exact zdR (f := fun i j => decide (i < j)) PyProof.Rows.lt_int ra rb e
 | LtE => exact zdR (f := fun i j => decide (i ≤ j)) PyProof.Rows.le_int ra rb e
 | Gt => exact zdR (f := fun i j => decide (i > j)) PyProof.Rows.gt_int ra rb e
 | GtE => exact zdR (f := fun i j => decide (i ≥ j)) PyProof.Rows.ge_int ra rb e
 | Is => exact (zks ra rb e).1
 | IsNot => have := (zks (A := A) ra rb (ziV e)).2; rwa [Bool.not_not] at this
 | In => exact (zkw (zcN hu (by decide)) ra rb e).1
 | NotIn => have := (zkw (A := A) (zcN hu (by decide)) ra rb (ziV e)).2; rwa [Bool.not_not] at this
end
end
section
noncomputable def unD (op : UnaryOp) (a : D) : Option D := match op with
 | .USub => match a with | .int i => some (.int (-i)) | _ => none
 | .Not => match zcg a with | some b => some (.bool (!b)) | none => none
 | _ => none
noncomputable def zaB (k : Int) (n : Nat) : Option Nat := match decide (0 ≤ k) with
 | true => (match Nat.blt k.toNat n with | true => some k.toNat | false => none)
 | false => (match decide (0 ≤ k + n) with | true => some (k + n).toNat | false => none)
noncomputable def x7 (o i : D) : Option D := match i with
 | .int k => match o with
  | .str x => (match zaB k x.length with | some _ => (match Nat.ble x.length zK with | true => some (.str (Txt.item x k)) | false => none) | none => none)
  | .tup ds => (match zaB k ds.length with | some j => (match Nat.ble ds.length zK with | true => ds[j]? | false => none) | none => none)
  | .lst ds => (match zaB k ds.length with | some j => (match Nat.ble ds.length zK with | true => ds[j]? | false => none) | none => none)
  | .own ds => (match zaB k ds.length with | some j => (match Nat.ble ds.length zK with | true => ds[j]? | false => none) | none => none)
  | _ => none
 | _ => none
noncomputable def z6 {α : Type} (ds : List α) (lo hi : Option Int) : List α := (ds.drop (lo.elim 0 (clipAt ds.length))).take (hi.elim ds.length (clipAt ds.length) - lo.elim 0 (clipAt ds.length))
noncomputable def xS (o : D) (lo hi : Option Int) : Option D := match o with
 | .str x => (match Nat.ble x.length zK with | true => some (.str (Txt.slice x lo hi)) | false => none)
 | .lst ds => (match Nat.ble ds.length zK with | true => some (.lst (z6 ds lo hi)) | false => none)
 | .own ds => (match Nat.ble ds.length zK with | true => some (.lst (z6 ds lo hi)) | false => none)
 | _ => none
noncomputable def zbY (o : D) : Option D := match o with
 | .str x => (match Nat.ble x.length zK with | true => some (.int x.length) | false => none)
 | .tup ds => (match Nat.ble ds.length zK with | true => some (.int ds.length) | false => none)
 | .lst ds => (match Nat.ble ds.length zK with | true => some (.int ds.length) | false => none)
 | .own ds => (match Nat.ble ds.length zK with | true => some (.int ds.length) | false => none)
 | _ => none
section
variable {G : Gd} {A : Around} {X : List Addr} {s : Shared} {d a b : D} {va vb : Value}
theorem zbU {c : Bool} (ra : Rv G.C X s.heap a va) (hsz : match a with | .str x => x.length ≤ zK | .lst ds => ds.length ≤ zK | .own ds => ds.length ≤ zK | _ => True) (e : zcg a = some c) :
  ∀ E (Q : Bool → Shared → Prop), (∀ s', Gr G s s' → Q c s') → wpAny (model G.prog G.w) A (truthy va) Q E s := by
 intro E Q hq
 have lists : ∀ ds, a.list? = some ds → ds.length ≤ zK → c = (ds.length != 0) → wpAny (model G.prog G.w) A (truthy va) Q E s := by
  intro ds e1 e2 e3
  refine yI (ra.list e1) fun l vs n zz3 hl rl => ?_; subst zz3
  refine wpAny_truthy_list (items := vs.toArray) ⟨_, hl, rfl, n, rfl⟩ ?_ ?_
  ·rw [z5, rl.length]
   have : zK < 2 ^ 63 := by decide
   omega
  ·have : (!vs.toArray.isEmpty) = c := by
    rw [e3, ← rl.length]
    cases vs <;> simp
   rw [this]
   exact hq _ Gr.tok
 cases a with
 | none => cases e; have := ra.none; subst this; exact truthy_none (hq _ (Gr.refl _))
 | bool b => cases e; have := ra.bool; subst this; exact wpAny_truthy_bool (hq _ (Gr.refl _))
 | int i => cases e; refine zU ra.int fun t zz1 => ?_; subst zz1; exact P.truthy_int (hq _ (Gr.refl _))
 | str x =>
  cases e; refine zU ra.str fun t zz1 => ?_; subst zz1
  refine P.truthy_str ?_ ?_
  ·have h1 : x.length ≤ zK := hsz
   have : zK < 2 ^ 63 := by decide
   omega
  ·have : (((x.length : Nat) : Int) != 0) = (x.length != 0) := by
    cases h : x.length <;> simp
    omega
   rw [this]
   exact hq _ Gr.tok
 | lst ds => cases e; exact lists ds rfl hsz rfl
 | own ds => cases e; exact lists ds rfl hsz rfl
 | _ => exact zA e
theorem zc0 {k : Int} {n j : Nat} (e : zaB k n = some j) : seqIndex? k n = some j ∧ j < n ∧ (0 ≤ k → k < n) ∧ -(n : Int) ≤ k := by
 unfold zaB at e
 split at e
 ·rename_i h0
  have h0 := of_decide_eq_true h0
  injection eT e fun h1 e => ?_
  have h1 : k.toNat < n := Nat.le_of_ble_eq_true h1
  cases e
  refine ⟨?_, h1, fun zz => by omega, by omega⟩
  unfold seqIndex?
  have : ¬ k < 0 := by omega
  simp only [this, if_false]
  rw [if_pos (by simp only [Bool.and_eq_true, decide_eq_true_eq]; omega)]
 ·rename_i h0
  have h0 := of_decide_eq_false h0
  injection eT e fun h1 e => ?_
  have h1 := of_decide_eq_true h1
  cases e
  exact ⟨seqIndex_neg (by omega) (by omega), by omega, fun h => absurd h h0, by omega⟩
theorem zaN {n : Nat} (h : Nat.ble n zK = true) : (n : Int) < 2 ^ 63 ∧ n ≤ zK ∧ n ≤ sizeLine := by
 have h := Nat.le_of_ble_eq_true h
 have h1 : zK < 2 ^ 63 := by decide
 have h2 : zK ≤ sizeLine := by decide
 exact ⟨by omega, h, by omega⟩
theorem zm5 {value slice : Expr} (ra : Rv G.C X s.heap a va) (rb : Rv G.C X s.heap b vb) (e : x7 a b = some d)
  (hs : ∀ k t, vb = .int k t → subscripted slice false va vb = operate [va, vb] (getItem va vb)) : Ev G A X s (subscriptTail value slice va vb) d := by
 intro E
 cases b with
 | int k =>
  refine zU rb.int fun t zz1 => ?_; subst zz1
  have hs := hs k t rfl
  have lists : ∀ ds j, a.list? = some ds → zaB k ds.length = some j → Nat.ble ds.length zK = true → ds[j]? = some d → wpAny (model G.prog G.w) A (subscriptTail value slice va (.int k t)) (fun v s' => Gr G s s' ∧ Rv G.C X s'.heap d v) E s := by
   intro ds j e1 e2 e3 e4
   refine yI (ra.list e1) fun l vs n zz3 hl rl => ?_; subst zz3
   refine zQ (rl.get e4) fun v hv hr => ?_
   refine zc1 (zc0 e2) fun p1 p2 p3 p4 => ?_
   have il : s.heap.IsList l vs.toArray := ⟨_, hl, rfl, n, rfl⟩
   have hb := zaN e3
   refine tail_any il.typeIs slot_list_getitem.lookup ?_ hs
   by_cases h0 : 0 ≤ k
   ·refine wpAny_getItem_list il h0 (by have := p3 h0; omega) (x := v) ?_ ⟨Gr.refl _, Rd.rv hr⟩
    have : j = k.toNat := by
     have q := p1
     unfold seqIndex? at q
     have h' : ¬ k < 0 := by omega
     simp only [h', if_false] at q
     rw [if_pos (by simp only [Bool.and_eq_true, decide_eq_true_eq]; have := p3 h0; omega)] at q
     exact (Option.some.inj q).symm
    subst this
    simpa using hv
   ·refine wpAny_getItem_list_neg il (by omega) (by rw [z5, rl.length]; exact p4) (by omega) (x := v) ?_ ⟨Gr.refl _, Rd.rv hr⟩
    have q := p1
    rw [seqIndex_neg (by omega) p4] at q
    have : (k + ds.length).toNat = j := Option.some.inj q
    rw [z5, rl.length, this]
    simpa using hv
  cases a with
  | str x =>
   refine zU ra.str fun u zz1 => ?_; subst zz1
   dsimp only [x7] at e
   injection eS e fun j hj e => ?_
   injection eT e fun hb e => ?_
   cases e
   refine zc1 (zc0 hj) fun p1 p2 p3 p4 => ?_
   have hb := zaN hb
   refine item_str ?_ p4 ?_ (fun zz => ⟨Gr.tok, Rd.rv Rd.str'⟩) hs (fun r => by cases value <;> rfl)
   ·unfold fitsSsize
    by_cases h0 : 0 ≤ k
    ·have := p3 h0
     first | (simp only [Bool.and_eq_true, decide_eq_true_eq]; omega) | (simp; omega)
    ·first | (simp only [Bool.and_eq_true, decide_eq_true_eq]; omega) | (simp; omega)
   ·by_cases h0 : 0 ≤ k
    ·exact p3 h0
    ·omega
  | tup ds =>
   dsimp only [x7] at e
   injection eS e fun j hj e => ?_
   injection eT e fun hb e => ?_
   refine za4 ra.tup fun l vs n zz3 hx hl rl => ?_; subst zz3
   refine zQ (rl.get e) fun v hv hr => ?_
   refine zc1 (zc0 hj) fun p1 p2 p3 p4 => ?_
   have hb := zaN hb
   refine item_tupleT (l := vs) ⟨_, hl, rfl, n, rfl⟩ (by omega) ?_ (by rw [rl.length]; exact p1) hv ⟨Gr.refl _, Rd.rv hr⟩ hs
   by_cases h0 : 0 ≤ k
   ·have := p3 h0; omega
   ·omega
  | lst ds =>
   dsimp only [x7] at e
   injection eS e fun j hj e => ?_
   injection eT e fun hb e => ?_
   exact lists ds j rfl hj hb e
  | own ds =>
   dsimp only [x7] at e
   injection eS e fun j hj e => ?_
   injection eT e fun hb e => ?_
   exact lists ds j rfl hj hb e
  | _ => exact zA e
 | _ => exact zA e
theorem zmg (ra : Rv G.C X s.heap a va) (e : zbY a = some d) : Ev G A X s (call (.builtin "len") [va]) d := by
 intro E
 have lists : ∀ ds, a.list? = some ds → Nat.ble ds.length zK = true → d = .int ds.length → wpAny (model G.prog G.w) A (call (.builtin "len") [va]) (fun v s' => Gr G s s' ∧ Rv G.C X s'.heap d v) E s := by
  intro ds e1 e2 e3
  refine yI (ra.list e1) fun l vs n zz3 hl rl => ?_; subst zz3
  subst e3
  refine PyProof.Rows.len_list (items := vs.toArray) ⟨_, hl, rfl, n, rfl⟩ (by rw [z5, rl.length]; exact (zaN e2).1) ⟨Gr.tok, ?_⟩
  rw [z5, rl.length]
  exact Rd.rv Rd.int'
 cases a with
 | str x =>
  dsimp only [zbY] at e
  injection eT e fun hb e => ?_
  cases e
  refine zU ra.str fun t zz1 => ?_; subst zz1
  exact PyProof.Rows.len_str (by have := (zaN hb).1; omega) ⟨Gr.tok, Rd.rv Rd.int'⟩
 | tup ds =>
  dsimp only [zbY] at e
  injection eT e fun hb e => ?_
  cases e
  refine za4 ra.tup fun l vs n zz3 zz4 hl rl => ?_; subst zz3
  refine PyProof.Rows.len_tuple (items := vs.toArray) ⟨_, hl, rfl, n, rfl⟩ (by rw [z5, rl.length]; exact (zaN hb).1) ⟨Gr.tok, ?_⟩
  rw [z5, rl.length]
  exact Rd.rv Rd.int'
 | lst ds =>
  dsimp only [zbY] at e
  injection eT e fun hb e => ?_
  exact lists ds rfl hb (Option.some.inj e).symm
 | own ds =>
  dsimp only [zbY] at e
  injection eT e fun hb e => ?_
  exact lists ds rfl hb (Option.some.inj e).symm
 | _ => exact zA e
theorem RdL.slice {C : Addr} {h : Heap} {ds : List D} {vs : List Value} (rl : RdL C X h ds vs) (lo hi : Option Int) : RdL C X h (z6 ds lo hi) (slicePick vs.toArray lo hi none).toList := by
 rw [slicePick_plain]
 rw [z5, rl.length]
 exact (rl.drop _).take _
theorem zi3 (p : Option (Int × Tok)) : IsPart (partValue p) (p.map (·.1)) := by
 cases p with
 | none => exact .none
 | some q => exact .int q.1 q.2
theorem zjB {value slice : Expr} (hX : XOk G X s.heap) (x : Cx G s.heap) {plo phi : Option (Int × Tok)}
  (ra : Rv G.C X s.heap a va) (e : xS a (plo.map (·.1)) (phi.map (·.1)) = some d)
  (hs : ∀ q, subscripted slice false va (.ref q) = operate [.ref q, va] (getItem va (.ref q))) :
  ∀ E, wpAny (model G.prog G.w) A (subscriptTail value slice va (.ref s.heap.objs.size)) (fun v s' => Gr G s s' ∧ Rv G.C X s'.heap d v) E
   { s with heap := s.heap.push { cls := .type "slice", data := .fields #[partValue plo, partValue phi, .none] } } := by
 intro E
 have lists : ∀ ds, a.list? = some ds → Nat.ble ds.length zK = true → d = .lst (z6 ds (plo.map (·.1)) (phi.map (·.1))) → wpAny (model G.prog G.w) A (subscriptTail value slice va (.ref s.heap.objs.size)) (fun v s' => Gr G s s' ∧ Rv G.C X s'.heap d v) E
   { s with heap := s.heap.push { cls := .type "slice", data := .fields #[partValue plo, partValue phi, .none] } } := by
  intro ds e1 e2 e3
  subst e3
  refine yI (ra.list e1) fun l vs n zz3 hl rl => ?_; subst zz3
  have g1 : Gr G s { s with heap := s.heap.push { cls := .type "slice", data := .fields #[partValue plo, partValue phi, .none] } } := Gr.push'
  have il : (s.heap.push { cls := .type "slice", data := .fields #[partValue plo, partValue phi, .none] }).IsList l vs.toArray := ⟨_, Heap.get?_push_of_some _ hl, rfl, n, rfl⟩
  refine tail_any (T := "list") ⟨_, Heap.get?_push_of_some _ hl, rfl⟩ slot_list_getitem.lookup ?_ (hs _)
  refine wpAny_getItem_list_slice (vs := .none) (st := none) il ⟨_, Heap.get?_push_size _ rfl, rfl, rfl⟩ (zi3 plo) (zi3 phi) .none (by decide) ?_ (by rw [z5, rl.length]; exact (zaN e2).2.2)
  refine ⟨g1.trans Gr.push', ?_⟩
  refine Rd.rv (Rd.lst' (vs := (slicePick vs.toArray (plo.map (·.1)) (phi.map (·.1)) none).toList) (n := 0) ?_ ?_ ?_)
  ·intro h
   have h1 := hX.low _ h
   have h2 : (s.heap.push { cls := .type "slice", data := .fields #[partValue plo, partValue phi, .none] }).objs.size = s.heap.objs.size + 1 := Heap.size_push ..
   have h3 : (s.heap.push { cls := .type "slice", data := .fields #[partValue plo, partValue phi, .none] }).objs.size < s.heap.objs.size := h1
   omega
  ·show (Heap.push _ _).get? _ = _
   rw [Heap.get?_push_size _ rfl]
  ·exact ((rl.slice _ _).gr hX.tabs g1).gr hX.tabs Gr.push'
 cases a with
 | str y =>
  dsimp only [xS] at e
  injection eT e fun hb e => ?_
  cases e
  refine zU ra.str fun t zz1 => ?_; subst zz1
  have g1 : Gr G s { s with heap := s.heap.push { cls := .type "slice", data := .fields #[partValue plo, partValue phi, .none] } } := Gr.push'
  refine tail_any (T := "str") (typeIs_str _ _ _) PySem.F.slot_str_getitem.lookup ?_ (hs _)
  refine wpAny_getItem_str_slice (l := plo) (u := phi) (st := none) ⟨_, Heap.get?_push_size _ rfl, rfl, rfl⟩ rfl ?_
  refine post_val_or_str ⟨?_, fun t' k => ⟨g1.trans Gr.tok, Rd.rv Rd.str'⟩⟩
  exact Nat.le_trans (Txt.slice_le y _ _) (zaN hb).2.2
 | lst ds =>
  dsimp only [xS] at e
  injection eT e fun hb e => ?_
  exact lists ds rfl hb (Option.some.inj e).symm
 | own ds =>
  dsimp only [xS] at e
  injection eT e fun hb e => ?_
  exact lists ds rfl hb (Option.some.inj e).symm
 | _ => exact zA e
end
end
section
structure GrB (G : Gd) (Y : List Addr) (s s' : Shared) : Prop where
 heap : ∀ b o, b ∉ G.T → b ∉ Y → s.heap.get? b = some o → s'.heap.get? b = some o
 ti : G.TI s.heap → G.TI s'.heap
 os : s'.os = s.os
 bare : AllBare s.gens → AllBare s'.gens
theorem Gr.b {G : Gd} {Y : List Addr} {s s' : Shared} (g : Gr G s s') : GrB G Y s s' := ⟨fun b o h zz e => g.heap b o h e, g.ti, g.os, g.bare⟩
theorem GrB.refl {G : Gd} {Y : List Addr} (s : Shared) : GrB G Y s s := (Gr.refl s).b
theorem GrB.trans {G : Gd} {Y : List Addr} {s s₁ s₂ : Shared} (a : GrB G Y s s₁) (b : GrB G Y s₁ s₂) : GrB G Y s s₂ :=
 ⟨fun x o hx hy e => b.heap x o hx hy (a.heap x o hx hy e), fun t => b.ti (a.ti t), b.os.trans a.os, fun t => b.bare (a.bare t)⟩
theorem GrB.mono {G : Gd} {Y Y' : List Addr} {s s' : Shared} (a : GrB G Y s s') (h : ∀ y ∈ Y, y ∈ Y') : GrB G Y' s s' :=
 ⟨fun x o hx hy e => a.heap x o hx (fun q => hy (h x q)) e, a.ti, a.os, a.bare⟩
noncomputable def NT (h : Heap) (b : Addr) : Prop := ∃ o, h.get? b = some o ∧ ¬ TK o
theorem NT.dict {h : Heap} {a : Addr} {m} (n : h.Ns a m) : NT h a := by
 refine yI n fun o es ep ho hd zz5 => ?_
 exact ⟨o, ho, fun ⟨vs, q, _⟩ => by rw [hd] at q; cases q⟩
theorem NT.list {h : Heap} {a : Addr} {its} (n : h.IsList a its) : NT h a := by
 obtain ⟨o, ho, _, k, hd⟩ := n
 exact ⟨o, ho, fun ⟨vs, q, _⟩ => by rw [hd] at q; cases q⟩
theorem NT.cell {h : Heap} {a : Addr} {v} (n : h.IsCell a v) : NT h a := by
 refine zQ n fun o ho hd => ?_
 exact ⟨o, ho, fun ⟨vs, q, _⟩ => by rw [hd] at q; cases q⟩
theorem NT.notTab {G : Gd} {h : Heap} {b : Addr} (n : NT h b) (t : G.TI h) : b ∉ G.T := fun hb => by
 refine zU (G.tabs _ t b hb) fun vs e => ?_
 refine zQ n fun o ho no => ?_
 rw [e] at ho; cases ho
 exact no ⟨vs, rfl, .inl rfl⟩
theorem GrB.change {G : Gd} {Y : List Addr} {s : Shared} {h' : Heap} {tk : Nat} (k : ∀ b o, b ∉ Y → s.heap.get? b = some o → h'.get? b = some o) (n : ∀ b ∈ Y, NT s.heap b) : GrB G Y s { s with heap := h', toks := tk } :=
 ⟨fun b o zz hy e => k b o hy e, fun t => G.frame _ _ t fun b o tk e => k b o (fun hy => by
  refine zQ (n b hy) fun o' e' no => ?_
  rw [e] at e'; cases e'
  exact no tk) e, rfl, id⟩
theorem GrB.same {G : Gd} {a : Addr} {s : Shared} {h' : Heap} {tk : Nat} (k : Heap.SameBut a s.heap h') (n : NT s.heap a) : GrB G [a] s { s with heap := h', toks := tk } :=
 GrB.change (fun b o hy e => (k.2 b (fun q => hy (by simp [q]))).trans e) fun b hb => by rw [List.mem_singleton.mp hb]; exact n
noncomputable def Src (G : Gd) (A : Around) (X : List Addr) (h₀ : Heap) (h : Heap) (I : Addr) (fp wr : List Addr) (ds : List D) : Prop :=
 ∃ (St : Nat → Heap → Prop) (P : Nat → Value → Prop), Walks G.prog G.w A I fp wr ds.length P St ∧ St 0 h ∧ (∀ b ∈ wr, h₀.get? b = none) ∧
  (∀ b ∈ fp, (b ∈ wr ∨ (b ∉ X ∧ ∃ o, h₀.get? b = some o)) ∧ b ∉ G.T) ∧ (∀ b ∈ fp, b < h.objs.size) ∧ (∀ i h', St i h' → ∀ b ∈ wr, NT h' b) ∧
  (∀ i v, i < ds.length → P i v → ∃ d, ds[i]? = some d ∧ Rd G.C X h₀ d v)
noncomputable def xQ (tst : D → Option Bool) (el : D → Option D) : List D → Option (List D)
 | [] => some []
 | d :: ds => match tst d with
  | some true => match el d with
   | some y => match y.pure with
    | true => (match xQ tst el ds with | some ys => some (y :: ys) | none => none)
    | false => none
   | none => none
  | some false => xQ tst el ds
  | none => none
theorem zk2 (tst : D → Option Bool) (el : D → Option D) : ∀ (ds : List D) (all : List D) (k : Nat) (d : D), xQ tst el ds = some all → ds[k]? = some d →
  ∃ pre, xQ tst el (ds.take k) = some pre ∧ ((tst d = some false ∧ xQ tst el (ds.take (k + 1)) = some pre) ∨ ∃ y, tst d = some true ∧ el d = some y ∧ y.pure = true ∧ xQ tst el (ds.take (k + 1)) = some (pre ++ [y])) := by
 intro ds
 induction ds with
 | nil => intro all k d h e; simp at e
 | cons c ds ih =>
  intro all k d h e
  unfold xQ at h
  split at h
  ·rename_i ht
   injection eS h fun y hy h => ?_
   injection eT h fun hp h => ?_
   injection eS h fun ys hys h => ?_
   cases k with
   | zero =>
    simp at e; subst e
    exact ⟨[], rfl, .inr ⟨y, ht, hy, hp, by simp [xQ, ht, hy, hp]⟩⟩
   | succ k =>
    simp at e
    refine zQ (ih ys k d hys e) fun pre h1 h2 => ?_
    refine ⟨y :: pre, by simp [xQ, ht, hy, hp, h1], ?_⟩
    rcases h2 with ⟨a, b⟩ | ⟨z, a, b, c, e⟩
    ·exact .inl ⟨a, by simp [xQ, ht, hy, hp, b]⟩
    ·exact .inr ⟨z, a, b, c, by simp [xQ, ht, hy, hp, e]⟩
  ·rename_i ht
   cases k with
   | zero =>
    simp at e; subst e
    exact ⟨[], rfl, .inl ⟨ht, by simp [xQ, ht]⟩⟩
   | succ k =>
    simp at e
    refine zQ (ih all k d h e) fun pre h1 h2 => ?_
    refine ⟨pre, by simp [xQ, ht, h1], ?_⟩
    rcases h2 with ⟨a, b⟩ | ⟨z, a, b, c, e⟩
    ·exact .inl ⟨a, by simp [xQ, ht, b]⟩
    ·exact .inr ⟨z, a, b, c, by simp [xQ, ht, e]⟩
  ·exact zA h
theorem zbh (tst : D → Option Bool) (el : D → Option D) : ∀ (ds all : List D), xQ tst el ds = some all → all.length ≤ ds.length
 | [], all, h => by simp [xQ] at h; subst h; exact Nat.le_refl _
 | d :: ds, all, h => by
  unfold xQ at h
  split at h
  ·injection eS h fun zz zz1 h => ?_
   dsimp only at h
   split at h
   ·injection eS h fun ys hys h => ?_
    cases h
    exact Nat.succ_le_succ (zbh tst el ds ys hys)
   ·exact zA h
  ·exact Nat.le_succ_of_le (zbh tst el ds all h)
  ·exact zA h
theorem Rd.lift {C : Addr} {X X' : List Addr} {h₀ h : Heap} {d : D} {v : Value} (r : Rd C X h₀ d v) (hX : ∀ b ∈ X', b ∈ X ∨ h₀.get? b = none) (k : ∀ b o, b ∉ X → h₀.get? b = some o → h.get? b = some o) : Rd C X' h d v :=
 r.imp fun b o hb e => ⟨fun q => (hX b q).elim hb fun z => (by rw [z] at e; cases e), k b o hb e⟩
theorem RdL.lift {C : Addr} {X X' : List Addr} {h₀ h : Heap} {d : List D} {v : List Value} (r : RdL C X h₀ d v) (hX : ∀ b ∈ X', b ∈ X ∨ h₀.get? b = none) (k : ∀ b o, b ∉ X → h₀.get? b = some o → h.get? b = some o) : RdL C X' h d v :=
 r.imp fun b o hb e => ⟨fun q => (hX b q).elim hb fun z => (by rw [z] at e; cases e), k b o hb e⟩
theorem Rd.less {C : Addr} {X X' : List Addr} {h : Heap} {d : D} {v : Value} (r : Rd C X h d v) (hX : ∀ b ∈ X', b ∈ X) : Rd C X' h d v :=
 r.imp fun b o hb e => ⟨fun q => hb (hX b q), e⟩
theorem RdL.less {C : Addr} {X X' : List Addr} {h : Heap} {d : List D} {v : List Value} (r : RdL C X h d v) (hX : ∀ b ∈ X', b ∈ X) : RdL C X' h d v :=
 r.imp fun b o hb e => ⟨fun q => hb (hX b q), e⟩
section
variable {G : Gd} {A : Around} {X : List Addr} {s : Shared}
structure LvH (G : Gd) (A : Around) (s : Shared) (I Dd : Addr) (fp wr Xf : List Addr) (N : Nat) (P : Nat → Value → Prop) (St : Nat → Heap → Prop) (x : Str) (env : Env) (Kp : (Str → Option Value) → Prop) : Prop where
 W : Walks G.prog G.w A I fp wr N P St
 nt : ∀ i h', St i h' → ∀ b ∈ wr, NT h' b
 fpT : ∀ b ∈ fp, b ∉ G.T
 Cf : env.locals ∉ fp
 Df : Dd ∉ fp
 DC : Dd ≠ env.locals
 hC : env.locals ∈ Xf
 hD : Dd ∈ Xf
 hw : ∀ b ∈ wr, b ∈ Xf
 hX : XOk G Xf s.heap
 hx : env.kindOf x = some .local
 hk : env.scope.kind = .function
 kx : ∀ m v, Kp m → Kp fun y => if y = x then some v else m y
structure LI (G : Gd) (Xf : List Addr) (C Dd : Addr) (wr : List Addr) (s : Shared) (St : Nat → Heap → Prop) (Kp : (Str → Option Value) → Prop) (i : Nat) (m : Str → Option Value) (ys : List Value) (n : Nat) (pre : List D) (s' : Shared) : Prop where
 g : GrB G (C :: Dd :: wr) s s'
 ti : G.TI s'.heap
 st : St i s'.heap
 ns : s'.heap.Ns C m
 kp : Kp m
 acc : s'.heap.get? Dd = some (zW ys n)
 rl : RdL G.C Xf s'.heap pre ys
section
variable {I Dd : Addr} {fp wr Xf : List Addr} {N : Nat} {P : Nat → Value → Prop} {St : Nat → Heap → Prop} {x : Str} {env : Env} {Kp : (Str → Option Value) → Prop} {i n : Nat} {m : Str → Option Value} {ys : List Value} {pre : List D} {s' : Shared}
theorem LI.ok (q : LI G Xf env.locals Dd wr s St Kp i m ys n pre s') (H : LvH G A s I Dd fp wr Xf N P St x env Kp) : XOk G Xf s'.heap := by
 refine ⟨H.hX.tabs, fun a ha => ?_⟩
 by_cases hT : a ∈ G.T
 ·exact (G.tabs _ q.ti a hT).elim fun vs e => ⟨_, e⟩
 by_cases hY : a ∈ env.locals :: Dd :: wr
 ·rcases List.mem_cons.mp hY with z | z
  ·rw [z]; exact q.ns.elim fun o h => h.elim fun _ h => h.elim fun _ h => ⟨o, h.1⟩
  ·rcases List.mem_cons.mp z with z | z
   ·rw [z]; exact ⟨_, q.acc⟩
   ·exact (H.nt i _ q.st a z).elim fun o h => ⟨o, h.1⟩
 ·exact (H.hX.live a ha).elim fun o ho => ⟨o, q.g.heap a o hT hY ho⟩
theorem LvH.lift (H : LvH G A s I Dd fp wr Xf N P St x env Kp) {s₁ s₂ : Shared} (g : GrB G (env.locals :: Dd :: wr) s₁ s₂) : ∀ b o, b ∉ Xf → s₁.heap.get? b = some o → b ∉ Xf ∧ s₂.heap.get? b = some o := fun b o hb e =>
 ⟨hb, g.heap b o (fun q => hb (H.hX.tabs b q)) (fun q => hb ((List.mem_cons.mp q).elim (fun q => q ▸ H.hC) fun q => (List.mem_cons.mp q).elim (fun q => q ▸ H.hD) fun q => H.hw b q)) e⟩
theorem LI.gr (q : LI G Xf env.locals Dd wr s St Kp i m ys n pre s') (H : LvH G A s I Dd fp wr Xf N P St x env Kp) {s₄ : Shared} (g : Gr G s' s₄) : LI G Xf env.locals Dd wr s St Kp i m ys n pre s₄ :=
 ⟨q.g.trans g.b, g.ti q.ti, H.W.frame _ _ _ q.st fun c hc o e => g.heap c o (H.fpT c hc) e, q.ns.at' fun o e => g.heap _ o (NT.notTab (.dict q.ns) q.ti) e, q.kp, g.heap _ _ (NT.notTab (.list (its := ys.toArray) ⟨_, q.acc, rfl, n, rfl⟩) q.ti) q.acc, q.rl.imp (H.lift g.b)⟩
theorem LI.step (q : LI G Xf env.locals Dd wr s St Kp i m ys n pre s') (H : LvH G A s I Dd fp wr Xf N P St x env Kp) {s₄ : Shared} {m₄ ys₄ n₄ pre₄} (g : GrB G [env.locals, Dd] s' s₄) (hn : s₄.heap.Ns env.locals m₄) (hk : Kp m₄) (ha : s₄.heap.get? Dd = some (zW ys₄ n₄)) (hl : RdL G.C Xf s₄.heap pre₄ ys₄) : LI G Xf env.locals Dd wr s St Kp i m₄ ys₄ n₄ pre₄ s₄ :=
 ⟨q.g.trans (g.mono fun y hy => (List.mem_cons.mp hy).elim (fun z => z ▸ .head _) fun z => List.mem_singleton.mp z ▸ .tail _ (.head _)), g.ti q.ti, H.W.frame _ _ _ q.st fun b hb o e => g.heap b o (H.fpT b hb) (fun z => (List.mem_cons.mp z).elim (fun z => H.Cf (z ▸ hb)) fun z => H.Df (List.mem_singleton.mp z ▸ hb)) e, hn, hk, ha, hl⟩
theorem ziR (H : LvH G A s I Dd fp wr Xf N P St x env Kp) (q : LI G Xf env.locals Dd wr s St Kp i m ys n pre s') (hi : i ≤ N) {px : Pos} {Q : Option Value → Shared → Prop} {E : Value → Shared → Prop}
  (fin : ∀ s₁, i = N → GrB G (env.locals :: Dd :: wr) s s₁ → s₁.heap.Ns env.locals m → s₁.heap.get? Dd = some (zW ys n) → RdL G.C Xf s₁.heap pre ys → Q none s₁)
  (step : ∀ v s₁, i < N → P i v → (∀ (Q' : Unit → Shared → Prop) (E' : Value → Shared → Prop), (∀ s₂, LI G Xf env.locals Dd wr s St Kp (i + 1) (fun y => if y = x then some v else m y) ys n pre s₂ → Q' () s₂) → wpAny (model G.prog G.w) A (assign (.Name x px) env v) Q' E' s₁) → Q (some v) s₁) :
  wpAny (model G.prog G.w) A (pyNext (.ref I)) Q E s' := by
 have hCw : env.locals ∉ wr := fun h => H.Cf (H.W.sub _ h)
 have hDw : Dd ∉ wr := fun h => H.Df (H.W.sub _ h)
 have g₁ : ∀ h₁ tk₁, (∀ b o, b ∉ wr → s'.heap.get? b = some o → h₁.get? b = some o) → GrB G (env.locals :: Dd :: wr) s' { s' with heap := h₁, toks := tk₁ } := fun h₁ tk₁ hk₁ => (GrB.change (Y := wr) (fun b o hb e => hk₁ b o hb e) (fun b hb => H.nt i _ q.st b hb)).mono fun y hy => .tail _ (.tail _ hy)
 by_cases hlt : i < N
 ·refine H.W.item i _ _ _ hlt q.st fun v h₁ tk₁ hPv hst₁ hk₁ => step v _ hlt hPv fun Q' E' hQ => ?_
  have hn₁ : h₁.Ns env.locals m := q.ns.at' fun o e => hk₁ _ o hCw e
  refine wpAny_assign_Name (wpAny_storeName_local H.hx hn₁ (fun h₂ hn₂ hs₂ => hQ _ ?_) (by rw [H.hk]; rfl))
  have gg := (g₁ h₁ tk₁ hk₁).trans ((GrB.same (s := { s' with heap := h₁, toks := tk₁ }) (tk := tk₁ + 1) hs₂ (.dict hn₁)).mono fun y hy => List.mem_singleton.mp hy ▸ .head _)
  exact ⟨q.g.trans gg, gg.ti q.ti, H.W.frame _ _ _ hst₁ fun b hb o e => (hs₂.2 b (fun z => H.Cf (z ▸ hb))).trans e, hn₂, H.kx _ _ q.kp, (hs₂.2 Dd H.DC).trans (hk₁ _ _ hDw q.acc), q.rl.imp (H.lift gg)⟩
 ·have hin := Nat.le_antisymm hi (Nat.le_of_not_lt hlt)
  exact H.W.done _ _ _ (hin ▸ q.st) fun h₁ tk₁ hk₁ => fin _ hin (q.g.trans (g₁ h₁ tk₁ hk₁)) (q.ns.at' fun o e => hk₁ _ o hCw e) (hk₁ _ _ hDw q.acc) (q.rl.imp (H.lift (g₁ h₁ tk₁ hk₁)))
end
theorem zjj {h₀ : Heap} {I Dd : Addr} {fp wr : List Addr} {ds all : List D} {elt iter : Expr} {x : Str} {px : Pos} {ifs : List Expr} {scope : Scope} {pos : Pos} {cenv : Env} {m : Str → Option Value} {R : Result → Shared → Prop}
  (tst : D → Option Bool) (el : D → Option D) (hc : xQ tst el ds = some all) (hX : XOk G X h₀) (hold : ∀ b o, h₀.get? b = some o → s.heap.get? b = some o) (ti : G.TI s.heap)
  (S : Src G A X h₀ s.heap I fp wr ds) (hx : cenv.kindOf x = some .local) (hk : cenv.scope.kind = .function) (hC : h₀.get? cenv.locals = none) (hD : h₀.get? Dd = none)
  (hDC : Dd ≠ cenv.locals) (hDf : Dd ∉ fp) (hCf : cenv.locals ∉ fp)
  (hacc : s.heap.PlainList Dd #[]) (hn : s.heap.Ns cenv.locals m)
  (tests : ∀ (i : Nat) d v s₃ m₃ b E', ds[i]? = some d → tst d = some b → GrB G (cenv.locals :: Dd :: wr) s s₃ → G.TI s₃.heap → XOk G (cenv.locals :: Dd :: (wr ++ X)) s₃.heap → s₃.heap.Ns cenv.locals m₃ → m₃ x = some v → Rd G.C (cenv.locals :: Dd :: (wr ++ X)) s₃.heap d v →
   wpAny (model G.prog G.w) A (forIn ifs true fun c r => if r = true then do let ok ← isTrue c cenv (eval c cenv); pure (ForInStep.yield ok) else pure (ForInStep.yield r)) (fun ok s₄ => ok = b ∧ Gr G s₃ s₄) E' s₃)
  (elts : ∀ (i : Nat) d v s₃ m₃ y E', ds[i]? = some d → tst d = some true → el d = some y → GrB G (cenv.locals :: Dd :: wr) s s₃ → G.TI s₃.heap → XOk G (cenv.locals :: Dd :: (wr ++ X)) s₃.heap → s₃.heap.Ns cenv.locals m₃ → m₃ x = some v → Rd G.C (cenv.locals :: Dd :: (wr ++ X)) s₃.heap d v →
   wpAny (model G.prog G.w) A (eval elt cenv) (fun u s₄ => Gr G s₃ s₄ ∧ Rv G.C (cenv.locals :: Dd :: (wr ++ X)) s₄.heap y u) E' s₃)
  (hR : ∀ s' m' ys n, GrB G (cenv.locals :: Dd :: wr) s s' → s'.heap.Ns cenv.locals m' → s'.heap.get? Dd = some (zW ys n) → RdL G.C (cenv.locals :: Dd :: (wr ++ X)) s'.heap all ys → R (.ok .next) s')
  (hsz : ds.length ≤ zK) :
  codeAny (model G.prog G.w) A (.compLoop (.ListComp elt [⟨.Name x px, iter, ifs, 0⟩] scope pos) 0 (.ref I) (.ref Dd) cenv) R s := by
 refine zkd S fun St P W hst hwr hfp hlt hNT hrd => ?_
 have hCi : cenv.locals ∈ cenv.locals :: Dd :: (wr ++ X) := .head _
 have hDi : Dd ∈ cenv.locals :: Dd :: (wr ++ X) := .tail _ (.head _)
 have hXi : ∀ b ∈ (cenv.locals :: Dd :: (wr ++ X)), b ∈ X ∨ h₀.get? b = none := fun b hb => (List.mem_cons.mp hb).elim (fun q => .inr (q ▸ hC)) fun q => (List.mem_cons.mp q).elim (fun q => .inr (q ▸ hD)) fun q => (List.mem_append.mp q).elim (fun q => .inr (hwr b q)) .inl
 have hXY : ∀ b o, h₀.get? b = some o → b ∉ (cenv.locals :: Dd :: wr) := fun b o e q => zA (((List.mem_cons.mp q).elim (fun q => q ▸ hC) fun q => (List.mem_cons.mp q).elim (fun q => q ▸ hD) fun q => hwr b q).symm.trans e)
 have up : ∀ s', GrB G (cenv.locals :: Dd :: wr) s s' → ∀ b o, b ∉ X → h₀.get? b = some o → s'.heap.get? b = some o := fun s' g b o hb e =>
  g.heap b o (fun ht => hb (hX.tabs b ht)) (hXY b o e) (hold b o e)
 have H : LvH G A s I Dd fp wr (cenv.locals :: Dd :: (wr ++ X)) ds.length P St x cenv (fun zz => True) :=
  ⟨W, hNT, fun b hb => (hfp b hb).2, hCf, hDf, hDC, hCi, hDi, fun b hb => .tail _ (.tail _ (List.mem_append_left _ hb)), ⟨fun a ha => .tail _ (.tail _ (List.mem_append_right _ (hX.tabs a ha))), fun a ha => ?_⟩, hx, hk, fun zz zz zz => trivial⟩
 rotate_left
 ·rcases List.mem_cons.mp ha with z | z
  ·rw [z]; exact hn.elim fun o h => h.elim fun _ h => h.elim fun _ h => ⟨o, h.1⟩
  ·rcases List.mem_cons.mp z with z | z
   ·rw [z]; exact hacc.elim fun _ h => ⟨_, h⟩
   ·exact (List.mem_append.mp z).elim (fun z => (hNT 0 _ hst a z).elim fun o h => ⟨o, h.1⟩) fun z => (hX.live a z).elim fun o h => ⟨o, hold _ _ h⟩
 refine codeAny_compLoop_tests (fun k s' => ∃ (i : Nat) (m' : Str → Option Value) (ys : List Value) (n : Nat) (pre : List D), (i ≤ ds.length ∧ k = ds.length + 1 - i) ∧ xQ tst el (ds.take i) = some pre ∧ LI G (cenv.locals :: Dd :: (wr ++ X)) cenv.locals Dd wr s St (fun zz => True) i m' ys n pre s') (fun k s' hI => ?_) (ds.length + 1) ?_
 rotate_left
 ·exact hacc.elim fun n hg => ⟨0, m, [], n, [], ⟨Nat.zero_le _, rfl⟩, rfl, GrB.refl s, ti, hst, hn, trivial, hg, .nil⟩
 refine zds fun Q₀ E₀ kQ kE => ?_
 refine e5_3 hI fun i m' ys n pre hi hpre q => ?_
 refine ziR H q hi.1 (px := px) (fun s₁ hin g hn hg hl => kQ none _ ?_) fun v s₁ hlt hP asg => kQ (some v) _ ?_
 ·rw [hin, List.take_length, hc] at hpre
  cases hpre
  exact hR _ m' ys n g hn hg hl
 refine asg _ _ fun s₂ q₂ => ?_
 refine zQ (hrd i v hlt hP) fun d hd hr0 => ?_
 have mx : (fun y => if y = x then some v else m' y) x = some v := if_pos rfl
 have lt : ds.length + 1 - (i + 1) < k := by rw [hi.2]; exact Nat.sub_lt_sub_left (Nat.lt_succ_of_lt hlt) (Nat.lt_succ_self i)
 refine zQ (zk2 tst el ds all i d hc hd) fun pre' h1 h2 => ?_
 rw [hpre] at h1; cases h1
 rcases h2 with ⟨hf, hnext⟩ | ⟨y, ht, hy, hpy, hnext⟩
 ·refine wpAny_mono (tests i d v _ _ false _ hd hf q₂.g q₂.ti (q₂.ok H) q₂.ns mx (hr0.lift hXi (up _ q₂.g))) (fun ok s₄ h₄ => ?_) fun zz zz e => e
  rw [h₄.1, if_neg Bool.false_ne_true]
  exact ⟨_, lt, i + 1, _, ys, n, pre, ⟨hlt, rfl⟩, hnext, q₂.gr H h₄.2⟩
 ·refine wpAny_mono (tests i d v _ _ true _ hd ht q₂.g q₂.ti (q₂.ok H) q₂.ns mx (hr0.lift hXi (up _ q₂.g))) (fun ok s₄ h₄ => ?_) fun zz zz e => e
  have q₄ := q₂.gr H h₄.2
  rw [h₄.1, if_pos rfl]
  refine wpAny_mono (elts i d v _ _ y _ hd ht hy q₄.g q₄.ti (q₄.ok H) q₄.ns mx (hr0.lift hXi (up _ q₄.g))) (fun u s₅ h₅ => ?_) fun zz zz e => e
  have q₅ := q₄.gr H h₅.1
  have hys : ys.length ≤ ds.length := by
   rw [q.rl.length]
   exact Nat.le_trans (zbh tst el _ _ hpre) (by rw [List.length_take]; exact Nat.min_le_right _ _)
  have hsz' : zK ≤ sizeLine := by decide
  refine wpAny_list_append_plain (items := ys.toArray) ⟨n, q₅.acc⟩ (fun h₆ hl₆ hs₆ => ?_) (by rw [z5]; exact Nat.le_trans hys (Nat.le_trans hsz hsz'))
  refine zU hl₆ fun n₆ hn₆ => ?_
  have g₆ : GrB G [cenv.locals, Dd] s₅ { s₅ with heap := h₆ } := (GrB.same (tk := s₅.toks) hs₆ (.list (its := ys.toArray) ⟨_, q₅.acc, rfl, n, rfl⟩)).mono fun y hy => .tail _ hy
  have lf : ∀ b o, b ∉ (cenv.locals :: Dd :: (wr ++ X)) → s₅.heap.get? b = some o → b ∉ (cenv.locals :: Dd :: (wr ++ X)) ∧ h₆.get? b = some o := fun b o hb e => ⟨hb, (hs₆.2 b fun z => hb (z ▸ hDi)).trans e⟩
  exact ⟨_, lt, i + 1, _, ys ++ [u], n₆, pre ++ [y], ⟨hlt, rfl⟩, hnext, q₅.step H g₆ (q₅.ns.sameBut hs₆ hDC.symm) trivial (by rw [hn₆]; simp) ((q₅.rl.imp lf).append (.cons ((h₅.2.rd hpy).imp lf) .nil))⟩
end
end
section
noncomputable def zo2 (G : Gd) (A : Around) (X : List Addr) (s : Shared) (t : Sem Value) (ds : List D) : Prop :=
 ∀ E, wpAny (model G.prog G.w) A t (fun xv s₁ => wpAny (model G.prog G.w) A (pyIter xv) (fun it s₂ => ∃ I fp wr h₀, it = .ref I ∧ Gr G s s₂ ∧ XOk G X h₀ ∧
  (∀ b o, b ∉ G.T → s.heap.get? b = some o → h₀.get? b = some o) ∧ (∀ b o, h₀.get? b = some o → s₂.heap.get? b = some o) ∧ Src G A X h₀ s₂.heap I fp wr ds) E s₁) E s
section
variable {G : Gd} {A : Around} {X : List Addr} {s : Shared}
noncomputable abbrev zf7 (ifs : List Expr) (cenv : Env) : Sem Bool := forIn ifs true fun c r => if r = true then do let ok ← isTrue c cenv (eval c cenv); pure (ForInStep.yield ok) else pure (ForInStep.yield r)
noncomputable def zkG (G : Gd) (A : Around) (X : List Addr) (s : Shared) (env : Env) (csc : Scope) (cl : List (Str × Addr)) (x : Str) (ifs : List Expr) (tst : D → Option Bool) : Prop :=
 ∀ C Xi d v s₃ m₃ b E', s.heap.get? C = none → (∀ a ∈ X, a ∈ Xi) → (∀ a ∈ Xi, a ∈ X ∨ s.heap.get? a = none) → tst d = some b → Gr G s s₃ → G.TI s₃.heap → XOk G Xi s₃.heap → s₃.heap.Ns C m₃ → m₃ x = some v → Rd G.C Xi s₃.heap d v →
  wpAny (model G.prog G.w) A (zf7 ifs (compEnvC csc cl C env)) (fun ok s₄ => ok = b ∧ Gr G s₃ s₄) E' s₃
noncomputable def znF (G : Gd) (A : Around) (X : List Addr) (s : Shared) (env : Env) (csc : Scope) (cl : List (Str × Addr)) (x : Str) (elt : Expr) (tst : D → Option Bool) (el : D → Option D) : Prop :=
 ∀ C Xi d v s₃ m₃ y E', s.heap.get? C = none → (∀ a ∈ X, a ∈ Xi) → (∀ a ∈ Xi, a ∈ X ∨ s.heap.get? a = none) → tst d = some true → el d = some y → Gr G s s₃ → G.TI s₃.heap → XOk G Xi s₃.heap → s₃.heap.Ns C m₃ → m₃ x = some v → Rd G.C Xi s₃.heap d v →
  wpAny (model G.prog G.w) A (eval elt (compEnvC csc cl C env)) (fun u s₄ => Gr G s₃ s₄ ∧ Rv G.C Xi s₄.heap y u) E' s₃
theorem xO {h : Heap} {o : Obj} : h.get? h.objs.size = none := zT (Nat.le_refl _)
theorem zfL {s₂ : Shared} {h₀ : Heap} {I : Addr} {fp wr : List Addr} {ds all : List D} {elt iter : Expr} {x : Str} {px : Pos} {ifs : List Expr} {csc : Scope} {cl : List (Str × Addr)} {pos : Pos} {env : Env} {E : Value → Shared → Prop} {RR : Value → Addr → Result → Shared → Prop}
  (tst : D → Option Bool) (el : D → Option D) (hc : xQ tst el ds = some all) (ti : G.TI s.heap) (g : Gr G s s₂) (hX : XOk G X h₀) (k0 : ∀ b o, b ∉ G.T → s.heap.get? b = some o → h₀.get? b = some o) (k2 : ∀ b o, h₀.get? b = some o → s₂.heap.get? b = some o)
  (S : Src G A X h₀ s₂.heap I fp wr ds) (hcell : ∀ y ∈ csc.names, y.2 ≠ .cell) (hkind : csc.kind = .function) (hx : csc.names.lookup x = some .local)
  (tests : zkG G A X s env csc cl x ifs tst) (elts : znF G A X s env csc cl x elt tst el) (hsz : ds.length ≤ zK)
  (hRR : ∀ D C s' m' ys n, s.heap.get? D = none → s.heap.get? C = none → D ≠ C → Gr G s s' → s'.heap.Ns C m' → s'.heap.get? D = some (zW ys n) → RdL G.C (C :: D :: X) s'.heap all ys → RR (.ref D) C (.ok .next) s') :
  wpAny (model G.prog G.w) A (newList []) (fun acc s₃ => wpAny (model G.prog G.w) A (newFunctionEnv csc env.globals cl [] env.qual none .none (some env)) (fun cenv s₄ =>
   codeAny (model G.prog G.w) A (.compStart (.ListComp elt [⟨.Name x px, iter, ifs, 0⟩] csc pos) 0 (.ref I) acc { cenv with scope := relabel csc env }) (RR acc cenv.locals) s₄) E s₃) E s₂ := by
 refine wpAny_newObj_type (wpAny_newFunctionEnv hcell (by intro y hy; simp at hy) (fun h₁ hns₁ hsb₁ => ?_) hkind)
 dsimp only at hns₁ hsb₁ ⊢
 generalize hH2 : s₂.heap.push { cls := .type "list", dict := none, data := .seq ([] : List Value).toArray } = H2 at hns₁ hsb₁ ⊢
 have hC : H2.objs.size = s₂.heap.objs.size + 1 := by rw [← hH2, Heap.size_push]
 have hDC : s₂.heap.objs.size ≠ H2.objs.size := by rw [hC]; exact Nat.ne_of_lt (Nat.lt_succ_self _)
 have below : ∀ b, b < s₂.heap.objs.size → b ≠ H2.objs.size ∧ b ≠ s₂.heap.objs.size := fun b hb => ⟨by rw [hC]; exact Nat.ne_of_lt (Nat.lt_succ_of_lt hb), Nat.ne_of_lt hb⟩
 have old : ∀ b o, s₂.heap.get? b = some o → h₁.get? b = some o := fun b o e => hsb₁.extBut b o (below b (Heap.lt_size e)).1 (Heap.get?_push_of_some _ (hH2 ▸ Heap.get?_push_of_some _ e))
 have hacc : h₁.PlainList s₂.heap.objs.size #[] := ⟨_, hsb₁.extBut _ _ hDC (Heap.get?_push_of_some _ (hH2 ▸ Heap.get?_push_size _ rfl))⟩
 have freshS : ∀ a, s₂.heap.objs.size ≤ a → h₀.get? a = none ∧ (a ∉ G.T → s.heap.get? a = none) := fun a ha => by
  have h2 : s₂.heap.get? a = none := zT ha
  have h0 : h₀.get? a = none := by
   cases q : h₀.get? a with
   | none => rfl
   | some o => rw [k2 a o q] at h2; exact zA h2.symm
  refine ⟨h0, fun hT => ?_⟩
  cases q : s.heap.get? a with
  | none => rfl
  | some o => rw [k0 a o hT q] at h0; exact zA h0.symm
 have ti₂ : G.TI s₂.heap := g.ti ti
 have notT : ∀ a, s₂.heap.objs.size ≤ a → a ∉ G.T := fun a ha hT => by
  refine zU (G.tabs _ ti₂ a hT) fun vs e => ?_
  rw [zT ha] at e; exact zA e
 refine zkd S fun St P W hst hwr hfp hlt hNT hrd => ?_
 have hst₁ : St 0 h₁ := W.frame _ _ _ hst fun b zz o e => old b o e
 have S₁ : Src G A X h₀ h₁ I fp wr ds := ⟨St, P, W, hst₁, hwr, hfp, fun b hb => by
  have h1 := (below b (hlt b hb))
  have h2 : s₂.heap.objs.size ≤ h₁.objs.size := by
   have q := hns₁.lt
   exact Nat.le_of_lt (Nat.lt_of_le_of_lt (by rw [hC]; exact Nat.le_succ _) q)
  exact Nat.lt_of_lt_of_le (hlt b hb) h2, hNT, hrd⟩
 have fC := freshS H2.objs.size (by rw [hC]; exact Nat.le_succ _)
 have fD := freshS s₂.heap.objs.size (Nat.le_refl _)
 have nC := notT H2.objs.size (by rw [hC]; exact Nat.le_succ _)
 have nD := notT s₂.heap.objs.size (Nat.le_refl _)
 have hfD : ∀ b, (b = s₂.heap.objs.size ∨ b = H2.objs.size) → b ∉ fp := fun b hb hm => by
  have := below b (hlt b hm)
  rcases hb with rfl | rfl
  ·exact this.2 rfl
  ·exact this.1 rfl
 have wS : ∀ b ∈ wr, s.heap.get? b = none ∧ b ∉ G.T := fun b hb => by
  have hT := (hfp b (W.sub b hb)).2
  refine ⟨?_, hT⟩
  cases q : s.heap.get? b with
  | none => rfl
  | some o => have := k0 b o hT q; rw [hwr b hb] at this; exact zA this
 have g₁ : ∀ t : Nat, Gr G s { s₂ with heap := h₁, toks := t } := fun t => g.trans (Gr.of old)
 have loop : ∀ s₃ : Shared, s₃ = { s₂ with heap := h₁, toks := s₂.toks + ([] : List (Str × Value)).length } →
   codeAny (model G.prog G.w) A (.compLoop (.ListComp elt [⟨.Name x px, iter, ifs, 0⟩] csc pos) 0 (.ref I) (.ref s₂.heap.objs.size) (compEnvC csc cl H2.objs.size env))
    (RR (.ref s₂.heap.objs.size) H2.objs.size) s₃ := by
  rintro s₃ rfl
  have gs := g₁ (s₂.toks + ([] : List (Str × Value)).length)
  have toGr : ∀ s', GrB G (H2.objs.size :: s₂.heap.objs.size :: wr) { s₂ with heap := h₁, toks := s₂.toks + ([] : List (Str × Value)).length } s' → Gr G s s' := fun s' gb =>
   ⟨fun b o hb e => gb.heap b o hb (fun q => by
    simp only [List.mem_cons] at q
    rcases q with rfl | rfl | q
    ·rw [fC.2 nC] at e; exact zA e
    ·rw [fD.2 nD] at e; exact zA e
    ·rw [(wS b q).1] at e; exact zA e) (gs.heap b o hb e), fun t => gb.ti (gs.ti t), gb.os.trans gs.os, fun t => gb.bare (gs.bare t)⟩
  have hXi : ∀ a ∈ (H2.objs.size :: s₂.heap.objs.size :: (wr ++ X)), a ∈ X ∨ s.heap.get? a = none := fun a ha => by
   simp only [List.mem_cons, List.mem_append] at ha
   rcases ha with rfl | rfl | ha | ha
   ·exact .inr (fC.2 nC)
   ·exact .inr (fD.2 nD)
   ·exact .inr (wS a ha).1
   ·exact .inl ha
  have hXs : ∀ a ∈ X, a ∈ (H2.objs.size :: s₂.heap.objs.size :: (wr ++ X)) := fun a ha => by simp [ha]
  refine zjj (X := X) (h₀ := h₀) (s := { s₂ with heap := h₁, toks := s₂.toks + ([] : List (Str × Value)).length }) (cenv := compEnvC csc cl H2.objs.size env) tst el hc hX (fun b o e => old b o (k2 b o e)) (gs.ti ti) S₁ (lookup_relabel_local hx) (by simp [compEnvC, relabel, hkind]) fC.1 fD.1 hDC (hfD _ (.inl rfl)) (hfD _ (.inr rfl)) hacc hns₁ ?_ ?_ ?_ hsz
  ·intro i d v s₃ m₃ b E' hd ht gb ti₃ ok hn hm hr
   exact tests _ _ d v s₃ m₃ b E' (fC.2 nC) hXs hXi ht (toGr _ gb) ti₃ ok hn hm hr
  ·intro i d v s₃ m₃ y E' hd ht hy gb ti₃ ok hn hm hr
   exact elts _ _ d v s₃ m₃ y E' (fC.2 nC) hXs hXi ht hy (toGr _ gb) ti₃ ok hn hm hr
  ·intro s' m' ys n gb hn hg hl
   exact hRR _ _ s' m' ys n (fD.2 nD) (fC.2 nC) hDC (toGr _ gb) hn hg (hl.less fun b hb => by
    simp only [List.mem_cons] at hb
    simp only [List.mem_cons, List.mem_append]
    rcases hb with hb | hb | hb
    ·exact .inl hb
    ·exact .inr (.inl hb)
    ·exact .inr (.inr (.inr hb)))
 exact codeAny_compStart_list (loop _ rfl) (W.self 0 _ _ _ hst₁ (loop _ rfl))
theorem zm8 {ds all : List D} {elt iter : Expr} {x : Str} {px : Pos} {ifs : List Expr} {csc : Scope} {cl : List (Str × Addr)} {pos : Pos} {env : Env}
  (tst : D → Option Bool) (el : D → Option D) (hc : xQ tst el ds = some all) (hX : XOk G X s.heap) (ti : G.TI s.heap) (hclos : closureFor csc env = pure cl)
  (hcell : ∀ y ∈ csc.names, y.2 ≠ .cell) (hkind : csc.kind = .function) (hnames : ∀ y ∈ csc.names, y.2 = .local → csc.names.lookup y.1 = some .local) (hx : csc.names.lookup x = some .local)
  (src : zo2 G A X s (eval iter env) ds) (tests : zkG G A X s env csc cl x ifs tst) (elts : znF G A X s env csc cl x elt tst el) (hsz : ds.length ≤ zK)
  (hs : ∀ v, foldedSetIterable iter env v = pure v) :
  Ev G A X s (eval (.ListComp elt [⟨.Name x px, iter, ifs, 0⟩] csc pos) env) (.lst all) := by
 intro E
 rw [eval_ListComp]
 refine wpAny_comprehension_free (use := none) rfl hs hclos hkind hnames (wpAny_mono (src E) (fun xv s₁ h₁ => wpAny_mono h₁ (fun it s₂ h₂ => ?_) fun zz zz e => e) fun zz zz e => e)
 refine e4_6 h₂ fun I fp wr h₀ zz4 g hX₀ k0 k2 S => ?_; subst zz4
 refine zfL (RR := fun acc C => compPost (model G.prog G.w) A E none (fun v s' => Gr G s s' ∧ Rv G.C X s'.heap (.lst all) v) acc C) tst el hc ti g hX₀ k0 k2 S hcell hkind hx tests elts hsz ?_
 intro D C s' m' ys n hD hC hDC gs hn hg hl
 have nD : D ∉ X := hX.none hD
 have gr : ∀ h', Heap.SameBut C s'.heap h' → Gr G s { s' with heap := h' } := fun h' hs' =>
  ⟨fun b o hb e => (hs'.2 b (fun q => by rw [q, hC] at e; exact zA e)).trans (gs.heap b o hb e), fun t => G.frame _ _ (gs.ti t) fun b o tk e => (hs'.2 b (fun q => by
   refine zQ (NT.dict hn) fun oC e1 e2 => ?_
   rw [q, e1] at e; cases e
   exact e2 tk)).trans e, gs.os, gs.bare⟩
 refine ⟨m', hn, fun h' hs' => ⟨gr h' hs', Rd.rv (Rd.lst' nD ((hs'.2 D hDC).trans hg) ?_)⟩⟩
 exact hl.imp fun b o hb e => ⟨fun q => hb (by simp [q]), (hs'.2 b (fun q => hb (by simp [q]))).trans e⟩
end
end
section
noncomputable def yG (a : Int) : Nat → List D
 | 0 => []
 | n + 1 => .int a :: yG (a + 1) n
theorem y7 : ∀ (n : Nat) (a : Int), (yG a n).length = n
 | 0, _ => rfl
 | n + 1, a => by rw [yG, List.length_cons, y7 n]
theorem zco : ∀ (n : Nat) (a : Int) (i : Nat), i < n → (yG a n)[i]? = some (.int (a + i))
 | 0, _, _, h => absurd h (Nat.not_lt_zero _)
 | n + 1, a, 0, _ => by simp [yG]
 | n + 1, a, i + 1, h => by
  rw [yG, List.getElem?_cons_succ, zco n (a + 1) i (by omega)]
  congr 2; push_cast; omega
noncomputable def zu (d : D) : Option (List D) := match d with
 | .lst ds => (match Nat.ble ds.length zK with | true => some ds | false => none)
 | .tup ds => (match Nat.ble ds.length zK with | true => some ds | false => none)
 | .str x => (match Nat.ble x.cps.size zK with | true => some (x.cps.toList.map fun c => .str ⟨#[c]⟩) | false => none)
 | .rng a b => (match decide (0 ≤ a) with | true => (match decide (a ≤ b) with | true => (match decide (b ≤ zK) with | true => some (yG a (b - a).toNat) | false => none) | false => (match decide (b = 0 ∧ a = 1) with | true => some [] | false => none)) | false => none)
 | _ => none
theorem zbj {o : Obj} {T : String} {vs : Array Value} (hc : o.cls = .type T) (hd : o.data = .fields vs) (hT : Value.type T ≠ .none) (hv : ∀ q t, vs[1]? ≠ some (.str q t)) : ¬ TK o := fun ⟨us, e, q⟩ => by
 rw [hd] at e; cases e
 set_option tactic.hygienic true in rcases q with q | ⟨x, t, q⟩
 ·rw [hc] at q; exact hT q
 ·exact hv x t q
section
variable {G : Gd} {A : Around} {X : List Addr} {s : Shared}
set_option tactic.hygienic true in
theorem zeM {d : D} {ds : List D} (e : zu d = some ds) : ds.length ≤ zK := by
 cases d with
 | lst l => dsimp only [zu] at e; split at e; (rename_i h; cases e; exact Nat.le_of_ble_eq_true h); exact zA e
 | tup l => dsimp only [zu] at e; split at e; (rename_i h; cases e; exact Nat.le_of_ble_eq_true h); exact zA e
 | str x => dsimp only [zu] at e; split at e; (rename_i h; cases e; rw [List.length_map, Array.length_toList]; exact Nat.le_of_ble_eq_true h); exact zA e
 | rng a b =>
  dsimp only [zu] at e
  split at e
  ·split at e
   ·split at e
    ·rename_i _ h0 _ _ _ h3
     have h0 := of_decide_eq_true h0
     have h3 := of_decide_eq_true h3
     cases e
     rw [y7]; omega
    ·exact zA e
   ·split at e
    ·cases e; simp
    ·exact zA e
  ·exact zA e
 | _ => exact zA e
theorem zkW {C : Addr} {X : List Addr} {h : Heap} {ds : List D} {vs : List Value} (rl : RdL C X h ds vs) : ∀ i v, i < ds.length → vs.toArray[i]? = some v → ∃ d, ds[i]? = some d ∧ Rd C X h d v := fun i v hi hv => by
 refine zQ (rl.get (i := i) (d := ds[i]) (List.getElem?_eq_getElem hi)) fun u h1 h2 => ?_
 have hv' : vs[i]? = some v := by simpa using hv
 rw [h1] at hv'
 exact ⟨ds[i], List.getElem?_eq_getElem hi, Option.some.inj hv' ▸ h2⟩
theorem zne {h : Heap} : ∀ b ∈ [h.objs.size], h.get? b = none := fun b hb => by rw [List.mem_singleton.mp hb]; exact xO (o := { cls := .none, data := .fields #[] })
theorem zlW (ti : G.TI s.heap) {o' : Obj} {fp' : List Addr} {ds : List D} {P : Nat → Value → Prop} {St : Nat → Heap → Prop} (hf : ∀ b ∈ fp', b ∉ X ∧ b ∉ G.T ∧ ∃ o, s.heap.get? b = some o) (W : Walks G.prog G.w A s.heap.objs.size (s.heap.objs.size :: fp') [s.heap.objs.size] ds.length P St) (st : St 0 (s.heap.push o'))
  (nt : ∀ i h', St i h' → NT h' s.heap.objs.size) (rd : ∀ i v, i < ds.length → P i v → ∃ d, ds[i]? = some d ∧ Rd G.C X s.heap d v) : Src G A X s.heap (s.heap.push o') s.heap.objs.size (s.heap.objs.size :: fp') [s.heap.objs.size] ds := by
 refine ⟨St, P, W, st, zne, fun b hb => ?_, fun b hb => ?_, fun i h' q b hb => List.mem_singleton.mp hb ▸ nt i h' q, rd⟩
 ·rcases List.mem_cons.mp hb with q | q
  ·refine ⟨.inl (q ▸ .head _), fun h => ?_⟩
   refine zU (G.tabs _ ti _ h) fun vs e => ?_
   rw [q, xO (o := { cls := .none, data := .fields #[] })] at e; exact zA e
  ·exact ⟨.inr ⟨(hf b q).1, (hf b q).2.2⟩, (hf b q).2.1⟩
 ·rw [Heap.size_push]
  rcases List.mem_cons.mp hb with q | q
  ·rw [q]; exact Nat.lt_succ_self _
  ·exact (hf b q).2.2.elim fun o h => Nat.lt_succ_of_lt (Heap.lt_size h)
theorem zd4 (ti : G.TI s.heap) {o' : Obj} {fp' : List Addr} {ds : List D} {P : Nat → Value → Prop} {St : Nat → Heap → Prop} (hf : ∀ b ∈ fp', b ∉ X ∧ b ∉ G.T ∧ ∃ o, s.heap.get? b = some o) (W : Walks G.prog G.w A s.heap.objs.size (s.heap.objs.size :: fp') [s.heap.objs.size] ds.length P St) (st : St 0 (s.heap.push o'))
  (nt : ∀ i h', St i h' → NT h' s.heap.objs.size) (rd : ∀ i v, i < ds.length → P i v → ∃ d, ds[i]? = some d ∧ Rd G.C X s.heap d v) : ∃ I fp wr, Value.ref s.heap.objs.size = .ref I ∧ Gr G s { s with heap := s.heap.push o' } ∧ (∀ b o, s.heap.get? b = some o → (s.heap.push o').get? b = some o) ∧ Src G A X s.heap (s.heap.push o') I fp wr ds :=
 ⟨_, _, _, rfl, Gr.push', fun b o e => Heap.get?_push_of_some _ e, zlW ti hf W st nt rd⟩
theorem zbO (hh : A.handled = none) (hX : XOk G X s.heap) (ti : G.TI s.heap) {d : D} {v : Value} {ds : List D} (r : Rd G.C X s.heap d v) (e : zu d = some ds) :
  ∀ E, wpAny (model G.prog G.w) A (pyIter v) (fun it s₂ => ∃ I fp wr, it = .ref I ∧ Gr G s s₂ ∧ (∀ b o, s.heap.get? b = some o → s₂.heap.get? b = some o) ∧ Src G A X s.heap s₂.heap I fp wr ds) E s := by
 intro E
 refine zds fun Q' E' kQ zz => ?_
 have up : ∀ o' b o, s.heap.get? b = some o → (s.heap.push o').get? b = some o := fun o' b o e => Heap.get?_push_of_some _ e
 have one : ∀ (a : Addr) (o : Obj), a ∉ X → s.heap.get? a = some o → o.cls ≠ .none → ∀ b ∈ [a], b ∉ X ∧ b ∉ G.T ∧ ∃ o, s.heap.get? b = some o := fun a o hx e hc b hb => by
  rw [List.mem_singleton.mp hb]
  refine ⟨hx, fun h => ?_, _, e⟩
  refine zU (G.tabs _ ti a h) fun us q => ?_
  rw [e] at q; cases q
  exact hc rfl
 have no : ∀ b ∈ ([] : List Addr), b ∉ X ∧ b ∉ G.T ∧ ∃ o, s.heap.get? b = some o := fun b hb => nomatch hb
 cases d with
 | lst l =>
  dsimp only [zu] at e
  injection eT e fun hb e => ?_
  cases e
  refine za4 r fun a vs n zz3 hx hg rl => ?_; subst zz3
  have hlen : ds.length = vs.toArray.size := by rw [z5, rl.length]
  exact wpAny_pyIter_list ⟨_, hg, rfl, n, rfl⟩ (kQ _ _ (zd4 ti (one _ _ hx hg (by simp)) (hlen ▸ Walks.list hh s.heap.objs.size a (Nat.ne_of_lt (Heap.lt_size hg)) vs.toArray) ⟨⟨_, Heap.get?_push_size _ rfl, rfl, rfl⟩, ⟨_, up _ _ _ hg, rfl, n, rfl⟩⟩ (fun i h' st => st.1.elim fun o q => ⟨o, q.1, zbj q.2.1 q.2.2 (by simp) (by simp)⟩) (zkW rl)))
 | tup l =>
  dsimp only [zu] at e
  injection eT e fun hb e => ?_
  cases e
  refine za4 r fun a vs n zz3 hx hg rl => ?_; subst zz3
  have hlen : ds.length = vs.toArray.size := by rw [z5, rl.length]
  exact wpAny_pyIter_tuple ⟨_, hg, rfl, n, rfl⟩ (kQ _ _ (zd4 ti (one _ _ hx hg (by simp)) (hlen ▸ Walks.tuple hh s.heap.objs.size a (Nat.ne_of_lt (Heap.lt_size hg)) vs.toArray) ⟨⟨_, Heap.get?_push_size _ rfl, rfl, rfl⟩, ⟨_, up _ _ _ hg, rfl, n, rfl⟩⟩ (fun i h' st => st.1.elim fun o q => ⟨o, q.1, zbj q.2.1 q.2.2 (by simp) (by simp)⟩) (zkW rl)))
 | str x =>
  dsimp only [zu] at e
  injection eT e fun hb e => ?_
  cases e
  refine zU r fun t zz1 => ?_; subst zz1
  have sign : ∀ i v, i < (x.cps.toList.map fun c => D.str ⟨#[c]⟩).length → SignAt x i v → ∃ d, (x.cps.toList.map fun c => D.str ⟨#[c]⟩)[i]? = some d ∧ Rd G.C X s.heap d v := fun i v zz q => by
   refine xl q fun c u hc zz3 => ?_; subst zz3
   exact ⟨.str ⟨#[c]⟩, by simp [hc], Rd.str'⟩
  have hlen : (x.cps.toList.map fun c => D.str ⟨#[c]⟩).length = x.cps.size := by rw [List.length_map, Array.length_toList]
  cases ha : x.cps.all (· < 128)
  ·exact wpAny_pyIter_wide ha (kQ _ _ (zd4 ti no (hlen.symm ▸ Walks.strWide hh s.heap.objs.size x t) ⟨_, Heap.get?_push_size _ rfl, rfl, rfl⟩ (fun i h' st => st.elim fun o q => ⟨o, q.1, zbj q.2.1 q.2.2 (by simp) (by simp)⟩) sign))
  ·exact wpAny_pyIter_ascii ha (kQ _ _ (zd4 ti no (hlen.symm ▸ Walks.strAscii hh s.heap.objs.size x t) ⟨_, Heap.get?_push_size _ rfl, rfl, rfl⟩ (fun i h' st => st.elim fun o q => ⟨o, q.1, zbj q.2.1 q.2.2 (by simp) (by simp)⟩) sign))
 | rng a b =>
  refine zbX r fun p t u w zz4 hx hg => ?_; subst zz4
  have main : ∀ n : Nat, 0 ≤ a → a ≤ 2000000 → b ≤ 2000000 → -1 ≤ b → n = (if a < b then b - a else 0) → ds = yG a n → wpAny (model G.prog G.w) A (pyIter (.ref p))  Q' E' s := by
   intro n h0 h1 h2 h3 hn hds
   have hlen : ds.length = n := by rw [hds, y7]
   have hz : Builtin.Range.rangeSize a b 1 = (n : Int) := by rw [rangeSize_one]; exact hn.symm
   refine wpAny_pyIter_range hg (small_one (by omega) (by omega) (by omega) (by omega)) (kQ _ _ (zd4 ti no (hlen.symm ▸ Walks.range hh s.heap.objs.size a 1 n) ?_ (fun i h' st => ⟨_, st, zbj rfl rfl (by simp) (by simp [rawInt])⟩) fun i v hi q => ?_))
   ·rw [hz]
    show (s.heap.push _).get? _ = _
    rw [Heap.get?_push_size _ rfl, hlen]
    simp
   ·refine zU q fun t zz1 => ?_; subst zz1
    rw [hlen] at hi
    refine ⟨.int (a + i), by rw [hds]; exact zco _ _ _ hi, ?_⟩
    rw [Int.mul_one]; exact Rd.int'
  dsimp only [zu] at e
  have hbig : (zK : Int) = 1000000 := rfl
  injection eT e fun h0 e => ?_
  have h0 := of_decide_eq_true h0
  set_option tactic.hygienic true in split at e
  ·set_option tactic.hygienic true in split at e
   ·rename_i h1 _ h2
    have h1 := of_decide_eq_true h1
    have h2 := of_decide_eq_true h2
    cases e
    refine main (b - a).toNat h0 (by omega) (by omega) (by omega) ?_ rfl
    split <;> omega
   ·exact zA e
  ·rename_i h1
   have h1 := of_decide_eq_false h1
   injection eT e fun h2 e => ?_
   have h2 := of_decide_eq_true h2
   cases e
   refine main 0 h0 ?_ ?_ ?_ ?_ rfl
   all_goals first | omega | (split <;> omega)
 | _ => exact zA e
end
end
section
noncomputable abbrev Rho := List (Str × D)
noncomputable abbrev Kn := List (Str × NameKind)
structure Cf where
 Γ : Str → Option D
 Φ : Addr → List D → Option D
 H : Kn → Rho → Expr → Option D
noncomputable def zan (a : D) : Option Bool := match a with
 | .str x => (match Nat.ble x.length zK with | true => zcg (.str x) | false => none)
 | .lst x => (match Nat.ble x.length zK with | true => zcg (.lst x) | false => none)
 | .own x => (match Nat.ble x.length zK with | true => zcg (.own x) | false => none)
 | a => zcg a
noncomputable def yD (names : Kn) (K : Kn) : Kn := names.map fun (n, k) => if (k == .free && (ScopeKind.function == .function) && K.lookup n == some .cell) then (n, .cell) else (n, k)
noncomputable def xE (names : Kn) (y : Str) : Bool := names.any fun p => p.1 == y && p.2 == .free
noncomputable def zgx (ρ : Rho) (K : Kn) (y : Str) : Bool := match ρ.lookup y with
 | some .unb => false
 | some _ => (match K.lookup y with | some .cell => true | some .free => true | _ => false)
 | none => false
noncomputable def x5 (K : Kn) : Option (Value × Str) := match K.lookup ("_twin_re_1" : Str) with
 | some _ => some (.ref 89, "_translate.<locals>.")
 | none => (match K.lookup ("RuntimeError" : Str) with
  | some _ => some (.ref 37, "_prepare_tag.<locals>.")
  | none => (match K.lookup ("script" : Str) with | some _ => some (.ref 169, "law.<locals>.") | none => none))
noncomputable def z8 (names : Kn) (K : Kn) (ρ : Rho) (x : Str) : Bool :=
 names.all (fun p => p.2 != .cell) && names.all (fun p => p.2 != .local || names.lookup p.1 == some .local) && (names.lookup x == some .local) &&
 names.all (fun p => p.2 != .free || (zgx ρ K p.1 && names.lookup p.1 == some .free)) && (x5 names).isNone
noncomputable def zgC : Expr → Bool
 | .Constant .. => true
 | .Name .. => true
 | _ => false
noncomputable def zfH : List D → Option (List Str)
 | [] => some []
 | .str x :: ds => (match zfH ds with | some xs => some (x :: xs) | none => none)
 | _ :: _ => none
noncomputable def z3 (xs : List Str) : Nat := (xs.map (·.length)).sum
noncomputable def za3 (x : Str) (d : D) : Option D := match d.list? with
 | some ds => (match zfH ds with
  | some xs => (match Nat.ble (z3 xs + xs.length * x.length) zK with | true => some (.str (Txt.join x xs)) | false => none)
  | none => none)
 | none => none
noncomputable def zjC (d : D) : Option D := match d.list? with
 | some ds => (match zdG ds with | some ns => some (.int ns.sum) | none => none)
 | none => none
noncomputable def zbt (name : Str) (x : Str) (args : List D) : Option D :=
 if name == "join" then (match args with | [d] => za3 x d | _ => none)
 else if name == "find" then (match args with | [a, b] => (match a.str? with | some y => (match b.int? with | some i => some (.int (Txt.find3 x y i)) | none => none) | none => none) | _ => none)
 else if name == "replace" then (match args with | [a, b] => two D.str? (fun y z => gd (PySem.Builtin.Str.occurrences x y 0 x.length (x.length + 1)).isEmpty (some (.str x))) a b | _ => none)
 else none
noncomputable def yd (cf : Cf) (f : D) (args : List D) : Option D := match f with
 | .opq a => cf.Φ a args
 | .blt id => if id == "len" then (match args with | [d] => zbY d | _ => none) else if id == "sum" then (match args with | [d] => zjC d | _ => none) else none
 | .typ n => if n == "range" then (match args with | [a] => (match a.int? with | some b => some (.rng 0 b) | none => none) | [a, b] => two D.int? (fun a b => some (.rng a b)) a b | _ => none) else none
 | _ => none
noncomputable def zbl (f : D) (d : D) : Bool := match f with
 | .blt _ => (match d with | .own _ => true | d => d.pure)
 | _ => d.pure
section
variable (cf : Cf) (ev : Expr → Option D) (ts : Expr → Option Bool) (el : List Expr → Option (List D))
noncomputable def znv (c : Const) : Option D := match c with | .int i => some (.int i) | .str x => some (.str x) | .none => some .none | .bool b => some (.bool b) | _ => none
noncomputable def yb (K : Kn) (ρ : Rho) (x : Str) : Option D := if (x == ("__debug__" : Str)) || (x == ("__classdict__" : Str)) then none else (match ρ.lookup x with
 | some d => (match d with | .unb => none | .app _ => none | d => some d)
 | none => (match K.lookup x with | some .globalImplicit => cf.Γ x | _ => none))
noncomputable def zep (l : Expr) (op : Operator) (r : Expr) : Option D := match ev l with | some a => (match ev r with | some b => yu op a b | none => none) | none => none
noncomputable def evUn (op : UnaryOp) (x : Expr) : Option D := match op with | .USub => (match ev x with | some a => unD .USub a | none => none) | _ => none
noncomputable def zcR (t b o : Expr) : Option D := match ts t with | some true => ev b | some false => ev o | none => none
noncomputable def znM (op : BoolOp) (es : List Expr) : Option D := match op with
 | .And => (match es with
  | [a, b] => (match ev a with | some va => (match zan va with | some true => ev b | some false => some va | none => none) | none => none)
  | _ => none)
 | _ => none
noncomputable def zhX (l : Expr) (op : CmpOp) (r : Expr) : Option Bool := match ev l with | some a => (match ev r with | some b => yB op a b | none => none) | none => none
noncomputable def znD (l : Expr) (ops : List CmpOp) (rs : List Expr) : Option D := match ops with
 | [op] => (match rs with
  | [r] => (match ev l with | some a => (match ev r with | some b => (match yB op a b with | some c => some (.bool c) | none => none) | none => none) | none => none)
  | _ => none)
 | _ => none
noncomputable def zpB (l : Expr) (ops : List CmpOp) (rs : List Expr) : Option Bool := match ops with
 | [op] => (match rs with | [r] => zhX ev l op r | _ => none)
 | _ => none
noncomputable def zfX (es : List Expr) : Option D := match el es with | some ds => (match (ds.all D.pure && Nat.ble ds.length zK) with | true => some (.tup ds) | false => none) | none => none
noncomputable def ziD (es : List Expr) : Option D := match el es with | some ds => (match (ds.all D.pure && Nat.ble ds.length zK) with | true => some (.lst ds) | false => none) | none => none
noncomputable def zaQ (o : Option Expr) : Option (Option Int) := match o with
 | none => some none
 | some e => (match ev e with | some (.int i) => some (some i) | _ => none)
noncomputable def zei (v : Expr) (lo hi : Option Expr) : Option D := match ev v with
 | some a => (match zaQ ev lo with
  | some l => (match zaQ ev hi with | some h => xS a l h | none => none)
  | none => none)
 | none => none
noncomputable def zdm (v i : Expr) : Option D := match ev v with | some a => (match ev i with | some b => x7 a b | none => none) | none => none
noncomputable def zkv (v i : Expr) : Option D := match i with
 | .Slice lo hi st _ => (match st with | none => zei ev v lo hi | some _ => none)
 | i => zdm ev v i
noncomputable def zeR (K : Kn) (ρ : Rho) (f : Str) (p : Pos) (a : Expr) (as : List Expr) : Option D := match ρ.lookup f with
 | none => (match ev (.Name f p) with
  | some fd => (match el (a :: as) with | some ds => (match ds.all (zbl fd) with | true => yd cf fd ds | false => none) | none => none)
  | none => none)
 | some _ => none
noncomputable def zd6 (K : Kn) (ρ : Rho) (e o : Expr) (name : Str) (apos : Pos) (a : Expr) (as : List Expr) (pos : Pos) : Option D := match (zgC o && (apos.endLine == pos.line) && Nat.ble (as.length) 20) with
 | true => (match ev o with
  | some (.str x) => (match el (a :: as) with | some ds => (match ds.all (zbl (.blt "")) with | true => zbt name x ds | false => none) | none => none)
  | _ => cf.H K ρ e)
 | false => none
noncomputable def znQ (K : Kn) (ρ : Rho) (e f : Expr) (as : List Expr) (ks : List Keyword) (pos : Pos) : Option D := match ks with
 | [] => (match as with
  | a :: as => (match f with
   | .Name f p => zeR cf ev el K ρ f p a as
   | .Attribute o name apos => zd6 cf ev el K ρ e o name apos a as pos
   | _ => none)
  | [] => none)
 | _ => none
noncomputable def znx (v : Expr) (y : Str) : Option D := match v with
 | .Name _ _ => (match y == ("root" : Str) with
  | true => (match ev v with | some (.node r _) => some (.int r) | _ => none)
  | false => none)
 | _ => none
noncomputable def znE (fs : List Expr → Option (List Str)) (vs : List Expr) : Option D := match vs with
 | v₁ :: v₂ :: vs => (match fs (v₁ :: v₂ :: vs) with
  | some xs => (match Nat.ble (z3 xs) zK with | true => some (.str (xs.foldl (· ++ ·) Str.empty)) | false => none)
  | none => none)
 | _ => none
noncomputable def zou (evK : Kn → Rho → Expr → Option D) (tlK : Kn → Rho → List Expr → Option Bool) (K : Kn) (ρ : Rho) (elt : Expr) (x : Str) (iter : Expr) (ifs : List Expr) (csc : Scope) : Option D := match (z8 csc.names K ρ x && (csc.kind == .function)) with
 | true => (match evK K ρ iter with
  | some d => (match zu d with
   | some ds => (match xQ (fun d => tlK (yD csc.names K) ((x, d) :: ρ.filter fun q => xE csc.names q.1) ifs) (fun d => evK (yD csc.names K) ((x, d) :: ρ.filter fun q => xE csc.names q.1) elt) ds with
    | some ys => some (.lst ys)
    | none => none)
   | none => none)
  | none => none)
 | false => none
noncomputable def znV (evK : Kn → Rho → Expr → Option D) (tlK : Kn → Rho → List Expr → Option Bool) (K : Kn) (ρ : Rho) (elt : Expr) (gens : List Comprehension) (csc : Scope) : Option D := match gens with
 | [g] => (match g.is_async with
  | .ofNat 0 => (match g.target with | .Name x _ => zou evK tlK K ρ elt x g.iter g.ifs csc | _ => none)
  | _ => none)
 | _ => none
end
noncomputable def evX (cf : Cf) (ev : Kn → Rho → Expr → Option D) (ts : Kn → Rho → Expr → Option Bool) (el : Kn → Rho → List Expr → Option (List D)) (tl : Kn → Rho → List Expr → Option Bool) (fs : Kn → Rho → List Expr → Option (List Str)) (K : Kn) (ρ : Rho) (e : Expr) : Option D := match e with
 | .Constant c _ _ => znv c
 | .Name x _ => yb cf K ρ x
 | .BinOp l op r _ => zep (ev K ρ) l op r
 | .UnaryOp op x _ => evUn (ev K ρ) op x
 | .IfExp t b o _ => zcR (ev K ρ) (ts K ρ) t b o
 | .BoolOp op es _ => znM (ev K ρ) op es
 | .Compare l ops rs _ => znD (ev K ρ) l ops rs
 | .Tuple es _ _ => zfX (el K ρ) es
 | .List es _ => ziD (el K ρ) es
 | .Subscript v i _ => zkv (ev K ρ) v i
 | .Call f as ks pos => znQ cf (ev K ρ) (el K ρ) K ρ (.Call f as ks pos) f as ks pos
 | .Attribute v y _ => znx (ev K ρ) v y
 | .ListComp elt gens csc _ => znV ev tl K ρ elt gens csc
 | .JoinedStr vs _ => znE (fs K ρ) vs
 | _ => none
noncomputable def tsX (ev : Expr → Option D) (ts : Expr → Option Bool) (all any : List Expr → Option Bool) (e : Expr) : Option Bool := match e with
 | .UnaryOp op x _ => (match op with | .Not => (match ts x with | some b => some (!b) | none => none) | _ => none)
 | .BoolOp op es _ => (match op with | .And => all es | .Or => any es)
 | .Compare l ops rs _ => zpB ev l ops rs
 | .Name x p => (match ev (.Name x p) with | some a => zan a | none => none)
 | .Call f as ks p => (match ev (.Call f as ks p) with | some a => zan a | none => none)
 | _ => none
noncomputable def fsP (e : Expr) : Option (Str ⊕ Expr) := match e with
 | .Constant c _ _ => (match c with | .str x => some (.inl x) | _ => none)
 | .FormattedValue e i s _ => (match i with | .negSucc 0 => (match s with | none => some (.inr e) | some _ => none) | _ => none)
 | _ => none
mutual
noncomputable def evD (cf : Cf) : Nat → Kn → Rho → Expr → Option D
 | 0, _, _, _ => none
 | n + 1, K, ρ, e => evX cf (evD cf n) (tsD cf n) (evL cf n) (tsL cf n) (fsD cf n) K ρ e
noncomputable def tsD (cf : Cf) : Nat → Kn → Rho → Expr → Option Bool
 | 0, _, _, _ => none
 | n + 1, K, ρ, e => tsX (evD cf n K ρ) (tsD cf n K ρ) (zb1 cf n K ρ) (zbo cf n K ρ) e
noncomputable def evL (cf : Cf) : Nat → Kn → Rho → List Expr → Option (List D)
 | 0, _, _, _ => none
 | n + 1, K, ρ, es => match es with
  | [] => some []
  | e :: es => (match evD cf n K ρ e with | some d => (match evL cf n K ρ es with | some ds => some (d :: ds) | none => none) | none => none)
noncomputable def tsL (cf : Cf) : Nat → Kn → Rho → List Expr → Option Bool
 | 0, _, _, _ => none
 | n + 1, K, ρ, es => match es with
  | [] => some true
  | e :: es => (match tsD cf n K ρ e with | some true => tsL cf n K ρ es | some false => some false | none => none)
noncomputable def zb1 (cf : Cf) : Nat → Kn → Rho → List Expr → Option Bool
 | 0, _, _, _ => none
 | n + 1, K, ρ, es => match es with
  | [] => some true
  | e :: es => (match tsD cf n K ρ e with | some true => zb1 cf n K ρ es | some false => some false | none => none)
noncomputable def zbo (cf : Cf) : Nat → Kn → Rho → List Expr → Option Bool
 | 0, _, _, _ => none
 | n + 1, K, ρ, es => match es with
  | [] => some false
  | e :: es => (match tsD cf n K ρ e with | some true => some true | some false => zbo cf n K ρ es | none => none)
noncomputable def fsD (cf : Cf) : Nat → Kn → Rho → List Expr → Option (List Str)
 | 0, _, _, _ => none
 | n + 1, K, ρ, es => match es with
  | [] => some []
  | e :: es => (match fsP e with
   | some (.inl x) => (match fsD cf n K ρ es with | some xs => some (x :: xs) | none => none)
   | some (.inr e) => (match evD cf n K ρ e with | some (.str x) => (match fsD cf n K ρ es with | some xs => some (x :: xs) | none => none) | _ => none)
   | none => none)
end
end
section
inductive zad (R : D → Value → Prop) : List D → List Value → Prop
 | nil : zad R [] []
 | cons {d v ds vs} : R d v → zad R ds vs → zad R (d :: ds) (v :: vs)
theorem zad.nil' {R : D → Value → Prop} {vs : List Value} (h : zad R [] vs) : vs = [] := by cases h; rfl
theorem zad.cons' {R : D → Value → Prop} {d : D} {ds : List D} {vs : List Value} (h : zad R (d :: ds) vs) : ∃ v us, vs = v :: us ∧ R d v ∧ zad R ds us := by cases h with | cons a b => exact ⟨_, _, rfl, a, b⟩
theorem zad.one {R : D → Value → Prop} {d : D} {vs : List Value} (h : zad R [d] vs) : ∃ v, vs = [v] ∧ R d v := by
 refine xf h.cons' fun v us e a b => ?_
 exact ⟨v, b.nil' ▸ e, a⟩
theorem zad.two {R : D → Value → Prop} {d d' : D} {vs : List Value} (h : zad R [d, d'] vs) : ∃ v v', vs = [v, v'] ∧ R d v ∧ R d' v' := by
 refine xf h.cons' fun v us e a b => ?_
 refine zQ b.one fun v' e' a' => ?_
 exact ⟨v, v', e' ▸ e, a, a'⟩
structure zfd (env : Env) (K : Kn) : Prop where
 code : ∀ c, x5 K = some c → env.code = c.1 ∧ env.qual = c.2
 names : env.scope.names = K
 kind : env.scope.kind = .function
 glob : env.globals = mainGlobals
 bi : env.builtins = builtinsNs
noncomputable def Holds (h : Heap) (env : Env) (m : Str → Option Value) (x : Str) (v : Value) : Prop :=
 (env.kindOf x = some .local ∧ m x = some v) ∨ ((env.kindOf x = some .cell ∨ env.kindOf x = some .free) ∧ ∃ c, env.cells.lookup x = some c ∧ h.IsCell c (some v))
noncomputable def zpv (h : Heap) (b a : Addr) : Prop := ∃ o vs, h.get? b = some o ∧ o.cls = .type "builtin_function_or_method" ∧ o.data = .fields vs ∧ vs[0]? = some (.builtin "list.append") ∧ vs[1]? = some (.ref a)
noncomputable def zdD (C : Addr) (X : List Addr) (h : Heap) (W : Str → Option Addr) (x : Str) (d : D) (v : Value) : Prop := match d with
 | .own ds => ∃ a vs n, W x = some a ∧ v = .ref a ∧ a ∈ X ∧ h.get? a = some (zW vs n) ∧ RdL C X h ds vs
 | .app y => ∃ a b, W y = some a ∧ v = .ref b ∧ b ∉ X ∧ zpv h b a
 | d => Rd C X h d v
structure zdx (G : Gd) (env : Env) (K : Kn) (X : List Addr) (h : Heap) (ρ : Rho) : Prop where
 k : zfd env K
 ex : ∃ m W, h.Ns env.locals m ∧ (∀ x y a, W x = some a → W y = some a → x = y) ∧ ∀ x d, ρ.lookup x = some d → d = .unb ∨ ∃ v, Holds h env m x v ∧ zdD G.C X h W x d v
theorem zdD.rv {C X h W x d v} (b : zdD C X h W x d v) (hd : ∀ y, d ≠ .app y) : Rv C X h d v := by
 cases d with
 | own ds => refine zcj b fun a vs n zz3 e zz5 hg hl => ?_; exact ⟨a, vs, n, e, hg, hl⟩
 | app y => exact absurd rfl (hd y)
 | _ => exact b
theorem IsCell.at' {h h' : Heap} {c : Addr} {v} (x : h.IsCell c v) (e : ∀ o, h.get? c = some o → h'.get? c = some o) : h'.IsCell c v := let ⟨o, ho, hd⟩ := x; ⟨o, e o ho, hd⟩
theorem zdD.imp {C X X' h h' W x d v} (b : zdD C X h W x d v) (k : ∀ b o, b ∉ X → h.get? b = some o → b ∉ X' ∧ h'.get? b = some o)
  (kX : ∀ a ds, d = .own ds → a ∈ X → ∀ vs n, h.get? a = some (zW vs n) → a ∈ X' ∧ h'.get? a = some (zW vs n)) : zdD C X' h' W x d v := by
 cases d with
 | own ds => refine zcj b fun a vs n e1 e2 hx hg hl => ?_; exact ⟨a, vs, n, e1, e2, (kX a ds rfl hx vs n hg).1, (kX a ds rfl hx vs n hg).2, hl.imp k⟩
 | app y => obtain ⟨a, b, e1, e2, hx, o, vs, hg, r⟩ := b; exact ⟨a, b, e1, e2, (k b o hx hg).1, o, vs, (k b o hx hg).2, r⟩
 | _ => exact Rd.imp k b
theorem Cx.notTab {G : Gd} {h : Heap} (x : Cx G h) {a : Addr} {o : Obj} (e : h.get? a = some o) (n : ¬ TK o) : a ∉ G.T := NT.notTab ⟨o, e, n⟩ x.ti
theorem zv {vs n} : ¬ TK (zW vs n) := fun ⟨us, q, _⟩ => by cases q
theorem zdx.gr {G : Gd} {env : Env} {K : Kn} {X : List Addr} {s s' : Shared} {ρ : Rho} (hX : XOk G X s.heap) (x : Cx G s.heap) (g : Gr G s s') (e : zdx G env K X s.heap ρ) : zdx G env K X s'.heap ρ := by
 obtain ⟨k, m, W, hn, hi, hv⟩ := e
 refine ⟨k, m, W, hn.at' fun o e => g.heap _ o ((NT.dict hn).notTab x.ti) e, hi, fun y d e => ?_⟩
 rcases hv y d e with h | ⟨v, h, b⟩
 ·exact .inl h
 ·refine .inr ⟨v, ?_, b.imp (fun b o hb e => ⟨hb, g.heap b o (fun t => hb (hX.tabs b t)) e⟩) fun a ds zz ha vs n e => ⟨ha, g.heap _ _ (x.notTab e zv) e⟩⟩
  rcases h with h | ⟨h, c, h1, h2⟩
  ·exact .inl h
  ·exact .inr ⟨h, c, h1, IsCell.at' h2 fun o e => g.heap _ o ((NT.cell h2).notTab x.ti) e⟩
structure zZ (G : Gd) (cf : Cf) (k : Nat) : Prop where
 gam : ∀ x d, cf.Γ x = some d → ∃ v, (G.mg x = some v ∨ (G.mg x = none ∧ G.mb x = some v)) ∧ ∀ X h, Rd G.C X h d v
 fn : ∀ a ds d, cf.Φ a ds = some d → ∃ o fd, G.hb.get? a = some o ∧ o.data = .func fd ∧ a ∉ G.T ∧ ∀ A X s vs, zby k A → Cx G s.heap → XOk G X s.heap → RdL G.C X s.heap ds vs →
  ∀ E, wpAny (model G.prog G.w) A (call (.ref a) vs) (fun v s' => Gr G s s' ∧ Rd G.C X s'.heap d v) E s
 hook : ∀ K ρ e d, cf.H K ρ e = some d → ∀ A X s env, zby k A → Cx G s.heap → XOk G X s.heap → zdx G env K X s.heap ρ → Ev G A X s (eval e env) d
 root : ∀ A X s a r t, zie G.C X s.heap a r t → Cx G s.heap → XOk G X s.heap → ∀ E, wpAny (model G.prog G.w) A (getAttr (.ref a) "root" true) (fun v s' => Gr G s s' ∧ ∃ u, v = .int r u) E s
structure Cxt (G : Gd) (k : Nat) (A : Around) (X : List Addr) (s : Shared) (env : Env) (K : Kn) (ρ : Rho) : Prop where
 room : zby k A
 cx : Cx G s.heap
 xok : XOk G X s.heap
 env : zdx G env K X s.heap ρ
theorem Cxt.gr {G k A X s s' env K ρ} (c : Cxt G k A X s env K ρ) (g : Gr G s s') : Cxt G k A X s' env K ρ := ⟨c.room, g.cx c.cx, c.xok.gr c.cx.ti g, c.env.gr c.xok c.cx g⟩
noncomputable def EvS (G : Gd) (k : Nat) (K : Kn) (ρ : Rho) (e : Expr) (d : D) : Prop := ∀ A X s env, Cxt G k A X s env K ρ → Ev G A X s (eval e env) d
noncomputable def TsS (G : Gd) (k : Nat) (K : Kn) (ρ : Rho) (e : Expr) (b : Bool) : Prop := ∀ A X s env, Cxt G k A X s env K ρ → ∀ E, wpAny (model G.prog G.w) A (isTrue e env (eval e env)) (fun c s' => c = b ∧ Gr G s s') E s
noncomputable def LsS (G : Gd) (k : Nat) (K : Kn) (ρ : Rho) (es : List Expr) (ds : List D) : Prop := ∀ A X s env pos, Cxt G k A X s env K ρ → ∀ E, wpAny (model G.prog G.w) A (spliced (backTo pos (starEach es env))) (fun vs s' => Gr G s s' ∧ zad (Rv G.C X s'.heap) ds vs) E s
theorem Ev.post {G : Gd} {A X s t d} {Q : Value → Shared → Prop} {E} (h : Ev G A X s t d) (hq : ∀ v s', Gr G s s' → Rv G.C X s'.heap d v → Q v s') : wpAny (model G.prog G.w) A t Q E s :=
 wpAny_mono (h E) (fun v s' h' => hq v s' h'.1 h'.2) fun zz zz e => e
theorem Ev.up {G : Gd} {A X s s₁ t d E} (g : Gr G s s₁) (h : Ev G A X s₁ t d) : wpAny (model G.prog G.w) A t (fun v s' => Gr G s s' ∧ Rv G.C X s'.heap d v) E s₁ :=
 wpAny_mono (h E) (fun v s' h' => ⟨g.trans h'.1, h'.2⟩) fun zz zz e => e
theorem yA {C X h} : ∀ {ds : List D} {vs : List Value}, zad (Rv C X h) ds vs → ds.all D.pure = true → RdL C X h ds vs
 | _, _, .nil, _ => .nil
 | _, _, .cons h t, e => by
  rw [List.all_cons, Bool.and_eq_true] at e
  exact .cons (h.rd e.1) (yA t e.2)
section
variable {G : Gd} {k : Nat} {cf : Cf} {A : Around} {X : List Addr} {s : Shared} {env : Env} {K : Kn} {ρ : Rho}
theorem ziE (c : Cxt G k A X s env K ρ) (x : Str) (p : Pos) {d : D} (hl : ρ.lookup x = some d) (hu : d ≠ .unb) (ha : ∀ y, d ≠ .app y) (h1 : (x == ("__debug__" : Str)) = false) (h2 : (x == ("__classdict__" : Str)) = false) :
  Ev G A X s (eval (.Name x p) env) d := by
 intro E
 refine xf c.env.ex fun m W hn hi hv => ?_
 rcases hv x d hl with h | ⟨v, h, b⟩
 ·exact absurd h hu
 ·have r := b.rv ha
  refine wpAny_Name ?_ h1
  rcases h with ⟨hk, hm⟩ | ⟨hk | hk, cc, hc, hv⟩
  ·exact wpAny_loadName_local c.env.k.kind hk hn hm ⟨Gr.refl _, r⟩
  ·exact wpAny_loadName_cell c.env.k.kind hk hc hv ⟨Gr.refl _, r⟩
  ·exact wpAny_loadName_free c.env.k.kind hk hc hv ⟨Gr.refl _, r⟩ h2
theorem znn (ok : zZ G cf k) (c : Cxt G k A X s env K ρ) (x : Str) (p : Pos) {d : D} (hk : K.lookup x = some .globalImplicit) (hd : cf.Γ x = some d) (h1 : (x == ("__debug__" : Str)) = false) :
  Ev G A X s (eval (.Name x p) env) d := by
 intro E
 refine zQ (ok.gam x d hd) fun v hv hr => ?_
 have hk' : env.kindOf x = some .globalImplicit := by unfold Env.kindOf; rw [c.env.k.names]; exact hk
 have upN : ∀ a m, G.hb.Ns a m → s.heap.Ns a m := fun a m h => h.at' fun o e => c.cx.hb _ o e
 have ng : s.heap.Ns env.globals G.mg := by rw [c.env.k.glob]; exact upN _ _ G.hmg
 have nb : s.heap.Ns env.builtins G.mb := by rw [c.env.k.bi]; exact upN _ _ G.hmb
 refine Name_function_global c.env.k.kind hk' ?_ h1
 rcases hv with hv | ⟨hm, hv⟩
 ·exact loadGlobal_global ng hv ⟨Gr.refl _, (hr _ _).rv⟩
 ·exact loadGlobal_builtin ng hm nb hv ⟨Gr.refl _, (hr _ _).rv⟩
theorem zf3 {a : D} {va : Value} {b : Bool} (ra : Rv G.C X s.heap a va) (e : zan a = some b) :
  ∀ E (Q : Bool → Shared → Prop), (∀ s', Gr G s s' → Q b s') → wpAny (model G.prog G.w) A (truthy va) Q E s := by
 cases a with
 | str x => dsimp only [zan] at e; split at e; (rename_i h; exact zbU ra (Nat.le_of_ble_eq_true h) e); cases e
 | lst x => dsimp only [zan] at e; split at e; (rename_i h; exact zbU ra (Nat.le_of_ble_eq_true h) e); cases e
 | own x => dsimp only [zan] at e; split at e; (rename_i h; exact zbU ra (Nat.le_of_ble_eq_true h) e); cases e
 | _ => exact zbU ra trivial e
end
end
theorem w1 {R : D → Value → Prop} {d : D} {vs : List Value} {m : Model} {A : Around} {f : Value} {Q : Value → Shared → Prop} {E : Value → Shared → Prop} {s : Shared} (h : zad R [d] vs) (k : ∀ v, R d v → wpAny m A (call f [v]) Q E s) : wpAny m A (call f vs) Q E s := by
 refine zQ h.one fun v zz1 r => ?_; subst zz1
 exact k v r
theorem w2 {R : D → Value → Prop} {d d' : D} {vs : List Value} {m : Model} {A : Around} {f : Value} {Q : Value → Shared → Prop} {E : Value → Shared → Prop} {s : Shared} (h : zad R [d, d'] vs) (k : ∀ v v', R d v → R d' v' → wpAny m A (call f [v, v']) Q E s) : wpAny m A (call f vs) Q E s := by
 refine xf h.two fun v v' zz2 r r' => ?_; subst zz2
 exact k v v' r r'
section
theorem zax (env : Env) : ∀ (names : Kn) (acc : List (Str × Addr)), (∀ p ∈ names, p.2 = .free → ∃ c, env.cells.lookup p.1 = some c) →
  ∃ cl, (forIn names acc fun (p : Str × NameKind) (r : List (Str × Addr)) => (match p with | (name, kind) => if (kind == .free) = true then do let a ← cellOf env name; pure (ForInStep.yield ((name, a) :: r)) else pure (ForInStep.yield r) : Sem (ForInStep (List (Str × Addr))))) = (pure cl : Sem _) ∧
   (∀ y, (∃ p ∈ names, p.1 = y ∧ p.2 = .free) → cl.lookup y = env.cells.lookup y) ∧ (∀ y, (¬ ∃ p ∈ names, p.1 = y ∧ p.2 = .free) → cl.lookup y = acc.lookup y)
 | [], acc, _ => ⟨acc, rfl, (fun y h => by refine zQ h fun p h zz2 => ?_; cases h), (fun zz zz => rfl)⟩
 | (name, kind) :: r, acc, h => by
  cases hk : kind == NameKind.free with
  | false =>
   refine x2 (zax env r acc fun p hp => h p (.tail _ hp)) fun cl e h1 h2 => ?_
   have hk' : kind ≠ .free := fun q => by rw [q] at hk; cases hk
   have eqv : ∀ y, (∃ p ∈ (name, kind) :: r, p.1 = y ∧ p.2 = NameKind.free) ↔ (∃ p ∈ r, p.1 = y ∧ p.2 = NameKind.free) := fun y => by
    constructor
    ·rintro ⟨p, hp, e1, e2⟩
     rcases List.mem_cons.mp hp with q | q
     ·subst q; exact absurd e2 hk'
     ·exact ⟨p, q, e1, e2⟩
    ·rintro ⟨p, hp, e⟩; exact ⟨p, .tail _ hp, e⟩
   refine ⟨cl, ?_, fun y hy => h1 y ((eqv y).mp hy), fun y hy => h2 y fun q => hy ((eqv y).mpr q)⟩
   rw [List.forIn_cons]
   simp only [hk, Bool.false_eq_true, if_false]
   rw [pure_bind]; exact e
  | true =>
   have hk' : kind = .free := beq_iff_eq.mp hk
   refine zU (h (name, kind) (.head _) hk') fun c hc => ?_
   refine x2 (zax env r ((name, c) :: acc) fun p hp => h p (.tail _ hp)) fun cl e h1 h2 => ?_
   refine ⟨cl, ?_, fun y hy => ?_, fun y hy => ?_⟩
   ·rw [List.forIn_cons]
    simp only [hk, if_true]
    have : cellOf env name = pure c := by unfold cellOf; rw [hc]
    rw [this, pure_bind, pure_bind]; exact e
   ·by_cases q : ∃ p ∈ r, p.1 = y ∧ p.2 = NameKind.free
    ·exact h1 y q
    ·rw [h2 y q]
     refine x2 hy fun p hp e1 e2 => ?_
     rcases List.mem_cons.mp hp with z | z
     ·subst z
      simp only at e1; subst e1
      rw [List.lookup_cons, beq_self_eq_true, hc]
     ·exact absurd ⟨p, z, e1, e2⟩ q
   ·rw [h2 y fun ⟨p, hp, z⟩ => hy ⟨p, .tail _ hp, z⟩, List.lookup_cons]
    cases q : y == name with
    | false => rfl
    | true => exact absurd ⟨(name, kind), .head _, (beq_iff_eq.mp q).symm, hk'⟩ hy
theorem yq {p : Str → Bool} : ∀ {ρ : Rho} {y : Str} {d : D}, (ρ.filter fun q => p q.1).lookup y = some d → ρ.lookup y = some d ∧ p y = true
 | [], _, _, h => by simp at h
 | (k, v) :: r, y, d, h => by
  rw [List.filter_cons] at h
  cases hb : y == k with
  | true =>
   have hyk := beq_iff_eq.mp hb
   subst hyk
   cases hp : p y with
   | true => simp only [hp, if_true, List.lookup_cons, beq_self_eq_true] at h; exact ⟨by rw [List.lookup_cons, beq_self_eq_true]; exact h, rfl⟩
   | false =>
    simp only [hp, Bool.false_eq_true, if_false] at h
    refine zk (yq h) fun zz0 q => ?_
    rw [hp] at q; cases q
  | false =>
   rw [List.lookup_cons, hb]
   cases hp : p k with
   | true => simp only [hp, if_true, List.lookup_cons, hb] at h; exact yq h
   | false => simp only [hp, Bool.false_eq_true, if_false] at h; exact yq h
theorem zbm (f : Str → NameKind → NameKind) : ∀ (names : Kn) (y : Str), (names.map fun p => (p.1, f p.1 p.2)).lookup y = (names.lookup y).map (f y)
 | [], _ => rfl
 | (k, v) :: r, y => by
  simp only [List.map_cons, List.lookup_cons]
  cases hb : y == k with
  | true => have := beq_iff_eq.mp hb; subst this; rfl
  | false => exact zbm f r y
theorem yV (names K : Kn) (y : Str) : (yD names K).lookup y = (names.lookup y).map fun k => if (k == .free && (ScopeKind.function == .function) && K.lookup y == some .cell) then .cell else k := by
 have : yD names K = names.map fun p => (p.1, (fun (n : Str) (k : NameKind) => if (k == .free && (ScopeKind.function == .function) && K.lookup n == some .cell) then NameKind.cell else k) p.1 p.2) := by
  refine List.map_congr_left fun p zz => ?_
  obtain ⟨n, k⟩ := p
  dsimp only
  split <;> rfl
 rw [this]
 exact zbm (fun n k => if (k == .free && (ScopeKind.function == .function) && K.lookup n == some .cell) then NameKind.cell else k) names y
theorem zaS (csc : Scope) (env : Env) (K : Kn) (k : zfd env K) : (relabel csc env).names = yD csc.names K := by
 unfold relabel yD Env.kindOf
 rw [k.names, k.kind]
theorem xP {names K : Kn} {ρ : Rho} {x : Str} (h : z8 names K ρ x = true) :
  (∀ y ∈ names, y.2 ≠ .cell) ∧ (∀ y ∈ names, y.2 = .local → names.lookup y.1 = some .local) ∧ names.lookup x = some .local ∧ (∀ y ∈ names, y.2 = .free → zgx ρ K y.1 = true ∧ names.lookup y.1 = some .free) := by
 unfold z8 at h
 simp only [Bool.and_eq_true, List.all_eq_true, Bool.or_eq_true, bne_iff_ne, beq_iff_eq] at h
 refine zk h fun zz0 h5 => ?_; rcases zz0 with ⟨⟨⟨h1, h2⟩, h3⟩, h4⟩
 refine ⟨h1, fun y hy e => (h2 y hy).resolve_left fun q => q e, h3, fun y hy e => (h4 y hy).resolve_left fun q => q e⟩
theorem zhr {K : Kn} (h : x5 K = none) : K.lookup ("_twin_re_1" : Str) = none ∧ K.lookup ("RuntimeError" : Str) = none ∧ K.lookup ("script" : Str) = none := by
 unfold x5 at h
 split at h
 ·exact zA h.symm
 ·rename_i h1
  split at h
  ·exact zA h.symm
  ·rename_i h2
   split at h
   ·exact zA h.symm
   ·rename_i h3; exact ⟨h1, h2, h3⟩
theorem zfe {names K : Kn} {ρ : Rho} {x : Str} (h : z8 names K ρ x = true) : x5 (yD names K) = none := by
 unfold z8 at h
 rw [Bool.and_eq_true] at h
 refine xr (zhr (Option.isNone_iff_eq_none.mp h.2)) fun h1 h2 h3 => ?_
 unfold x5
 rw [yV, yV, yV, h1, h2, h3]
 rfl
theorem zhF {G : Gd} {env : Env} {K : Kn} {X : List Addr} {h : Heap} {ρ : Rho} (e : zdx G env K X h ρ) {y : Str} (hk : zgx ρ K y = true) : ∃ c, env.cells.lookup y = some c := by
 obtain ⟨ek, m, W, hn, hi, hv⟩ := e
 unfold zgx at hk
 set_option tactic.hygienic true in split at hk
 ·set_option tactic.hygienic true in cases hk
 ·rename_i d hd hl
  rcases hv y d hl with q | ⟨v, q, _⟩
  ·subst q; exact absurd rfl hd
  ·rcases q with ⟨ql, _⟩ | ⟨_, c, hc, _⟩
   ·unfold Env.kindOf at ql
    rw [ek.names] at ql
    rw [ql] at hk; cases hk
   ·exact ⟨c, hc⟩
 ·cases hk
section
variable {G : Gd} {k : Nat} {A : Around} {X : List Addr} {s : Shared} {env : Env} {K : Kn} {ρ : Rho}
theorem zam (csc : Scope) {x : Str} (c : zdx G env K X s.heap ρ) (hg : z8 csc.names K ρ x = true) :
  ∃ cl, closureFor csc env = pure cl ∧ ∀ y, csc.names.lookup y = some .free → cl.lookup y = env.cells.lookup y := by
 refine zc1 (xP hg) fun h1 h2 h3 h4 => ?_
 refine x2 (zax env csc.names [] fun p hp hf => zhF c (h4 p hp hf).1) fun cl e a b => ?_
 refine ⟨cl, ?_, fun y hy => a y ⟨(y, .free), mem_of_lookup hy, rfl, rfl⟩⟩
 exact (congrArg (fun t => t >>= fun r => (pure r : Sem (List (Str × Addr)))) e).trans (pure_bind _ _)
theorem za2 {csc : Scope} {cl : List (Str × Addr)} {C : Addr} {x : Str} {d : D} {v : Value} {Xi : List Addr} {s₃ : Shared} {m₃} (c : Cxt G k A X s env K ρ) (hg : z8 csc.names K ρ x = true) (hkind : csc.kind = .function)
  (hcl : ∀ y, csc.names.lookup y = some .free → cl.lookup y = env.cells.lookup y) (hXs : ∀ a ∈ X, a ∈ Xi) (hXi : ∀ a ∈ Xi, a ∈ X ∨ s.heap.get? a = none) (g : Gr G s s₃) (ti : G.TI s₃.heap) (hX₃ : XOk G Xi s₃.heap)
  (hn : s₃.heap.Ns C m₃) (hm : m₃ x = some v) (r : Rd G.C Xi s₃.heap d v) :
  Cxt G k A Xi s₃ (compEnvC csc cl C env) (yD csc.names K) ((x, d) :: ρ.filter fun q => xE csc.names q.1) := by
 refine zc1 (xP hg) fun h1 h2 h3 h4 => ?_
 obtain ⟨ek, m, W, hns, hi, hv⟩ := c.env
 refine ⟨c.room, g.cx c.cx, hX₃, ⟨⟨(fun cc q => by rw [zfe hg] at q; exact zA q), ?_, ?_, ek.glob, ek.bi⟩, m₃, W, hn, hi, fun y d' hy => ?_⟩⟩
 ·exact zaS csc env K ek
 ·show (relabel csc env).kind = .function
  exact hkind
 ·rw [List.lookup_cons] at hy
  cases hb : y == x with
  | true =>
   rw [hb] at hy; cases hy
   have := beq_iff_eq.mp hb; subst this
   refine .inr ⟨v, .inl ⟨?_, hm⟩, ?_⟩
   ·show (relabel csc env).names.lookup y = _
    rw [zaS csc env K ek, yV, h3]; rfl
   ·cases d <;> first | exact r | exact False.elim r
  | false =>
   rw [hb] at hy
   refine zk (yq hy) fun hl hf => ?_
   unfold xE at hf
   simp only [List.any_eq_true, Bool.and_eq_true, beq_iff_eq] at hf
   refine x2 hf fun p hp e1 e2 => ?_
   subst e1
   refine zk (h4 p hp e2) fun kn nl => ?_
   rcases hv p.1 d' hl with q | ⟨u, q, b⟩
   ·exact .inl q
   ·refine .inr ⟨u, ?_, b.imp (fun b o hb e => ⟨fun q => (hXi b q).elim hb fun z => (by rw [z] at e; exact zA e), g.heap b o (fun t => hb (c.xok.tabs b t)) e⟩) fun a ds zz ha vs n e => ⟨hXs a ha, g.heap _ _ (c.cx.notTab e zv) e⟩⟩
    have hkc : K.lookup p.1 = some .cell ∨ K.lookup p.1 = some .free := by
     unfold zgx at kn
     rw [hl] at kn
     cases d' <;> simp only [] at kn <;> first | (cases kn; done) | (split at kn <;> first | (rename_i z; exact .inl z) | (rename_i z; exact .inr z) | cases kn)
    rcases q with ⟨ql, _⟩ | ⟨_, cc, hc, hcv⟩
    ·unfold Env.kindOf at ql
     rw [ek.names] at ql
     rcases hkc with z | z <;> rw [ql] at z <;> cases z
    ·refine .inr ⟨?_, cc, ?_, IsCell.at' hcv fun o e => g.heap _ o ((NT.cell hcv).notTab c.cx.ti) e⟩
     ·show (relabel csc env).names.lookup p.1 = _ ∨ (relabel csc env).names.lookup p.1 = _
      rw [zaS csc env K ek, yV, nl]
      rcases hkc with z | z
      ·left; simp [z]
      ·right; simp [z]
     ·show cl.lookup p.1 = _
      rw [hcl _ nl]; exact hc
end
end
section
theorem yL {cf n K ρ e d} (h : evD cf n K ρ e = some d) (rest : List Expr) (env : Env) : starEach (e :: rest) env = (false, eval e env) :: starEach rest env := by
 cases n with
 | zero => exact zA h
 | succ n => cases e <;> first | rfl | exact zA h
theorem zfr {cf n K ρ e d} (h : evD cf n K ρ e = some d) (op : CmpOp) : behindInMarks op e = false := by
 cases n with
 | zero => exact zA h
 | succ n => cases e <;> first | rfl | exact zA h
theorem yi {cf n K ρ e d} (h : evD cf n K ρ e = some d) (env : Env) (v : Value) : foldedSetIterable e env v = pure v := by
 cases n with
 | zero => exact zA h
 | succ n => cases e <;> first | rfl | exact zA h
theorem zdM {cf n K ρ e d} (h : evD cf n K ρ e = some d) (o i : Value) : subscripted e false o i = operate [o, i] (getItem o i) := by
 cases n with
 | zero => exact zA h
 | succ n => cases e <;> first | rfl | exact zA h
theorem zfV {o : Expr} (h : zgC o = true) (name : Str) (env : Env) (w : Sem Value) : attributeBase o name env w = w := by
 cases o <;> first | rfl | cases h
theorem zao {cf K ρ} : ∀ {n es ds}, evL cf n K ρ es = some ds → ∀ (pos : Pos) (env : Env), (backTo pos (starEach es env)).all (fun x => !x.1) = true ∧ (backTo pos (starEach es env)).any (·.1) = false
 | 0, es, ds, h, _, _ => zA h
 | n + 1, [], ds, h, _, _ => ⟨rfl, rfl⟩
 | n + 1, e :: es, ds, h, pos, env => by
  replace h : (match evD cf n K ρ e with | some d => (match evL cf n K ρ es with | some ds => some (d :: ds) | none => none) | none => none) = some ds := h
  injection eS h fun d hd h => ?_
  injection eS h fun ds' hds h => ?_
  refine zk (zao hds pos env) fun h1 h2 => ?_
  rw [yL hd es env]
  exact ⟨by show (!false && _) = true; rw [Bool.not_false, Bool.true_and]; exact h1, by show (false || _) = false; rw [Bool.false_or]; exact h2⟩
theorem zfQ {C X h} : ∀ {ds : List D} {vs : List Value} {xs : List Str}, RdL C X h ds vs → zfH ds = some xs → StrsAre vs xs
 | [], vs, xs, r, e => by have := r.nil_inv; subst this; cases e; exact .nil
 | d :: ds, vs, xs, r, e => by
  refine xf r.cons_inv fun v vs' zz2 hr l => ?_; subst zz2
  cases d with
  | str i =>
   dsimp only [zfH] at e
   injection eS e fun zz zz1 e => ?_
   cases e
   refine zU ((Rd.rv hr).str) fun t zz1 => ?_; subst zz1
   exact .cons _ _ (zfQ l (by assumption))
  | _ => exact zA e
section
variable {G : Gd} {k : Nat} {cf : Cf} {A : Around} {X : List Addr} {s : Shared} {env : Env} {K : Kn} {ρ : Rho}
theorem zmK (hh : A.handled = none) {a d : D} {va : Value} (ra : Rv G.C X s.heap a va) (e : zjC a = some d) : Ev G A X s (call (.builtin "sum") [va]) d := by
 intro E
 unfold zjC at e
 injection eS e fun ds hds e => ?_
 injection eS e fun ns hns e => ?_
 cases e
 refine yI (ra.list hds) fun l vs n zz3 hl rl => ?_; subst zz3
 have hi := zbR rl hns
 refine zU hi.allInts.items fun xs hx => ?_
 have hl' : s.heap.IsList l (intItems xs) := hx ▸ ⟨_, hl, rfl, n, rfl⟩
 refine sum_intListG hh hl' fun h' tk t' hk => ?_
 have e1 : ns = xs.toList.map (·.1) := by
  rw [← nums_intItems, ← hx]
  exact (show numsOf vs.toArray.toList = ns from hi.numsOf).symm
 have e2 : preSum (numAt xs) xs.size = ns.sum := by
  rw [preSum_eq, List.take_of_length_le (by simp), e1]
 rw [e2]
 exact ⟨Gr.of hk, Rd.rv Rd.int'⟩
theorem zlQ {a d : D} {va : Value} {x : Str} {t : Tok} (ra : Rv G.C X s.heap a va) (e : za3 x a = some d) : Ev G A X s (call (.builtin "str.join") [.str x t, va]) d := by
 intro E
 unfold za3 at e
 injection eS e fun ds hds e => ?_
 injection eS e fun xs hxs e => ?_
 injection eT e fun hb e => ?_
 cases e
 refine yI (ra.list hds) fun l vs n zz3 hl rl => ?_; subst zz3
 have := Nat.le_of_ble_eq_true hb
 exact PyProof.Rows.join_list (items := vs.toArray) ⟨_, hl, rfl, n, rfl⟩ (zfQ rl hxs) (Nat.le_trans this (by decide)) fun t' k => ⟨Gr.tok, Rd.rv Rd.str'⟩
theorem zmL {x y : Str} {i : Int} {t : Tok} {vs : List Value} (hr : zad (Rv G.C X s.heap) [.str y, .int i] vs) : Ev G A X s (call (.builtin "str.find") (.str x t :: vs)) (.int (Txt.find3 x y i)) := by
 refine xf hr.two fun zz0 zz1 zz2 h1 h2 => ?_; subst zz2
 refine zU h1.str fun u zz1 => ?_; subst zz1
 refine zU h2.int fun v zz1 => ?_; subst zz1
 exact fun E => SC.find3 ⟨Gr.tok, Rd.rv Rd.int'⟩
theorem zmq {x y z : Str} {t : Tok} {vs : List Value} (ho : (PySem.Builtin.Str.occurrences x y 0 x.length (x.length + 1)).isEmpty = true) (hr : zad (Rv G.C X s.heap) [.str y, .str z] vs) : Ev G A X s (call (.builtin "str.replace") (.str x t :: vs)) (.str x) := by
 refine xf hr.two fun zz0 zz1 zz2 h1 h2 => ?_; subst zz2
 refine zU h1.str fun u zz1 => ?_; subst zz1
 refine zU h2.str fun v zz1 => ?_; subst zz1
 intro E
 have gv := gives_str_replace x y z t u v fun q => by rw [ho] at q; exact nomatch q
 rw [ho] at gv
 exact call_gives F.slot_str_replace (typeIs_str _ _ _) F.entry_str_replace (F.args_str_replace_3 _ _ _) (m := .val (.str x t)) gv ⟨Gr.refl _, Rd.rv Rd.str'⟩
noncomputable def znG (x : Str) (args : List D) : Option D := match args with | [d] => za3 x d | _ => none
noncomputable def znK (x : Str) (args : List D) : Option D := match args with | [a, b] => (match a.str? with | some y => (match b.int? with | some i => some (.int (Txt.find3 x y i)) | none => none) | none => none) | _ => none
noncomputable def zny (x : Str) (args : List D) : Option D := match args with | [a, b] => two D.str? (fun y z => gd (PySem.Builtin.Str.occurrences x y 0 x.length (x.length + 1)).isEmpty (some (.str x))) a b | _ => none
theorem zlg {x : Str} {ds : List D} {d : D} (h : znG x ds = some d) : ∃ a, ds = [a] ∧ za3 x a = some d := by
 rcases ds with _ | ⟨a, _ | _⟩
 ·exact zA h
 ·exact ⟨a, rfl, h⟩
 ·exact zA h
theorem zko {x : Str} {ds : List D} {d : D} (h : znK x ds = some d) : ∃ y i, ds = [.str y, .int i] ∧ d = .int (Txt.find3 x y i) := by
 rcases ds with _ | ⟨a, _ | ⟨b, _ | _⟩⟩
 ·exact zA h
 ·exact zA h
 ·injection eS h fun y hy h => ?_
  injection eS h fun i hi h => ?_
  exact ⟨y, i, by rw [D.str_in hy, D.int_in hi], (Option.some.inj h).symm⟩
 ·exact zA h
theorem zkj {x : Str} {ds : List D} {d : D} (h : zny x ds = some d) : ∃ y z, ds = [.str y, .str z] ∧ (PySem.Builtin.Str.occurrences x y 0 x.length (x.length + 1)).isEmpty = true ∧ d = .str x := by
 rcases ds with _ | ⟨a, _ | ⟨b, _ | _⟩⟩
 ·exact zA h
 ·exact zA h
 ·refine xf (zcb h) fun y z hy hz q => ?_
  exact ⟨y, z, by rw [D.str_in hy, D.str_in hz], (zdB q).1, (Option.some.inj (zdB q).2).symm⟩
 ·exact zA h
theorem zmO {name : Str} {x : Str} {ds : List D} {d : D} (e : zbt name x ds = some d) :
  ∃ id, Slot "str" name id ∧ typeOf (.builtin id) = pure (.type "method_descriptor") ∧ ∀ (A : Around) (X : List Addr) (s : Shared) (t : Tok) (vs : List Value), zad (Rv G.C X s.heap) ds vs → Ev G A X s (call (.builtin id) (.str x t :: vs)) d := by
 replace e : (if name == "join" then znG x ds else if name == "find" then znK x ds else if name == "replace" then zny x ds else none) = some d := e
 by_cases hn : (name == ("join" : Str)) = true
 ·rw [if_pos hn] at e
  obtain rfl := beq_iff_eq.mp hn
  refine zQ (zlg e) fun a zz1 e => ?_; subst zz1
  refine ⟨_, F.slot_str_join, F.type_str_join, fun A X s t vs hr => ?_⟩
  refine zQ hr.one fun zz0 zz1 h1 => ?_; subst zz1
  exact zlQ h1 e
 rw [if_neg hn] at e
 by_cases hn : (name == ("find" : Str)) = true
 ·rw [if_pos hn] at e
  obtain rfl := beq_iff_eq.mp hn
  refine xl (zko e) fun y i zz2 zz3 => ?_; subst zz2; subst zz3
  exact ⟨_, F.slot_str_find, F.type_str_find, fun A X s t vs hr => zmL hr⟩
 rw [if_neg hn] at e
 by_cases hn : (name == ("replace" : Str)) = true
 ·rw [if_pos hn] at e
  obtain rfl := beq_iff_eq.mp hn
  refine xf (zkj e) fun y z zz2 ho zz4 => ?_; subst zz2; subst zz4
  exact ⟨_, F.slot_str_replace, F.type_str_replace, fun A X s t vs hr => zmq ho hr⟩
 rw [if_neg hn] at e
 exact zA e
theorem y4 {n : Nat} {a : Expr} {as : List Expr} {ds : List D} (ha : evL cf n K ρ (a :: as) = some ds) (env : Env) : starEach (a :: as) env = (false, eval a env) :: starEach as env := by
 cases n with
 | zero => exact zA ha
 | succ n =>
  replace ha : (match evD cf n K ρ a with | some d => (match evL cf n K ρ as with | some ds => some (d :: ds) | none => none) | none => none) = some ds := ha
  injection eS ha fun zz q ha => ?_
  exact yL q as env
noncomputable def znU (id : String) (args : List D) : Option D := if id == "len" then (match args with | [d] => zbY d | _ => none) else if id == "sum" then (match args with | [d] => zjC d | _ => none) else none
noncomputable def zkX (args : List D) : Option D := match args with | [a] => (match a.int? with | some b => some (.rng 0 b) | none => none) | [a, b] => two D.int? (fun a b => some (.rng a b)) a b | _ => none
theorem zlN {ds : List D} {d : D} (h : zkX ds = some d) : (∃ b, ds = [.int b] ∧ d = .rng 0 b) ∨ ∃ a b, ds = [.int a, .int b] ∧ d = .rng a b := by
 rcases ds with _ | ⟨a, _ | ⟨b, _ | _⟩⟩
 ·exact zA h
 ·injection eS h fun y hy h => ?_
  exact .inl ⟨y, by rw [D.int_in hy], (Option.some.inj h).symm⟩
 ·refine xf (zcb h) fun y z hy hz q => ?_
  exact .inr ⟨y, z, by rw [D.int_in hy, D.int_in hz], (Option.some.inj q).symm⟩
 ·exact zA h
theorem zli (hh : A.handled = none) {id : String} {ds : List D} {vs : List Value} {d : D} (hd : znU id ds = some d) (r : zad (Rv G.C X s.heap) ds vs) : Ev G A X s (call (.builtin id) vs) d := by
 unfold znU at hd
 by_cases hn : (id == "len") = true
 ·rw [if_pos hn] at hd
  obtain rfl := beq_iff_eq.mp hn
  rcases ds with _ | ⟨a, _ | _⟩
  ·exact zA hd
  ·refine zQ r.one fun zz0 zz1 h1 => ?_; subst zz1
   exact zmg h1 hd
  ·exact zA hd
 rw [if_neg hn] at hd
 by_cases hn : (id == "sum") = true
 ·rw [if_pos hn] at hd
  obtain rfl := beq_iff_eq.mp hn
  rcases ds with _ | ⟨a, _ | _⟩
  ·exact zA hd
  ·refine zQ r.one fun zz0 zz1 h1 => ?_; subst zz1
   exact zmK hh h1 hd
  ·exact zA hd
 rw [if_neg hn] at hd
 exact zA hd
theorem zlc (fresh : s.heap.objs.size ∉ X) {ds : List D} {vs : List Value} {d : D} (hd : zkX ds = some d) (r : zad (Rv G.C X s.heap) ds vs) : Ev G A X s (call (.type "range") vs) d := by
 intro E
 rcases zlN hd with ⟨b, rfl, rfl⟩ | ⟨a, b, rfl, rfl⟩
 ·refine zQ r.one fun zz0 zz1 h1 => ?_; subst zz1
  refine zU h1.int fun t zz1 => ?_; subst zz1
  refine call_range_1 ⟨Gr.push, Rd.rv ?_⟩
  exact ⟨_, _, _, _, rfl, fresh, Heap.get?_push_size _ rfl⟩
 ·refine xf r.two fun zz0 zz1 zz2 h1 h2 => ?_; subst zz2
  refine zU h1.int fun t zz1 => ?_; subst zz1
  refine zU h2.int fun u zz1 => ?_; subst zz1
  refine call_range_2 ⟨Gr.push, Rd.rv ?_⟩
  exact ⟨_, _, _, _, rfl, fresh, Heap.get?_push_size _ rfl⟩
theorem zkY (ok : zZ G cf k) (c : Cxt G k A X s env K ρ) {f d : D} {fv : Value} {ds : List D} {e : Expr} {rest : List Expr} {pos : Pos}
  (he : starEach (e :: rest) env = (false, eval e env) :: starEach rest env) (hp : (backTo pos (starEach rest env)).any (·.1) = false)
  (hf : Rd G.C X s.heap f fv) (hd : yd cf f ds = some d) (ha : ds.all (zbl f) = true) (ls : LsS G k K ρ (e :: rest) ds) :
  Ev G A X s (callWith pos fv [] (backTo pos (starEach (e :: rest) env)) []) d := by
 intro E
 have args := ls A X s env pos c E
 cases f with
 | opq a =>
  have := (Rd.rv hf).opq; subst this
  refine zjL (ok.fn a ds d hd) fun o fd ho hdat nT h => ?_
  exact callWith_def (o := o) (fd := fd) hdat (wpAny_mono args (fun vs s₁ h₁ => ⟨(c.gr h₁.1).cx.hb _ _ ho, wpAny_mono (h A X s₁ vs (c.gr h₁.1).room (c.gr h₁.1).cx (c.gr h₁.1).xok (yA h₁.2 ha) E) (fun v s₂ h₂ => ⟨h₁.1.trans h₂.1, h₂.2.rv⟩) fun zz zz e => e⟩) fun zz zz e => e) he
 | blt id =>
  have := (Rd.rv hf).blt; subst this
  exact callWith_builtin1 (wpAny_mono args (fun vs s₁ h₁ => (zli c.room.hh hd h₁.2).up h₁.1) fun zz zz e => e) he hp
 | typ n =>
  have := (Rd.rv hf).typ; subst this
  refine PyProof.Rows.callWith_type1 (wpAny_mono args (fun vs s₁ h₁ => ?_) fun zz zz e => e) he hp
  replace hd : (if n == "range" then zkX ds else none) = some d := hd
  by_cases hn : (n == "range") = true
  ·rw [if_pos hn] at hd
   obtain rfl := beq_iff_eq.mp hn
   exact (zlc ((c.gr h₁.1).xok.none (xO (o := { cls := .none, data := .fields #[] }))) hd h₁.2).up h₁.1
  ·rw [if_neg hn] at hd
   exact zA hd
 | _ => exact zA hd
end
end
section
noncomputable def TlS (G : Gd) (k : Nat) (K : Kn) (ρ : Rho) (es : List Expr) (b : Bool) : Prop := ∀ A X s env, Cxt G k A X s env K ρ → ∀ E, wpAny (model G.prog G.w) A (zf7 es env) (fun c s' => c = b ∧ Gr G s s') E s
noncomputable def AllS (G : Gd) (k : Nat) (K : Kn) (ρ : Rho) (es : List Expr) (b : Bool) : Prop := ∀ A X s env, Cxt G k A X s env K ρ → ∀ E, wpAny (model G.prog G.w) A (allTrue .And es env) (fun c s' => c = b ∧ Gr G s s') E s
noncomputable def AnyS (G : Gd) (k : Nat) (K : Kn) (ρ : Rho) (es : List Expr) (b : Bool) : Prop := ∀ A X s env, Cxt G k A X s env K ρ → ∀ E, wpAny (model G.prog G.w) A (allTrue .Or es env) (fun c s' => c = b ∧ Gr G s s') E s
noncomputable def FsS (G : Gd) (k : Nat) (K : Kn) (ρ : Rho) (es : List Expr) (xs : List Str) : Prop := ∀ A X s env acc (Q : Str → Shared → Prop) E, Cxt G k A X s env K ρ → acc.length + z3 xs ≤ sizeLine → (∀ s', Gr G s s' → Q (xs.foldl (· ++ ·) acc) s') →
 Joins (model G.prog G.w) A E (evalEach es env) acc Q s
structure xN (G : Gd) (cf : Cf) (k n : Nat) : Prop where
 ev : ∀ K ρ e d, evD cf n K ρ e = some d → EvS G k K ρ e d
 ts : ∀ K ρ e b, tsD cf n K ρ e = some b → TsS G k K ρ e b
 ls : ∀ K ρ es ds, evL cf n K ρ es = some ds → LsS G k K ρ es ds
 tl : ∀ K ρ es b, tsL cf n K ρ es = some b → TlS G k K ρ es b
 all : ∀ K ρ es b, zb1 cf n K ρ es = some b → AllS G k K ρ es b
 any : ∀ K ρ es b, zbo cf n K ρ es = some b → AnyS G k K ρ es b
 fs : ∀ K ρ es xs, fsD cf n K ρ es = some xs → FsS G k K ρ es xs
section
variable {G : Gd} {k n : Nat} {cf : Cf} {K : Kn} {ρ : Rho}
theorem TsS.post {e : Expr} {b : Bool} (h : TsS G k K ρ e b) {A X s env E} {Q : Bool → Shared → Prop} (c : Cxt G k A X s env K ρ) (hq : ∀ s', Gr G s s' → Q b s') : wpAny (model G.prog G.w) A (isTrue e env (eval e env)) Q E s :=
 wpAny_mono (h A X s env c E) (fun c s' h' => by refine zk h' fun zz0 g => ?_; subst zz0; exact hq s' g) fun zz zz e => e
theorem zkO (I : xN G cf k n) {l r : Expr} {op : CmpOp} {p : Pos} {b : Bool} (h : zhX (evD cf n K ρ) l op r = some b) : TsS G k K ρ (.Compare l [op] [r] p) b := by
 intro A X s env c E
 unfold zhX at h
 injection eS h fun a ha h => ?_
 injection eS h fun b' hb h => ?_
 refine wpAny_isTrue_Compare1 ((I.ev _ _ _ _ ha A X s env c).post fun va s₁ g₁ ra => ?_) (zfr hb op)
 have c₁ := c.gr g₁
 refine (I.ev _ _ _ _ hb A X s₁ env c₁).post fun vb s₂ g₂ rb => ?_
 have c₂ := c₁.gr g₂
 refine ziL (by have := c.room.units; lia) op (ra.gr c₁.xok.tabs c₁.cx g₂) rb h _ _ ?_
 exact wpAny_truthy_bool ⟨rfl, g₁.trans g₂⟩
theorem ziI (I : xN G cf k n) {e : Expr} (he : ∀ env whole, isTrue e env whole = (do let v ← whole; standAt e.pos; holding [v] (truthy v))) {b : Bool} (h : (match evD cf n K ρ e with | some a => zan a | none => none) = some b) : TsS G k K ρ e b := by
 intro A X s env c E
 injection eS h fun a ha h => ?_
 refine isTrue_plain ((I.ev _ _ _ _ ha A X s env c).post fun va s₁ g₁ ra => ?_) (he _ _)
 exact zf3 ra h _ _ fun s' g => ⟨rfl, g₁.trans g⟩
theorem zoJ (ok : zZ G cf k) (I : xN G cf k n) (e : Expr) (b : Bool) (h : tsX (evD cf n K ρ) (tsD cf n K ρ) (zb1 cf n K ρ) (zbo cf n K ρ) e = some b) : TsS G k K ρ e b := by
 cases e with
 | UnaryOp op x p =>
  cases op with
  | Not =>
   replace h : (match tsD cf n K ρ x with | some b => some (!b) | none => none) = some b := h
   injection eS h fun b' hb h => ?_
   cases h
   exact fun A X s env c E => isTrue_not ((I.ts _ _ _ _ hb).post c fun s' g => ⟨rfl, g⟩)
  | _ => exact zA h
 | BoolOp op es p =>
  cases op with
  | And => exact fun A X s env c E => wpAny_isTrue_BoolOp (I.all _ _ _ _ h A X s env c E)
  | Or => exact fun A X s env c E => wpAny_isTrue_BoolOp (I.any _ _ _ _ h A X s env c E)
 | Compare l ops rs p =>
  rcases ops with _ | ⟨op, _ | _⟩
  ·exact zA h
  ·rcases rs with _ | ⟨r, _ | _⟩
   ·exact zA h
   ·exact zkO I h
   ·exact zA h
  ·exact zA h
 | Name x p => exact ziI I (fun zz zz => rfl) h
 | Call f as ks p => exact ziI I (fun zz zz => rfl) h
 | _ => exact zA h
theorem zox (I : xN G cf k n) (es : List Expr) (ds : List D) (h : evL cf (n + 1) K ρ es = some ds) : LsS G k K ρ es ds := by
 intro A X s env pos c E
 cases es with
 | nil =>
  replace h : some [] = some ds := h
  cases h; exact args_nil ⟨Gr.refl _, .nil⟩
 | cons e es =>
  replace h : (match evD cf n K ρ e with | some d => (match evL cf n K ρ es with | some ds => some (d :: ds) | none => none) | none => none) = some ds := h
  injection eS h fun d hd h => ?_
  injection eS h fun ds' hds h => ?_
  cases h
  refine args_cons ((I.ev _ _ _ _ hd A X s env c).post fun v s₁ g₁ r => ?_) (yL hd es env)
  have c₁ := c.gr g₁
  refine wpAny_mono (I.ls _ _ _ _ hds A X s₁ env pos c₁ E) (fun vs s₂ h₂ => ?_) fun zz zz e => e
  exact ⟨g₁.trans h₂.1, .cons (r.gr c₁.xok.tabs c₁.cx h₂.1) h₂.2⟩
theorem znf (I : xN G cf k n) (es : List Expr) (b : Bool) (h : zb1 cf (n + 1) K ρ es = some b) : AllS G k K ρ es b := by
 intro A X s env c E
 cases es with
 | nil =>
  replace h : some true = some b := h
  cases h; exact wpAny_allTrue_And_nil ⟨rfl, Gr.refl _⟩
 | cons e es =>
  replace h : (match tsD cf n K ρ e with | some true => zb1 cf n K ρ es | some false => some false | none => none) = some b := h
  refine wpAny_allTrue_And_cons ?_
  split at h
  ·rename_i hd
   refine (I.ts _ _ _ _ hd).post c fun s' g => ?_
   rw [if_pos rfl]
   exact wpAny_mono (I.all _ _ _ _ h A X s' env (c.gr g) E) (fun c s₂ h₂ => ⟨h₂.1, g.trans h₂.2⟩) fun zz zz e => e
  ·rename_i hd
   cases h
   refine (I.ts _ _ _ _ hd).post c fun s' g => ?_
   rw [if_neg Bool.false_ne_true]
   exact ⟨rfl, g⟩
  ·exact zA h
theorem zm1 (I : xN G cf k n) (es : List Expr) (b : Bool) (h : zbo cf (n + 1) K ρ es = some b) : AnyS G k K ρ es b := by
 intro A X s env c E
 cases es with
 | nil =>
  replace h : some false = some b := h
  cases h; exact wpAny_allTrue_Or_nil ⟨rfl, Gr.refl _⟩
 | cons e es =>
  replace h : (match tsD cf n K ρ e with | some true => some true | some false => zbo cf n K ρ es | none => none) = some b := h
  refine wpAny_allTrue_Or_cons ?_
  split at h
  ·rename_i hd
   cases h
   refine (I.ts _ _ _ _ hd).post c fun s' g => ?_
   rw [if_pos rfl]
   exact ⟨rfl, g⟩
  ·rename_i hd
   refine (I.ts _ _ _ _ hd).post c fun s' g => ?_
   rw [if_neg Bool.false_ne_true]
   exact wpAny_mono (I.any _ _ _ _ h A X s' env (c.gr g) E) (fun c s₂ h₂ => ⟨h₂.1, g.trans h₂.2⟩) fun zz zz e => e
  ·exact zA h
theorem zeN {A : Around} {s s₀ : Shared} {env : Env} {E} : ∀ (es : List Expr), wpAny (model G.prog G.w) A (pure false : Sem Bool) (fun c s' => c = false ∧ Gr G s₀ s') E s → wpAny (model G.prog G.w) A (forIn es false fun c r => if r = true then do let ok ← isTrue c env (eval c env); pure (ForInStep.yield ok) else pure (ForInStep.yield r)) (fun c s' => c = false ∧ Gr G s₀ s') E s
 | [], h => h
 | e :: es, h => by
  rw [List.forIn_cons, if_neg Bool.false_ne_true, pure_bind]
  exact zeN es h
theorem zoO (I : xN G cf k n) (es : List Expr) (b : Bool) (h : tsL cf (n + 1) K ρ es = some b) : TlS G k K ρ es b := by
 intro A X s env c E
 cases es with
 | nil =>
  replace h : some true = some b := h
  cases h; exact wpAny_pure ⟨rfl, Gr.refl _⟩
 | cons e es =>
  replace h : (match tsD cf n K ρ e with | some true => tsL cf n K ρ es | some false => some false | none => none) = some b := h
  unfold zf7
  rw [List.forIn_cons, if_pos rfl]
  refine wpAny_bind ?_
  split at h
  ·rename_i hd
   refine wpAny_bind ((I.ts _ _ _ _ hd).post c fun s' g => wpAny_pure ?_)
   exact wpAny_mono (I.tl _ _ _ _ h A X s' env (c.gr g) E) (fun c s₂ h₂ => ⟨h₂.1, g.trans h₂.2⟩) fun zz zz e => e
  ·rename_i hd
   cases h
   refine wpAny_bind ((I.ts _ _ _ _ hd).post c fun s' g => wpAny_pure ?_)
   exact zeN es (wpAny_pure ⟨rfl, g⟩)
  ·exact zA h
theorem zba (x : Str) (xs : List Str) : z3 (x :: xs) = x.length + z3 xs := by simp [z3]
theorem zpo {e : Expr} {x : Str} (h : fsP e = some (.inl x)) : ∃ k p, e = .Constant (.str x) k p := by
 cases e with
 | Constant c k p =>
  cases c with
  | str y => cases h; exact ⟨_, _, rfl⟩
  | _ => exact zA h
 | FormattedValue e i s p => rcases i with _ | _ | _ <;> rcases s with _ | _ <;> first | exact zA h | cases h
 | _ => exact zA h
theorem zpx {e v : Expr} (h : fsP e = some (.inr v)) : ∃ p, e = .FormattedValue v (-1) none p := by
 cases e with
 | Constant c k p => cases c <;> first | exact zA h | cases h
 | FormattedValue e i s p => rcases i with _ | _ | _ <;> rcases s with _ | _ <;> first | exact zA h | (cases h; exact ⟨_, rfl⟩)
 | _ => exact zA h
theorem zoB (I : xN G cf k n) (es : List Expr) (xs : List Str) (h : fsD cf (n + 1) K ρ es = some xs) : FsS G k K ρ es xs := by
 intro A X s env acc Q E c hb hq
 cases es with
 | nil =>
  replace h : some [] = some xs := h
  cases h; exact hq s (Gr.refl _)
 | cons e es =>
  replace h : (match fsP e with
   | some (.inl x) => (match fsD cf n K ρ es with | some xs => some (x :: xs) | none => none)
   | some (.inr e) => (match evD cf n K ρ e with | some (.str x) => (match fsD cf n K ρ es with | some xs => some (x :: xs) | none => none) | _ => none)
   | none => none) = some xs := h
  set_option tactic.hygienic true in split at h
  ·rename_i x hp
   refine zaP (zpo hp) fun kk p zz2 => ?_; subst zz2
   injection eS h fun ys hys h => ?_
   set_option tactic.hygienic true in cases h
   rw [zba] at hb
   refine Calls.Constant_str ⟨x, _, rfl, by rw [strLen_append]; lia, ?_⟩
   exact I.fs _ _ _ _ hys A X _ env _ Q E (c.gr Gr.tok) (by rw [strLen_append, Nat.add_assoc]; exact hb) fun s' g => hq s' (Gr.tok.trans g)
  ·rename_i v hp
   refine zU (zpx hp) fun p zz1 => ?_; subst zz1
   set_option tactic.hygienic true in split at h
   ·rename_i x hx
    injection eS h fun ys hys h => ?_
    cases h
    rw [zba, ← Nat.add_assoc, ← strLen_append] at hb
    show wpAny _ _ (eval _ env) _ _ _
    refine wpAny_FormattedValue_plain ((I.ev _ _ _ _ hx A X s env c).post fun vv s₁ g₁ r => ?_)
    refine zU r.str fun t zz1 => ?_; subst zz1
    have fin : ∀ s' t', Gr G s₁ s' → ∃ y t, Value.str x t' = .str y t ∧ (acc ++ y).length ≤ sizeLine ∧ Joins (model G.prog G.w) A E (evalEach es env) (acc ++ y) Q s' := fun s' t' g =>
     ⟨x, _, rfl, Nat.le_trans (Nat.le_add_right _ _) hb, I.fs _ _ _ _ hys A X _ env _ Q E (c.gr (g₁.trans g)) hb fun s₂ g₂ => hq s₂ (g₁.trans (g.trans g₂))⟩
    exact wpAny_formatField_str (fin _ _ (Gr.refl _)) (fin _ _ Gr.tok) (Nat.le_trans (Nat.le_trans (Nat.le_add_left _ _) (Nat.le_of_eq (strLen_append _ _).symm)) (Nat.le_trans (Nat.le_add_right _ _) hb))
   ·exact zA h
  ·exact zA h
end
end
section
section
variable {G : Gd} {k n : Nat} {cf : Cf} {K : Kn} {ρ : Rho}
theorem Rv.rd' {C X h d v} (r : Rv C X h d v) (p : ∀ ds, d ≠ .own ds) : Rd C X h d v := by cases d <;> first | exact r | exact absurd rfl (p _)
theorem zdg {G : Gd} {X : List Addr} {h : Heap} (hX : XOk G X h) : h.objs.size ∉ X := hX.none (xO (o := { cls := .none, data := .fields #[] }))
theorem zfI (I : xN G cf k n) (o : Option Expr) (q : Option Int) (ho : zaQ (evD cf n K ρ) o = some q) {A X s env} {E} {Q : Value → Shared → Prop} (c : Cxt G k A X s env K ρ) (hQ : ∀ (pq : Option (Int × Tok)) s₃, Gr G s s₃ → pq.map (·.1) = q → Q (partValue pq) s₃) :
  wpAny (model G.prog G.w) A (evalPart o env) Q E s := by
 cases o with
 | none =>
  replace ho : some none = some q := ho
  cases ho; exact evalPart_none_step (hQ none s (Gr.refl _) rfl)
 | some e =>
  replace ho : (match evD cf n K ρ e with | some (.int i) => some (some i) | _ => none) = some q := ho
  set_option tactic.hygienic true in split at ho
  ·rename_i i hi'
   cases ho
   refine evalPart_some_step ((I.ev _ _ _ _ hi' A X s env c).post fun v s₃ g₃ r => ?_)
   refine zU r.int fun t zz1 => ?_; subst zz1
   exact hQ (some (i, t)) s₃ g₃ rfl
  ·exact zA ho
theorem zjY (I : xN G cf k n) {v : Expr} {lo hi : Option Expr} {p p' : Pos} {a d : D} {l h : Option Int} (ha : evD cf n K ρ v = some a)
  (hl : zaQ (evD cf n K ρ) lo = some l) (hh : zaQ (evD cf n K ρ) hi = some h)
  (e : xS a l h = some d) : EvS G k K ρ (.Subscript v (.Slice lo hi none p) p') d := by
 intro A X s env c E
 refine PyProof.Rows.Subscript_ ((I.ev _ _ _ _ ha A X s env c).post fun va s₁ g₁ ra => ?_)
 have c₁ := c.gr g₁
 refine wpAny_Slice (zfI I lo l hl c₁ fun pl s₂ g₂ el => zfI I hi h hh (c₁.gr g₂) fun ph s₃ g₃ eh => evalPart_none_step ?_)
 have c₃ := (c₁.gr g₂).gr g₃
 have g23 := g₂.trans g₃
 exact wpAny_mono (zjB (plo := pl) (phi := ph) c₃.xok c₃.cx (ra.gr c₁.xok.tabs c₁.cx g23) (by rw [el, eh]; exact e) (fun q => rfl) E) (fun v s' h => ⟨(g₁.trans g23).trans h.1, h.2⟩) fun zz zz e => e
theorem zld (ok : zZ G cf k) (I : xN G cf k n) {elt iter : Expr} {x : Str} {px pos : Pos} {ifs : List Expr} {csc : Scope} {d : D} {ds ys : List D} (hg : z8 csc.names K ρ x = true) (hk : csc.kind = .function)
  (hi : evD cf n K ρ iter = some d) (hd : zu d = some ds) (hc : xQ (fun d => tsL cf n (yD csc.names K) ((x, d) :: ρ.filter fun q => xE csc.names q.1) ifs) (fun d => evD cf n (yD csc.names K) ((x, d) :: ρ.filter fun q => xE csc.names q.1) elt) ds = some ys) :
  EvS G k K ρ (.ListComp elt [⟨.Name x px, iter, ifs, 0⟩] csc pos) (.lst ys) := by
 intro A X s env c
 refine zc1 (xP hg) fun h1 h2 h3 h4 => ?_
 refine zQ (zam csc c.env hg) fun cl hcl hlk => ?_
 refine zm8 _ _ hc c.xok c.cx.ti hcl h1 hk h2 h3 ?_ ?_ ?_ (zeM hd) (yi hi env)
 ·intro E
  refine (I.ev _ _ _ _ hi A X s env c).post fun v s₁ g₁ r => ?_
  have c₁ := c.gr g₁
  refine wpAny_mono (zbO c₁.room.hh c₁.xok c₁.cx.ti (r.rd' (fun l q => by subst q; exact zA hd)) hd E) (fun it s₂ h₂ => ?_) fun zz zz e => e
  refine za4 h₂ fun I' fp wr zz3 g₂ up S => ?_; subst zz3
  exact ⟨I', fp, wr, s₁.heap, rfl, g₁.trans g₂, c₁.xok, g₁.heap, up, S⟩
 ·intro C Xi d' v s₃ m₃ b E' hC hXs hXi ht g ti hX hn hm hr
  exact I.tl _ _ _ _ ht A Xi s₃ _ (za2 c hg hk hlk hXs hXi g ti hX hn hm hr) E'
 ·intro C Xi d' v s₃ m₃ y E' hC hXs hXi ht hy g ti hX hn hm hr
  exact I.ev _ _ _ _ hy A Xi s₃ _ (za2 c hg hk hlk hXs hXi g ti hX hn hm hr) E'
theorem zk0 (ok : zZ G cf k) (I : xN G cf k n) {f : Str} {p pos : Pos} {a : Expr} {as : List Expr} {fd d : D} {ds : List D} (hl : ρ.lookup f = none) (hf : evD cf n K ρ (.Name f p) = some fd) (ha : evL cf n K ρ (a :: as) = some ds)
  (hok : ds.all (zbl fd) = true) (hd : yd cf fd ds = some d) : EvS G k K ρ (.Call (.Name f p) (a :: as) [] pos) d := by
 intro A X s env c E
 refine PyProof.Rows.Call_ ((I.ev _ _ _ _ hf A X s env c).post fun fv s₁ g₁ r => ?_)
 have c₁ := c.gr g₁
 have st := y4 ha env
 have pl := (zao ha pos env).2
 rw [st] at pl
 exact (zkY ok c₁ st (by simpa [backTo] using pl) (r.rd' fun l q => by subst q; exact zA hd) hd hok (I.ls _ _ _ _ ha)).up g₁
theorem zlv (I : xN G cf k n) {o a : Expr} {name : Str} {apos pos : Pos} {as : List Expr} {x : Str} {d : D} {ds : List D} (hc : (zgC o && (apos.endLine == pos.line) && Nat.ble (as.length) 20) = true)
  (ho : evD cf n K ρ o = some (.str x)) (ha : evL cf n K ρ (a :: as) = some ds) (hd : zbt name x ds = some d) : EvS G k K ρ (.Call (.Attribute o name apos) (a :: as) [] pos) d := by
 intro A X s env c E
 simp only [Bool.and_eq_true] at hc
 refine zk hc fun zz0 h3 => ?_; rcases zz0 with ⟨h1, h2⟩
 have h3 := Nat.le_of_ble_eq_true h3
 have st := y4 ha env
 have pl := zao ha pos env
 refine wpAny_Call_method_lateS (zfV h1 _ _ _) ?_ h2 ((I.ev _ _ _ _ ho A X s env c).post fun ov s₁ g₁ r => ?_)
 ·rw [pl.1]
  exact decide_eq_true (show as.length + 1 + 0 + 0 < 30 from Nat.lt_of_le_of_lt (Nat.succ_le_succ h3) (by decide : 21 < 30))
 ·have c₁ := c.gr g₁
  refine zU r.str fun t zz1 => ?_; subst zz1
  have pl2 := pl.2
  rw [st] at pl2 ⊢
  have args := I.ls _ _ _ _ ha A X s₁ env pos c₁ E
  rw [st] at args
  refine x2 (zmO (G := G) hd) fun id sl ty hcall => ?_
  refine ⟨"str", id, F.plainAttrs_str, sl, ty, typeIs_str _ _ _, (fun zz e => nomatch e), callWith_builtin pl2 (evalArgs_plain (wpAny_mono args (fun vs s₂ h₂ => ?_) fun zz zz e => e))⟩
  exact (hcall A X s₂ t vs h₂.2).up (g₁.trans h₂.1)
end
end
section
section
variable {G : Gd} {k n : Nat} {cf : Cf} {K : Kn} {ρ : Rho}
theorem zeX {ds : List D} (h : (ds.all D.pure && Nat.ble ds.length zK) = true) : ds.all D.pure = true ∧ ds.length ≤ sizeLine := by
 rw [Bool.and_eq_true] at h
 exact ⟨h.1, (zaN h.2).2.2⟩
theorem zkJ (ok : zZ G cf k) {x : Str} {p : Pos} {d : D} (h : yb cf K ρ x = some d) : EvS G k K ρ (.Name x p) d := by
 intro A X s env c
 unfold yb at h
 split at h
 ·exact zA h
 ·rename_i hn
  simp only [Bool.or_eq_true, not_or, Bool.not_eq_true] at hn
  set_option tactic.hygienic true in split at h
  ·rename_i d' hl
   set_option tactic.hygienic true in split at h
   ·exact zA h
   ·exact zA h
   ·rename_i h1 h2
    cases h
    exact ziE c x p hl h1 h2 hn.1 hn.2
  ·split at h
   ·rename_i hk
    exact znn ok c x p hk h hn.1
   ·exact zA h
theorem zl3 {cc : Const} {kk : Nat} {p : Pos} {d : D} (h : znv cc = some d) : EvS G k K ρ (.Constant cc kk p) d := by
 intro A X s env c E
 cases cc with
 | int i => replace h : some _ = some d := h; cases h; exact wpAny_Constant_int ⟨Gr.tok, Rd.rv Rd.int'⟩
 | str i => replace h : some _ = some d := h; cases h; exact Calls.Constant_str ⟨Gr.tok, Rd.rv Rd.str'⟩
 | none => replace h : some _ = some d := h; cases h; exact PyProof.Rows.Constant_none ⟨Gr.refl _, Rd.rv Rd.none'⟩
 | bool b => replace h : some _ = some d := h; cases h; exact PyProof.Rows.Constant_bool ⟨Gr.refl _, Rd.rv Rd.bool'⟩
 | _ => exact zA h
theorem zng (I : xN G cf k n) {l r : Expr} {op : Operator} {p : Pos} {d : D} (h : zep (evD cf n K ρ) l op r = some d) : EvS G k K ρ (.BinOp l op r p) d := by
 intro A X s env c E
 unfold zep at h
 injection eS h fun a ha h => ?_
 injection eS h fun b hb h => ?_
 refine wpAny_BinOp ((I.ev _ _ _ _ ha A X s env c).post fun va s₁ g₁ ra => ?_)
 have c₁ := c.gr g₁
 refine (I.ev _ _ _ _ hb A X s₁ env c₁).post fun vb s₂ g₂ rb => ?_
 have c₂ := c₁.gr g₂
 exact (zmj c₂.xok c₂.cx op (ra.gr c₁.xok.tabs c₁.cx g₂) rb h).up (g₁.trans g₂)
theorem zob {a d : D} (h : unD .USub a = some d) : ∃ i, a = .int i ∧ d = .int (-i) := by
 cases a with
 | int i =>
  replace h : some _ = some d := h
  cases h; exact ⟨i, rfl, rfl⟩
 | _ => exact zA h
theorem zoy (I : xN G cf k n) {x : Expr} {op : UnaryOp} {p : Pos} {d : D} (h : evUn (evD cf n K ρ) op x = some d) : EvS G k K ρ (.UnaryOp op x p) d := by
 cases op with
 | USub =>
  replace h : (match evD cf n K ρ x with | some a => unD .USub a | none => none) = some d := h
  injection eS h fun a ha h => ?_
  refine zQ (zob h) fun i zz1 zz2 => ?_; subst zz1; subst zz2
  intro A X s env c E
  refine UnaryOp_ ((I.ev _ _ _ _ ha A X s env c).post fun va s₁ g₁ ra => ?_)
  refine zU ra.int fun t zz1 => ?_; subst zz1
  exact P.neg_int ⟨g₁.trans Gr.tok, Rd.rv Rd.int'⟩
 | _ => exact zA h
theorem zlZ (I : xN G cf k n) {t b o : Expr} {p : Pos} {d : D} (h : zcR (evD cf n K ρ) (tsD cf n K ρ) t b o = some d) : EvS G k K ρ (.IfExp t b o p) d := by
 intro A X s env c E
 unfold zcR at h
 refine IfExp_ ?_
 split at h
 ·rename_i ht
  refine (I.ts _ _ _ _ ht).post c fun s₁ g₁ => ?_
  rw [if_pos rfl]
  exact (I.ev _ _ _ _ h A X s₁ env (c.gr g₁)).up g₁
 ·rename_i ht
  refine (I.ts _ _ _ _ ht).post c fun s₁ g₁ => ?_
  rw [if_neg Bool.false_ne_true]
  exact (I.ev _ _ _ _ h A X s₁ env (c.gr g₁)).up g₁
 ·exact zA h
theorem znh (I : xN G cf k n) {op : BoolOp} {es : List Expr} {p : Pos} {d : D} (h : znM (evD cf n K ρ) op es = some d) : EvS G k K ρ (.BoolOp op es p) d := by
 cases op with
 | Or => exact zA h
 | And =>
  rcases es with _ | ⟨a, _ | ⟨b, _ | _⟩⟩
  ·exact zA h
  ·exact zA h
  ·replace h : (match evD cf n K ρ a with | some va => (match zan va with | some true => evD cf n K ρ b | some false => some va | none => none) | none => none) = some d := h
   intro A X s env c E
   injection eS h fun va ha h => ?_
   dsimp only at h
   refine BoolOp_and ((I.ev _ _ _ _ ha A X s env c).post fun v s₁ g₁ r => ?_)
   have c₁ := c.gr g₁
   split at h
   ·rename_i ht
    refine zf3 r ht _ _ fun s₂ g₂ => ?_
    rw [if_pos rfl]
    exact BoolOp_one ((I.ev _ _ _ _ h A X s₂ env (c₁.gr g₂)).up (g₁.trans g₂))
   ·rename_i ht
    cases h
    refine zf3 r ht _ _ fun s₂ g₂ => ?_
    rw [if_neg Bool.false_ne_true]
    exact ⟨g₁.trans g₂, r.gr c₁.xok.tabs c₁.cx g₂⟩
   ·exact zA h
  ·exact zA h
theorem zmm (I : xN G cf k n) {l : Expr} {ops : List CmpOp} {rs : List Expr} {p : Pos} {d : D} (h : znD (evD cf n K ρ) l ops rs = some d) : EvS G k K ρ (.Compare l ops rs p) d := by
 rcases ops with _ | ⟨op, _ | _⟩
 ·exact zA h
 ·rcases rs with _ | ⟨r, _ | _⟩
  ·exact zA h
  ·replace h : (match evD cf n K ρ l with | some a => (match evD cf n K ρ r with | some b => (match yB op a b with | some c => some (.bool c) | none => none) | none => none) | none => none) = some d := h
   intro A X s env c E
   injection eS h fun a ha h => ?_
   injection eS h fun b' hb h => ?_
   injection eS h fun cc hc h => ?_
   cases h
   refine wpAny_Compare1 ((I.ev _ _ _ _ ha A X s env c).post fun va s₁ g₁ ra => ?_) (zfr hb op)
   have c₁ := c.gr g₁
   refine (I.ev _ _ _ _ hb A X s₁ env c₁).post fun vb s₂ g₂ rb => ?_
   exact ziL (by have := c.room.units; lia) op (ra.gr c₁.xok.tabs c₁.cx g₂) rb hc _ _ ⟨g₁.trans g₂, Rd.rv Rd.bool'⟩
  ·exact zA h
 ·exact zA h
theorem zkq {el : Option (List D)} {mk : List D → D} {d : D} (h : (match el with | some ds => (match (ds.all D.pure && Nat.ble ds.length zK) with | true => some (mk ds) | false => none) | none => none) = some d) : ∃ ds, el = some ds ∧ (ds.all D.pure && Nat.ble ds.length zK) = true ∧ mk ds = d := by
 injection eS h fun ds hds h => ?_
 injection eT h fun hp h => ?_
 exact ⟨ds, hds, hp, Option.some.inj h⟩
theorem zmw (I : xN G cf k n) {es : List Expr} {kk : Nat} {p : Pos} {d : D} (h : zfX (evL cf n K ρ) es = some d) : EvS G k K ρ (.Tuple es kk p) d := by
 refine x2 (zkq (mk := .tup) h) fun ds hds hp zz3 => ?_; subst zz3
 intro A X s env c E
 refine zk (zeX hp) fun h1 h2 => ?_
 refine Tuple_ (wpAny_mono (I.ls _ _ _ _ hds A X s env p c E) (fun vs s₁ h₁ => ?_) fun zz zz e => e)
 have c₁ := c.gr h₁.1
 have rl := yA h₁.2 h1
 refine wpAny_newObj_type ⟨h₁.1.trans Gr.push', Rd.rv (Rd.tup' (vs := vs) (n := 0) (zdg c₁.xok) (Heap.get?_push_size _ rfl) (rl.gr c₁.xok.tabs Gr.push'))⟩ ?_
 show vs.toArray.size ≤ sizeLine
 rw [List.size_toArray, rl.length]; exact h2
theorem zms (I : xN G cf k n) {es : List Expr} {p : Pos} {d : D} (h : ziD (evL cf n K ρ) es = some d) : EvS G k K ρ (.List es p) d := by
 refine x2 (zkq (mk := .lst) h) fun ds hds hp zz3 => ?_; subst zz3
 intro A X s env c E
 refine zk (zeX hp) fun h1 h2 => ?_
 refine List_ (wpAny_mono (I.ls _ _ _ _ hds A X s env p c E) (fun vs s₁ h₁ => ?_) fun zz zz e => e)
 have c₁ := c.gr h₁.1
 have rl := yA h₁.2 h1
 refine wpAny_newObj_type ⟨h₁.1.trans Gr.push', Rd.rv (Rd.lst' (vs := vs) (n := 0) (zdg c₁.xok) (Heap.get?_push_size _ rfl) (rl.gr c₁.xok.tabs Gr.push'))⟩ ?_
 show vs.toArray.size ≤ sizeLine
 rw [List.size_toArray, rl.length]; exact h2
theorem zoh {v i : Expr} {d : D} {ev : Expr → Option D} (h : zdm ev v i = some d) : ∃ a b, ev v = some a ∧ ev i = some b ∧ x7 a b = some d := by
 unfold zdm at h
 injection eS h fun a ha h => ?_
 injection eS h fun b hb h => ?_
 exact ⟨a, b, ha, hb, h⟩
theorem zmk (I : xN G cf k n) {v i : Expr} {p : Pos} {d : D} (h : zdm (evD cf n K ρ) v i = some d) : EvS G k K ρ (.Subscript v i p) d := by
 refine xf (zoh h) fun a b ha hb hx => ?_
 intro A X s env c E
 refine PyProof.Rows.Subscript_ ((I.ev _ _ _ _ ha A X s env c).post fun va s₁ g₁ ra => ?_)
 have c₁ := c.gr g₁
 refine (I.ev _ _ _ _ hb A X s₁ env c₁).post fun vb s₂ g₂ rb => ?_
 exact (zm5 (ra.gr c₁.xok.tabs c₁.cx g₂) rb hx fun kk t zz => zdM hb _ _).up (g₁.trans g₂)
theorem zm0 (I : xN G cf k n) {v : Expr} {lo hi : Option Expr} {q p : Pos} {d : D} (h : zei (evD cf n K ρ) v lo hi = some d) : EvS G k K ρ (.Subscript v (.Slice lo hi none q) p) d := by
 unfold zei at h
 injection eS h fun a ha h => ?_
 injection eS h fun l hl h => ?_
 injection eS h fun hh' hh h => ?_
 exact zjY I ha hl hh h
theorem znp (I : xN G cf k n) {v i : Expr} {p : Pos} {d : D} (h : zkv (evD cf n K ρ) v i = some d) : EvS G k K ρ (.Subscript v i p) d := by
 cases i with
 | Slice lo hi st q =>
  cases st with
  | none => exact zm0 I h
  | some _ => exact zA h
 | _ => exact zmk I h
theorem zmV (ok : zZ G cf k) (I : xN G cf k n) {f : Str} {fp p : Pos} {a : Expr} {as : List Expr} {d : D} (h : zeR cf (evD cf n K ρ) (evL cf n K ρ) K ρ f fp a as = some d) : EvS G k K ρ (.Call (.Name f fp) (a :: as) [] p) d := by
 unfold zeR at h
 split at h
 ·rename_i hl
  injection eS h fun fd hf h => ?_
  injection eS h fun ds hds h => ?_
  injection eT h fun hok h => ?_
  exact zk0 ok I hl hf hds hok h
 ·exact zA h
theorem zme (ok : zZ G cf k) (I : xN G cf k n) {o a : Expr} {name : Str} {apos p : Pos} {as : List Expr} {d : D} (h : zd6 cf (evD cf n K ρ) (evL cf n K ρ) K ρ (.Call (.Attribute o name apos) (a :: as) [] p) o name apos a as p = some d) : EvS G k K ρ (.Call (.Attribute o name apos) (a :: as) [] p) d := by
 unfold zd6 at h
 injection eT h fun hc h => ?_
 set_option tactic.hygienic true in split at h
 ·rename_i x hx
  injection eS h fun ds hds h => ?_
  injection eT h fun zz h => ?_
  exact zlv I hc hx hds h
 ·exact fun A X s env c => ok.hook K ρ _ d h A X s env c.room c.cx c.xok c.env
theorem zmt (ok : zZ G cf k) (I : xN G cf k n) {f : Expr} {as : List Expr} {ks : List Keyword} {p : Pos} {d : D} (h : znQ cf (evD cf n K ρ) (evL cf n K ρ) K ρ (.Call f as ks p) f as ks p = some d) : EvS G k K ρ (.Call f as ks p) d := by
 cases ks with
 | cons _ _ => exact zA h
 | nil =>
  cases as with
  | nil => exact zA h
  | cons a as =>
   cases f with
   | Name f fp => exact zmV ok I h
   | Attribute o name apos => exact zme ok I h
   | _ => exact zA h
set_option tactic.hygienic true in
theorem zmM (ok : zZ G cf k) (I : xN G cf k n) {x : Str} {xp p : Pos} {y : Str} {d : D} (h : znx (evD cf n K ρ) (.Name x xp) y = some d) : EvS G k K ρ (.Attribute (.Name x xp) y p) d := by
 replace h : (match y == ("root" : Str) with
  | true => (match evD cf n K ρ (.Name x xp) with | some (.node r _) => some (.int r) | _ => none)
  | false => none) = some d := h
 injection eT h ?_
 clear h
 intro hy h
 have hy := beq_iff_eq.mp hy
 subst hy
 set_option tactic.hygienic true in split at h
 ·rename_i r t hx
  cases h
  intro A X s env c E
  rw [arm_eval_Attribute]
  refine wpAny_bind ((I.ev _ _ _ _ hx A X s env c).post fun v s₁ g₁ rv => wpAny_bind (wpAny_standAt ?_))
  have c₁ := c.gr g₁
  have rr : Rd G.C X s₁.heap (.node r t) v := rv
  refine zQ rr fun a zz1 na => ?_; subst zz1
  refine wpAny_bind (wpAny_holding (wpAny_mono (ok.root A X s₁ a r t na c₁.cx c₁.xok E) (fun u s₂ h₂ => ?_) fun zz zz e => e))
  obtain ⟨g₂, t', rfl⟩ := h₂
  exact wpAny_bind (wpAny_letTemporaryGo (wpAny_pure ⟨g₁.trans g₂, Rd.rv Rd.int'⟩))
 ·exact zA h
theorem zoD (ok : zZ G cf k) (I : xN G cf k n) {elt iter : Expr} {x : Str} {px : Pos} {ifs : List Expr} {csc : Scope} {p : Pos} {d : D} (h : zou (evD cf n) (tsL cf n) K ρ elt x iter ifs csc = some d) : EvS G k K ρ (.ListComp elt [⟨.Name x px, iter, ifs, 0⟩] csc p) d := by
 unfold zou at h
 injection eT h fun hg h => ?_
 rw [Bool.and_eq_true] at hg
 injection eS h fun dd hdd h => ?_
 injection eS h fun ds hds h => ?_
 injection eS h fun ys hys h => ?_
 cases h
 exact zld ok I hg.1 (beq_iff_eq.mp hg.2) hdd hds hys
theorem zmU (ok : zZ G cf k) (I : xN G cf k n) {elt : Expr} {gens : List Comprehension} {csc : Scope} {p : Pos} {d : D} (h : znV (evD cf n) (tsL cf n) K ρ elt gens csc = some d) : EvS G k K ρ (.ListComp elt gens csc p) d := by
 rcases gens with _ | ⟨⟨tg, iter, ifs, asy⟩, _ | _⟩
 ·exact zA h
 ·rcases asy with (_ | m) | m
  ·cases tg with
   | Name x px => exact zoD ok I h
   | _ => exact zA h
  ·exact zA h
  ·exact zA h
 ·exact zA h
theorem zhb : ∀ (ys : List Str) (acc : Str), (ys.foldl (· ++ ·) acc).length = acc.length + z3 ys
 | [], acc => rfl
 | y :: ys, acc => by rw [List.foldl_cons, zhb ys, strLen_append, zba, Nat.add_assoc]
theorem zm4 (I : xN G cf k n) {vs : List Expr} {p : Pos} {d : D} (h : znE (fsD cf n K ρ) vs = some d) : EvS G k K ρ (.JoinedStr vs p) d := by
 rcases vs with _ | ⟨v₁, _ | ⟨v₂, vs⟩⟩
 ·exact zA h
 ·exact zA h
 ·replace h : (match fsD cf n K ρ (v₁ :: v₂ :: vs) with
  | some xs => (match Nat.ble (z3 xs) zK with | true => some (D.str (xs.foldl (· ++ ·) Str.empty)) | false => none)
  | none => none) = some d := h
  injection eS h fun xs hxs h => ?_
  injection eT h fun hb h => ?_
  cases h
  intro A X s env c E
  have hb : (Str.empty).length + z3 xs ≤ sizeLine := (Nat.zero_add (z3 xs)).symm ▸ (zaN hb).2.2
  exact wpAny_JoinedStr (I.fs _ _ _ _ hxs A X s env Str.empty _ E c hb fun s' g => ⟨zhb xs _ ▸ hb, g.trans Gr.tok, Rd.rv Rd.str'⟩)
theorem zoo (ok : zZ G cf k) (I : xN G cf k n) (e : Expr) (d : D) (h : evX cf (evD cf n) (tsD cf n) (evL cf n) (tsL cf n) (fsD cf n) K ρ e = some d) : EvS G k K ρ e d := by
 cases e with
 | Constant cc kk p => exact zl3 h
 | Name x p => exact zkJ ok h
 | BinOp l op r p => exact zng I h
 | UnaryOp op x p => exact zoy I h
 | IfExp t b o p => exact zlZ I h
 | BoolOp op es p => exact znh I h
 | Compare l ops rs p => exact zmm I h
 | Tuple es kk p => exact zmw I h
 | List es p => exact zms I h
 | Subscript v i p => exact znp I h
 | Call f as ks p => exact zmt ok I h
 | Attribute v y p =>
  cases v with
  | Name x xp => exact zmM ok I h
  | _ => exact zA h
 | ListComp elt gens csc p => exact zmU ok I h
 | JoinedStr vs p => exact zm4 I h
 | _ => exact zA h
theorem zt (ok : zZ G cf k) : ∀ n, xN G cf k n
 | 0 => ⟨(fun zz zz zz zz h => zA h), (fun zz zz zz zz h => zA h), (fun zz zz zz zz h => zA h), (fun zz zz zz zz h => zA h), (fun zz zz zz zz h => zA h), (fun zz zz zz zz h => zA h), (fun zz zz zz zz h => zA h)⟩
 | n + 1 => ⟨fun zz zz e d h => zoo ok (zt ok n) e d h, fun zz zz e d h => zoJ ok (zt ok n) e d h, fun zz zz e d h => zox (zt ok n) e d h, fun zz zz e d h => zoO (zt ok n) e d h, fun zz zz e d h => znf (zt ok n) e d h, fun zz zz e d h => zm1 (zt ok n) e d h, fun zz zz e d h => zoB (zt ok n) e d h⟩
end
end
section
structure zaH (G : Gd) (env : Env) (K : Kn) (X : List Addr) (h : Heap) (ρ : Rho) (m : Str → Option Value) (W : Str → Option Addr) : Prop where
 k : zfd env K
 ns : h.Ns env.locals m
 inj : ∀ x y a, W x = some a → W y = some a → x = y
 vars : ∀ x d, ρ.lookup x = some d → d = .unb ∨ ∃ v, Holds h env m x v ∧ zdD G.C X h W x d v
theorem zaH.ok {G env K X h ρ m W} (e : zaH G env K X h ρ m W) : zdx G env K X h ρ := ⟨e.k, m, W, e.ns, e.inj, e.vars⟩
theorem zaH.gr {G : Gd} {env : Env} {K : Kn} {X : List Addr} {s s' : Shared} {ρ : Rho} {m W} (hX : XOk G X s.heap) (x : Cx G s.heap) (g : Gr G s s') (e : zaH G env K X s.heap ρ m W) : zaH G env K X s'.heap ρ m W := by
 obtain ⟨k, hn, hi, hv⟩ := e
 refine ⟨k, hn.at' fun o e => g.heap _ o ((NT.dict hn).notTab x.ti) e, hi, fun y d e => ?_⟩
 rcases hv y d e with h | ⟨v, h, b⟩
 ·exact .inl h
 ·refine .inr ⟨v, ?_, b.imp (fun b o hb e => ⟨hb, g.heap b o (fun t => hb (hX.tabs b t)) e⟩) fun a ds zz ha vs n e => ⟨ha, g.heap _ _ (x.notTab e zv) e⟩⟩
  rcases h with h | ⟨h, c, h1, h2⟩
  ·exact .inl h
  ·exact .inr ⟨h, c, h1, IsCell.at' h2 fun o e => g.heap _ o ((NT.cell h2).notTab x.ti) e⟩
structure Stp (G : Gd) (Y : List Addr) (s : Shared) (Y' : List Addr) (s' : Shared) : Prop where
 sub : ∀ a ∈ Y, a ∈ Y'
 new : ∀ a ∈ Y', a ∈ Y ∨ s.heap.get? a = none
 grb : GrB G Y s s'
structure StC (G : Gd) (k : Nat) (A : Around) (Xc Y : List Addr) (s : Shared) (env : Env) (K : Kn) (ρ : Rho) : Prop where
 room : zby k A
 cx : Cx G s.heap
 xok : XOk G (Y ++ Xc) s.heap
 xc : ∀ a ∈ G.T, a ∈ Xc
 ex : ∃ m W, zaH G env K (Y ++ Xc) s.heap ρ m W ∧ ∀ x a, W x = some a → a ∈ Y
 loc : env.locals ∈ Y
 cel : ∀ x c, env.cells.lookup x = some c → K.lookup x = some .cell → c ∈ Y ∧ ∃ v, s.heap.IsCell c v
 apart : env.cells.Pairwise fun x y => x.2 ≠ y.2
 nt : ∀ y ∈ Y, NT s.heap y
 dis : ∀ a ∈ Y, a ∉ Xc
 hbY : ∀ a ∈ Y, G.hb.get? a = none
 celX : ∀ x, K.lookup x = some .cell → ∃ c, env.cells.lookup x = some c
 noFree : ∀ x, K.lookup x ≠ some .free
section
variable {G : Gd} {k : Nat} {A : Around} {Xc Y Y' : List Addr} {s s' : Shared} {env : Env} {K : Kn} {ρ : Rho}
theorem StC.cxt (c : StC G k A Xc Y s env K ρ) : Cxt G k A (Y ++ Xc) s env K ρ := by
 refine xl c.ex fun m W e zz3 => ?_
 exact ⟨c.room, c.cx, c.xok, e.ok⟩
theorem NT.gr {a : Addr} (t : G.TI s.heap) (n : NT s.heap a) (g : Gr G s s') : NT s'.heap a := by
 refine zQ n fun o ho no => ?_
 exact ⟨o, g.heap a o (NT.notTab ⟨o, ho, no⟩ t) ho, no⟩
theorem StC.gr (c : StC G k A Xc Y s env K ρ) (g : Gr G s s') : StC G k A Xc Y s' env K ρ := by
 refine xl c.ex fun m W e hW => ?_
 exact ⟨c.room, g.cx c.cx, c.xok.gr c.cx.ti g, c.xc, ⟨m, W, e.gr c.xok c.cx g, hW⟩, c.loc, (fun x cc h1 h2 => by obtain ⟨a, v, b⟩ := c.cel x cc h1 h2; exact ⟨a, v, IsCell.at' b fun o e => g.heap _ o ((NT.cell b).notTab c.cx.ti) e⟩), c.apart, fun y hy => NT.gr c.cx.ti (c.nt y hy) g, c.dis, c.hbY, c.celX, c.noFree⟩
theorem Stp.refl : Stp G Y s Y s := ⟨fun zz h => h, fun zz h => .inl h, GrB.refl s⟩
theorem Stp.gr (g : Gr G s s') : Stp G Y s Y s' := ⟨fun zz h => h, fun zz h => .inl h, g.b⟩
theorem Stp.trans {Y₁ Y₂ : List Addr} {s s₁ s₂ : Shared} (ti : G.TI s.heap) (a : Stp G Y s Y₁ s₁) (b : Stp G Y₁ s₁ Y₂ s₂) : Stp G Y s Y₂ s₂ := by
 refine ⟨fun x h => b.sub x (a.sub x h), fun x h => ?_, ⟨fun x o hT hY e => ?_, fun t => b.grb.ti (a.grb.ti t), b.grb.os.trans a.grb.os, fun t => b.grb.bare (a.grb.bare t)⟩⟩
 ·rcases b.new x h with h | h
  ·exact a.new x h
  ·by_cases hY : x ∈ Y
   ·exact .inl hY
   ·refine .inr ?_
    cases q : s.heap.get? x with
    | none => rfl
    | some o =>
     by_cases hT : x ∈ G.T
     ·refine zU (G.tabs _ (a.grb.ti ti) x hT) fun vs e => ?_
      rw [h] at e; exact zA e
     ·rw [a.grb.heap x o hT hY q] at h; exact zA h.symm
 ·refine b.grb.heap x o hT (fun q => ?_) (a.grb.heap x o hT hY e)
  rcases a.new x q with z | z
  ·exact hY z
  ·rw [z] at e; exact zA e
theorem Stp.cx (t : Stp G Y s Y' s') (x : Cx G s.heap) (hb : ∀ a ∈ Y, G.hb.get? a = none) : Cx G s'.heap :=
 ⟨fun b o e => t.grb.heap b o (fun q => by rw [G.hT b q] at e; exact zA e) (fun q => by rw [hb b q] at e; exact zA e) (x.hb b o e), t.grb.ti x.ti⟩
noncomputable def xi : Rho → Str → D → Rho
 | [], _, _ => []
 | (y, v) :: r, x, d => (match y == x with | true => (y, d) :: r | false => (y, v) :: xi r x d)
theorem zbr : ∀ (ρ : Rho) (x y : Str) (d : D), (xi ρ x d).lookup y = if y = x then (ρ.lookup x).map (fun zz => d) else ρ.lookup y
 | [], x, y, d => by simp [xi]
 | (z, v) :: r, x, y, d => by
  unfold xi
  cases hz : z == x with
  | true =>
   have := beq_iff_eq.mp hz; subst this
   simp only [List.lookup_cons]
   by_cases hy : y = z
   ·subst hy; simp
   ·have q : (y == z) = false := by simp [hy]
    simp [q, hy]
  | false =>
   have hz' : z ≠ x := fun q => by subst q; simp at hz
   simp only [List.lookup_cons]
   rw [zbr r x y d]
   by_cases hy : y = x
   ·subst hy
    have : (y == z) = false := by simp [Ne.symm hz']
    simp [this]
   ·simp [hy]
noncomputable def xA : Rho → Str → Rho
 | [], _ => []
 | (y, v) :: r, x => (y, match v with | .app z => (match z == x with | true => .unb | false => .app z) | v => v) :: xA r x
theorem zbD : ∀ (ρ : Rho) (x y : Str) (d : D), (xA ρ x).lookup y = some d → d = .unb ∨ (ρ.lookup y = some d ∧ d ≠ .app x)
 | [], x, y, d, h => by simp [xA] at h
 | (z, v) :: r, x, y, d, h => by
  unfold xA at h
  rw [List.lookup_cons] at h ⊢
  cases hz : y == z with
  | true =>
   rw [hz] at h
   dsimp only at h
   cases v with
   | app u =>
    cases hu : u == x with
    | true => simp only [hu] at h; cases h; exact .inl rfl
    | false => simp only [hu] at h; cases h; exact .inr ⟨rfl, fun q => by cases q; simp at hu⟩
   | _ => cases h; exact .inr ⟨rfl, by simp⟩
  | false =>
   rw [hz] at h
   exact zbD r x y d h
theorem zaH.store {h h' : Heap} {X X' : List Addr} {m W m' W'} {x : Str} {d : D} {v : Value} (e : zaH G env K X h ρ m W) (hn : h'.Ns env.locals m') (hm : ∀ y, y ≠ x → m' y = m y)
  (hW : ∀ y, y ≠ x → W' y = W y) (hi : ∀ x y a, W' x = some a → W' y = some a → x = y)
  (kc : ∀ y c u, y ≠ x → env.cells.lookup y = some c → h.IsCell c (some u) → h'.IsCell c (some u)) (kX : ∀ b o, b ∉ X → h.get? b = some o → b ∉ X' ∧ h'.get? b = some o)
  (kO : ∀ y a vs n, y ≠ x → W y = some a → a ∈ X → h.get? a = some (zW vs n) → a ∈ X' ∧ h'.get? a = some (zW vs n))
  (hv : Holds h' env m' x v) (hb : zdD G.C X' h' W' x d v) : zaH G env K X' h' (xi (xA ρ x) x d) m' W' := by
 refine ⟨e.k, hn, hi, fun y d' hy => ?_⟩
 rw [zbr] at hy
 by_cases hyx : y = x
 ·subst hyx
  rw [if_pos rfl] at hy
  cases hl : (xA ρ y).lookup y with
  | none => rw [hl] at hy; exact zA hy
  | some z => rw [hl] at hy; cases hy; exact .inr ⟨v, hv, hb⟩
 ·rw [if_neg hyx] at hy
  rcases zbD ρ x y d' hy with q | ⟨hl, hna⟩
  ·exact .inl q
  ·rcases e.vars y d' hl with q | ⟨u, q, b⟩
   ·exact .inl q
   ·refine .inr ⟨u, ?_, ?_⟩
    ·rcases q with ⟨q1, q2⟩ | ⟨q1, c, q2, q3⟩
     ·exact .inl ⟨q1, (hm y hyx).trans q2⟩
     ·exact .inr ⟨q1, c, q2, kc y c u hyx q2 q3⟩
    ·cases d' with
     | own ds =>
      refine zcj b fun a vs n e1 e2 hx hg hl => ?_
      refine zk (kO y a vs n hyx e1 hx hg) fun a1 a2 => ?_
      exact ⟨a, vs, n, (hW y hyx).trans e1, e2, a1, a2, hl.imp kX⟩
     | app z =>
      obtain ⟨a, b, e1, e2, hx, o, vs, hg, r⟩ := b
      have hzx : z ≠ x := fun q => hna (by rw [q])
      exact ⟨a, b, (hW z hzx).trans e1, e2, (kX b o hx hg).1, o, vs, (kX b o hx hg).2, r⟩
     | _ => exact Rd.imp kX b
theorem NT.same {h h' : Heap} {T a : Addr} (n : NT h a) (k : Heap.SameBut T h h') (nt : NT h' T) : NT h' a := by
 by_cases q : a = T
 ·subst q; exact nt
 ·refine zQ n fun o ho no => ?_; exact ⟨o, (k.2 a q).trans ho, no⟩
theorem SameBut.up {h h' : Heap} {T b : Addr} {o : Obj} (k : Heap.SameBut T h h') (q : b ≠ T) (e : h.get? b = some o) : h'.get? b = some o := (k.2 b q).trans e
theorem zc8 (c : StC G k A Xc Y s env K ρ) {x : Str} {v : Value} (hk : K.lookup x = some .local ∨ K.lookup x = some .cell) {m} (hn : s.heap.Ns env.locals m) {E : Value → Shared → Prop} {Q : Unit → Shared → Prop}
  (hQ : ∀ T h' m' t, T ∈ Y → Heap.SameBut T s.heap h' → NT h' T → h'.Ns env.locals m' → (∀ y, y ≠ x → m' y = m y) → Holds h' env m' x v →
   (∀ y cc u, y ≠ x → env.cells.lookup y = some cc → s.heap.IsCell cc (some u) → h'.IsCell cc (some u)) →
   (∀ y cc, env.cells.lookup y = some cc → (∃ u, s.heap.IsCell cc u) → ∃ u, h'.IsCell cc u) → (∀ a vs n, s.heap.get? a = some (zW vs n) → a ≠ T) →
   Q () { s with heap := h', toks := t }) : wpAny (model G.prog G.w) A (storeName env x v) Q E s := by
 have en := c.cxt.env.k
 rcases hk with hk | hk
 rotate_left
 refine zU (c.celX x hk) fun cc hc => ?_
 rotate_left
 ·have hk' : env.kindOf x = some .local := by unfold Env.kindOf; rw [en.names]; exact hk
  refine wpAny_storeName_local hk' hn (fun h' hn' hs => ?_) (by rw [en.kind]; rfl)
  have diff : ∀ cc u, s.heap.IsCell cc u → cc ≠ env.locals := fun cc u hcell q => by
   subst q
   refine yI hn fun o es ep ho hd zz5 => ?_
   refine zQ hcell fun o' ho' hd' => ?_
   rw [ho] at ho'; cases ho'
   rw [hd] at hd'; cases hd'
  refine hQ env.locals h' _ _ c.loc hs (.dict hn') hn' (fun y hy => by simp [hy]) (.inl ⟨hk', by simp⟩) (fun y cc u hy hc hcell => ?_) (fun y cc hc ⟨u, hcell⟩ => ⟨u, ?_⟩) (fun a vs n hg q => ?_)
  ·exact IsCell.at' hcell fun o e => SameBut.up hs (diff _ _ hcell) e
  ·exact IsCell.at' hcell fun o e => SameBut.up hs (diff _ _ hcell) e
  ·subst q
   refine yI hn fun o es ep ho hd zz5 => ?_
   rw [hg] at ho; cases ho; cases hd
 ·have hk' : env.kindOf x = some .cell := by unfold Env.kindOf; rw [en.names]; exact hk
  obtain ⟨hY, v₀, hcell⟩ := c.cel x cc hc hk
  refine wpAny_storeName_cell en.kind hk' hc hcell (fun h' hcell' hs => ?_)
  have nl : env.locals ≠ cc := fun q => by
   subst q
   refine yI hn fun o es ep ho hd zz5 => ?_
   refine zQ hcell fun o' ho' hd' => ?_
   rw [ho] at ho'; cases ho'
   rw [hd] at hd'; cases hd'
  refine hQ cc h' m s.toks hY hs (.cell hcell') (hn.at' fun o e => SameBut.up hs nl e) (fun zz zz => rfl) (.inr ⟨.inl hk', cc, hc, hcell'⟩) (fun y c' u hy hc' hcl => ?_) (fun y c' hc' ⟨u, hcl⟩ => ?_) (fun a vs n hg q => by
   subst q
   refine zQ hcell fun o' ho' hd' => ?_
   rw [hg] at ho'; cases ho'; cases hd')
  ·have : c' ≠ cc := fun q => hy (by subst q; exact name_of_addr c.apart (mem_of_lookup hc') (mem_of_lookup hc))
   exact IsCell.at' hcl fun o e => SameBut.up hs this e
  ·by_cases q : c' = cc
   ·subst q; exact ⟨_, hcell'⟩
   ·exact ⟨u, IsCell.at' hcl fun o e => SameBut.up hs q e⟩
theorem XOk.same {X : List Addr} {h h' : Heap} {T : Addr} (x : XOk G X h) (k : Heap.SameBut T h h') (nt : NT h' T) : XOk G X h' := ⟨x.tabs, fun a ha => by
 by_cases q : a = T
 ·subst q; refine zQ nt fun o ho zz2 => ?_; exact ⟨o, ho⟩
 ·refine zU (x.live a ha) fun o e => ?_; exact ⟨o, SameBut.up k q e⟩⟩
theorem xa (c : StC G k A Xc Y s env K ρ) {x : Str} {d : D} {v : Value} (hk : K.lookup x = some .local ∨ K.lookup x = some .cell) (r : Rd G.C (Y ++ Xc) s.heap d v) {E : Value → Shared → Prop} {Q : Unit → Shared → Prop}
  (hQ : ∀ s', Stp G Y s Y s' → StC G k A Xc Y s' env K (xi (xA ρ x) x d) → Q () s') : wpAny (model G.prog G.w) A (storeName env x v) Q E s := by
 refine xl c.ex fun m W e hW => ?_
 refine zc8 c hk e.ns fun T h' m' t hT hs nt hn' hm hv kc kce hnl => ?_
 have nT : NT s.heap T := c.nt T hT
 have up : ∀ b o, b ∉ Y ++ Xc → s.heap.get? b = some o → h'.get? b = some o := fun b o hb e => SameBut.up hs (fun q => hb (by rw [q]; exact List.mem_append_left _ hT)) e
 have stp : Stp G Y s Y { s with heap := h', toks := t } := ⟨fun zz h => h, fun zz h => .inl h, (GrB.same hs nT).mono fun y hy => by rw [List.mem_singleton.mp hy]; exact hT⟩
 refine hQ _ stp ⟨c.room, stp.cx c.cx c.hbY, c.xok.same hs nt, c.xc, ⟨m', (fun y => if y = x then none else W y), ?_, ?_⟩, c.loc, ?_, c.apart, ?_, c.dis, c.hbY, c.celX, c.noFree⟩
 ·refine e.store hn' hm (fun y hy => by simp [hy]) ?_ kc (fun b o hb e => ⟨hb, up b o hb e⟩) ?_ hv ?_
  ·intro y z a h1 h2
   by_cases hy : y = x
   ·simp [hy] at h1
   ·by_cases hz : z = x
    ·simp [hz] at h2
    ·simp only [hy, hz, if_false] at h1 h2; exact e.inj y z a h1 h2
  ·intro y a vs n hy hwa hx hg
   exact ⟨hx, SameBut.up hs (hnl _ _ _ hg) hg⟩
  ·cases d <;> first | exact Rd.imp (fun b o hb e => ⟨hb, up b o hb e⟩) r | (exact r.elim)
 ·intro y a hy
  by_cases q : y = x
  ·simp [q] at hy
  ·simp only [q, if_false] at hy; exact hW y a hy
 ·intro y cc h1 h2
  refine zk (c.cel y cc h1 h2) fun a u => ?_
  exact ⟨a, kce y cc h1 u⟩
 ·intro y hy; exact (c.nt y hy).same hs nt
theorem zjk (c : StC G k A Xc Y s env K ρ) {s₁ : Shared} (g : Gr G s s₁) {x : Str} {ds : List D} {a : Addr} {vs : List Value} {n : Nat} (hk : K.lookup x = some .local ∨ K.lookup x = some .cell)
  (ha : s.heap.get? a = none) (hg : s₁.heap.get? a = some (zW vs n)) (rl : RdL G.C (Y ++ Xc) s.heap ds vs) {E : Value → Shared → Prop} {Q : Unit → Shared → Prop}
  (hQ : ∀ s', Stp G Y s (a :: Y) s' → StC G k A Xc (a :: Y) s' env K (xi (xA ρ x) x (.own ds)) → Q () s') : wpAny (model G.prog G.w) A (storeName env x (.ref a)) Q E s₁ := by
 refine xl c.ex fun m W e hW => ?_
 have c₁ := c.gr g
 have e₁ := e.gr c.xok c.cx g
 refine zc8 c₁ hk e₁.ns fun T h' m' t hT hs nt hn' hm hv kc kce hnl => ?_
 have nT : NT s₁.heap T := c₁.nt T hT
 have aX : a ∉ Y ++ Xc := c.xok.none ha
 have aT : T ≠ a := fun q => aX (by rw [← q]; exact List.mem_append_left _ hT)
 have upX : ∀ b o, b ∉ Y ++ Xc → s.heap.get? b = some o → h'.get? b = some o := fun b o hb e => SameBut.up hs (fun q => hb (by rw [q]; exact List.mem_append_left _ hT)) (g.heap b o (fun t => hb (c.xok.tabs b t)) e)
 have hga : h'.get? a = some (zW vs n) := SameBut.up hs (Ne.symm aT) hg
 have stp : Stp G Y s (a :: Y) { s₁ with heap := h', toks := t } := ⟨fun zz h => .tail _ h, fun b hb => (List.mem_cons.mp hb).elim (fun q => .inr (by rw [q]; exact ha)) .inl,
  g.b.trans ((GrB.same hs nT).mono fun y hy => by rw [List.mem_singleton.mp hy]; exact hT)⟩
 have hbY' : ∀ b ∈ a :: Y, G.hb.get? b = none := fun b hb => (List.mem_cons.mp hb).elim (fun q => by
  subst q
  cases z : G.hb.get? b with
  | none => rfl
  | some o => rw [c.cx.hb b o z] at ha; exact zA ha.symm) (c.hbY b)
 have aT' : a ∉ G.T := fun q => aX (List.mem_append_right _ (c.xc a q))
 refine hQ _ stp ⟨c.room, ⟨fun b o q => stp.grb.heap b o (fun z => by rw [G.hT b z] at q; exact zA q) (fun z => by rw [c.hbY b z] at q; exact zA q) (c.cx.hb b o q), stp.grb.ti c.cx.ti⟩, ?_, c.xc, ⟨m', (fun y => if y = x then some a else W y), ?_, ?_⟩, .tail _ c.loc, ?_, c.apart, ?_, ?_, hbY', c.celX, c.noFree⟩
 ·refine ⟨fun b hb => List.mem_append_right _ (c.xc b hb), fun b hb => ?_⟩
  have := (c₁.xok.same hs nt).live
  rcases List.mem_append.mp hb with hb | hb
  ·rcases List.mem_cons.mp hb with rfl | hb
   ·exact ⟨_, hga⟩
   ·exact this b (List.mem_append_left _ hb)
  ·exact this b (List.mem_append_right _ hb)
 ·have kX : ∀ b o, b ∉ Y ++ Xc → s.heap.get? b = some o → b ∉ (a :: Y) ++ Xc ∧ h'.get? b = some o := fun b o hb e => ⟨fun q => by
   rcases List.mem_append.mp q with q | q
   ·rcases List.mem_cons.mp q with q | q
    ·rw [q, ha] at e; exact zA e
    ·exact hb (List.mem_append_left _ q)
   ·exact hb (List.mem_append_right _ q), upX b o hb e⟩
  refine e.store hn' hm (fun y hy => by simp [hy]) ?_ (fun y cc u hy hc q => kc y cc u hy hc (IsCell.at' q fun o e => g.heap _ o ((NT.cell q).notTab c.cx.ti) e)) kX ?_ hv ?_
  ·intro y z b h1 h2
   by_cases hy : y = x
   ·by_cases hz : z = x
    ·rw [hy, hz]
    ·simp only [hy, hz, if_true, if_false] at h1 h2
     cases h1
     exact absurd (List.mem_append_left _ (hW z a h2)) aX
   ·by_cases hz : z = x
    ·simp only [hy, hz, if_true, if_false] at h1 h2
     cases h2
     exact absurd (List.mem_append_left _ (hW y a h1)) aX
    ·simp only [hy, hz, if_false] at h1 h2; exact e.inj y z b h1 h2
  ·intro y b us j hy hwb hx hgb
   have hgb₁ := g.heap b _ (c.cx.notTab hgb zv) hgb
   refine ⟨?_, SameBut.up hs (hnl _ _ _ hgb₁) hgb₁⟩
   rcases List.mem_append.mp hx with q | q
   ·exact List.mem_append_left _ (.tail _ q)
   ·exact List.mem_append_right _ q
  ·exact ⟨a, vs, n, by simp, rfl, List.mem_append_left _ (.head _), hga, rl.imp kX⟩
 ·intro y b hy
  by_cases q : y = x
  ·simp only [q, if_true] at hy; cases hy; exact .head _
  ·simp only [q, if_false] at hy; exact .tail _ (hW y b hy)
 ·intro y cc h1 h2
  refine zk (c₁.cel y cc h1 h2) fun q u => ?_
  exact ⟨.tail _ q, kce y cc h1 u⟩
 ·intro y hy
  rcases List.mem_cons.mp hy with rfl | hy
  ·exact ⟨_, hga, zv⟩
  ·exact (c₁.nt y hy).same hs nt
 ·intro b hb
  rcases List.mem_cons.mp hb with rfl | hb
  ·exact fun q => aX (List.mem_append_right _ q)
  ·exact c.dis b hb
end
end
section
section
variable {G : Gd} {k n : Nat} {cf : Cf} {K : Kn} {ρ : Rho} {A : Around} {X : List Addr} {s : Shared} {env : Env} {Q E : Value → Shared → Prop}
theorem zaO (ok : zZ G cf k) {e : Expr} {a} (h : evD cf n K ρ e = some (.opq a)) (c : Cxt G k A X s env K ρ) (hQ : ∀ s₁, Gr G s s₁ → Q (.ref a) s₁) : wpAny (model G.prog G.w) A (eval e env) Q E s :=
 ((zt ok n).ev _ _ _ _ h A X s env c).post fun v s₁ g r => by rw [r.opq]; exact hQ s₁ g
theorem zhQ (ok : zZ G cf k) {e : Expr} {a} (h : evD cf n K ρ e = some (.typ a)) (c : Cxt G k A X s env K ρ) (hQ : ∀ s₁, Gr G s s₁ → Q (.type a) s₁) : wpAny (model G.prog G.w) A (eval e env) Q E s :=
 ((zt ok n).ev _ _ _ _ h A X s env c).post fun v s₁ g r => by rw [r.typ]; exact hQ s₁ g
theorem zn1 (ok : zZ G cf k) {e : Expr} {a} (h : evD cf n K ρ e = some (.blt a)) (c : Cxt G k A X s env K ρ) (hQ : ∀ s₁, Gr G s s₁ → Q (.builtin a) s₁) : wpAny (model G.prog G.w) A (eval e env) Q E s :=
 ((zt ok n).ev _ _ _ _ h A X s env c).post fun v s₁ g r => by rw [r.blt]; exact hQ s₁ g
end
end
section
theorem zbp : Slot "method_descriptor" "__get__" "method_descriptor.__get__" :=
 .of (owner := "method_descriptor") (n := "__get__") (by rw [typeLookup_type, builtinLookup_eq_fast]; kernel_rfl) (by decide +kernel) (by decide +kernel) (by decide +kernel)
  (by first | exact .inl (by decide +kernel) | exact .inr (by decide +kernel)) (by rw [isSubtype_type]; kernel_rfl)
theorem zgh : entryFor table "method_descriptor.__get__" = some Builtin.«method_descriptor.__get__» := entryFor_of_tree (by kernel_rfl)
theorem zhm (a b c : Value) : argsOk "method_descriptor.__get__" ⟨[a, b, c], []⟩ := by unfold argsOk; kernel_rfl
theorem zk9 : typeLookup (.type "method_descriptor") "__set__" = pure none := by rw [typeLookup_type, builtinLookup_eq_fast]; kernel_rfl
theorem zkE : typeLookup (.type "method_descriptor") "__delete__" = pure none := by rw [typeLookup_type, builtinLookup_eq_fast]; kernel_rfl
theorem zf9 : (".".intercalate ("list.append".cutAt '.').dropLast) = "list" := by
 have e0 : "list.append".cutAt '.' = ["list", "append"] := by first | rfl | decide +kernel
 rw [e0]; decide +kernel
theorem zg8 : Manifest.toldItsClass.contains "list.append" = false := by decide +kernel
section
variable {prog : Program} {w : World} {A : Around} {E : Value → Shared → Prop} {h : Heap} {g : Array GenState} {d : Drawn} {t : Nat} {os : OsState} {a : Addr} {o : Obj} {Q : Value → Shared → Prop}
theorem zhG (hx : h.get? a = some o) (hc : o.cls = .type "list") {R : Result → Shared → Prop}
  (hq : R (.ok (.ret (.ref h.objs.size))) ⟨h.push { cls := .type "builtin_function_or_method", data := .fields #[.builtin "list.append", .ref a] }, g, d, t, os⟩) :
  codeAny (model prog w) A (.call (.builtin "method_descriptor.__get__") ⟨[.builtin "list.append", .ref a, .type "list"], []⟩) R ⟨h, g, d, t, os⟩ := by
 have hT : (⟨h, g, d, t, os⟩ : Shared).TypeIs (.ref a) "list" := ⟨_, hx, hc⟩
 have hT5 : (⟨h, g, d, t, os⟩ : Shared).TypeIs (.builtin "list.append") "method_descriptor" := F.type_list_append
 have f1 := zg8
 have f2 := zf9
 have f3 : isSubtype (.type "list") (.type "list") = pure true := by rw [isSubtype_type]; kernel_rfl
 have f4 : isSubtype (.type "list") (.type (".".intercalate ("list.append".cutAt '.').dropLast)) = pure true := by rw [f2]; exact f3
 refine codeAny_call_builtin zbp.plain zgh (zbp.check _ _ _ _ _ _ _ _ hT5 (zhm _ _ _) ?_)
 unfold Builtin.«method_descriptor.__get__»
 refine wpAny_bind (wpAny_of_eq (a := (.builtin "list.append", some (.ref a), some (.type "list"))) (by first | rfl | kernel_rfl) ?_)
 dsimp only
 rw [f1]
 simp only [Bool.false_eq_true, if_false]
 refine wpAny_bind ?_
 refine wpAny_bind (wpAny_pure ?_)
 have f5 : isSubtype (.type "list") (.type (".".intercalate (("list.append".cutAt '.').dropLast))) = pure true := f4
 refine wpAny_bind (wpAny_isInstance (T := "list") (b := true) hT f5 ?_)
 refine wpAny_pure ?_
 refine wpAny_bind ?_
 refine wpAny_newObj_type ?_
 exact wpAny_pure hq
theorem zhz (hx : h.get? a = some o) (hc : o.cls = .type "list") (hd : o.dict = none) (hdat : ∀ c, o.data ≠ .cls c) {Q : Builtin.ObjectAttr.Found → Shared → Prop}
  (hq : Q (.bind (.builtin "method_descriptor.__get__") (.builtin "list.append")) ⟨h, g, d, t, os⟩) :
  wpAny (model prog w) A (Builtin.ObjectAttr.find (.ref a) (.type "list") "append") Q E ⟨h, g, d, t, os⟩ := by
 have hT : (⟨h, g, d, t, os⟩ : Shared).TypeIs (.ref a) "list" := ⟨_, hx, hc⟩
 have hT5 : (⟨h, g, d, t, os⟩ : Shared).TypeIs (.builtin "list.append") "method_descriptor" := F.type_list_append
 have f4 := slot_list_append.lookup
 have f6 := zbp.lookup
 have f7 := zk9
 have f8 := zkE
 unfold Builtin.ObjectAttr.find
 refine wpAny_bind (wpAny_of_eq f4 ?_)
 refine wpAny_bind (m := Builtin.ObjectAttr.getOf (some (.builtin "list.append"))) (show wpAny _ _ (specialOf (.builtin "list.append") "__get__") _ _ _ from wpAny_specialOf hT5 f6 ?_)
 refine wpAny_bind ?_
 unfold Builtin.ObjectAttr.dataDescriptor?
 dsimp only
 unfold Builtin.ObjectAttr.takesStores
 refine wpAny_bind (wpAny_bind (wpAny_specialOf hT5 f7 ?_))
 simp only [Option.isSome_none, Bool.false_eq_true, if_false]
 refine wpAny_bind (wpAny_specialOf hT5 f8 (wpAny_pure ?_))
 simp only [Option.isSome_none, Bool.false_eq_true, if_false]
 refine wpAny_pure ?_
 dsimp only
 unfold Builtin.ObjectAttr.ownThenClass
 have own : wpAny (model prog w) A (Builtin.ObjectAttr.inOwnDict "append" (.ref a)) (fun r s' => r = none ∧ s' = ⟨h, g, d, t, os⟩) E ⟨h, g, d, t, os⟩ := by
  unfold Builtin.ObjectAttr.inOwnDict
  dsimp only
  refine wpAny_bind (m := (do
   let __do_lift ← loadHead a
   match __do_lift.data with
    | Data.cls c => pure (some c.ns)
    | x => instanceDict a false : Sem (Option Addr))) (wpAny_bind (m := loadHead a) (wpAny_loadPart hx ?_))
  have inst : wpAny (model prog w) A (instanceDict a false) (fun r s' => r = none ∧ s' = ⟨h, g, d, t, os⟩) E ⟨h, g, d, t, os⟩ := by
   refine wpAny_bind (wpAny_loadPart hx ?_)
   rw [hc, hd]
   exact wpAny_pure ⟨rfl, rfl⟩
  set_option tactic.hygienic true in split
  ·rename_i c hcc; exact absurd hcc (hdat c)
  ·refine wpAny_mono inst (fun r s' hr => ?_) fun zz zz e => e
   refine zk hr fun zz0 zz1 => ?_; subst zz0; subst zz1
   exact wpAny_pure ⟨rfl, rfl⟩
 refine wpAny_bind (wpAny_mono own (fun r s' hr => ?_) fun zz zz e => e)
 refine zk hr fun zz0 zz1 => ?_; subst zz0; subst zz1
 refine wpAny_bind (wpAny_of_eq (a := ()) (by first | rfl | kernel_rfl) ?_)
 exact wpAny_bind (wpAny_rule (wpAny_pure hq))
theorem zf6 (hx : h.get? a = some o) (hc : o.cls = .type "list") (hd : o.dict = none) (hdat : ∀ c, o.data ≠ .cls c) {tk : Tok} {Q : Fin → Shared → Prop}
  (hq : Q (.done (.ret (.ref h.objs.size))) ⟨h.push { cls := .type "builtin_function_or_method", data := .fields #[.builtin "list.append", .ref a] }, g, d, t, os⟩) :
  wpAny (model prog w) A (Builtin.«object.__getattribute__» ⟨[.ref a, .str "append" tk], []⟩) Q E ⟨h, g, d, t, os⟩ := by
 have hT : (⟨h, g, d, t, os⟩ : Shared).TypeIs (.ref a) "list" := ⟨_, hx, hc⟩
 refine wpAny_bind (wpAny_of_eq (a := (.ref a, [.str "append" tk])) (by first | rfl | kernel_rfl) ?_)
 refine wpAny_bind (wpAny_of_eq (a := ("append" : Str)) (by first | rfl | kernel_rfl) ?_)
 refine wpAny_bind (wpAny_typeOf hT ?_)
 refine wpAny_bind (zhz hx hc hd hdat ?_)
 show wpAny _ _ (holding [.builtin "list.append"] (call (.builtin "method_descriptor.__get__") [.builtin "list.append", .ref a, .type "list"]) >>= ret) _ _ _
 refine wpAny_bind (wpAny_holding (wpAny_call (zhG hx hc ?_)))
 exact wpAny_pure hq
theorem zff : entryFor table "list.__getattribute__" = some Builtin.«object.__getattribute__» :=
 entryFor_alias (id' := "object.__getattribute__") (by kernel_rfl) (by first | rfl | decide +kernel) (by decide +kernel) (by kernel_rfl)
theorem zhg {s : Shared} (hx : s.heap.get? a = some o) (hc : o.cls = .type "list") (hd : o.dict = none) (hdat : ∀ c, o.data ≠ .cls c)
  (hq : Q (.ref s.heap.objs.size) { s with heap := s.heap.push { cls := .type "builtin_function_or_method", data := .fields #[.builtin "list.append", .ref a] }, toks := s.toks + 1 }) :
  wpAny (model prog w) A (getAttr (.ref a) "append" true) Q E s := by
 obtain ⟨h, g, d, t, os⟩ := s
 have hT : ∀ t', (⟨h, g, d, t', os⟩ : Shared).TypeIs (.ref a) "list" := fun t' => ⟨_, hx, hc⟩
 refine wpAny_bind (wpAny_mkText ?_)
 refine wpAny_holding (wpAny_bind (wpAny_typeOf (hT _) (wpAny_bind (wpAny_of_eq F.slot_list_getattribute.lookup ?_))))
 dsimp only
 rw [if_neg (by decide)]
 refine wpAny_bind (wpAny_of_eq (a := none) rfl ?_)
 refine wpAny_bind ?_
 refine wpAny_attempt (wpAny_holding (show wpAny _ _ (boundAndCalled (.builtin "list.__getattribute__") (.ref a) (.str "append" t)) _ _ _ from ?_))
 refine wpAny_bind (wpAny_of_eq (F.slot_list_getattribute.bind (.ref a)) ?_)
 refine wpAny_call_entry F.slot_list_getattribute (hT _) zff (zf6 hx hc hd hdat ⟨_, rfl, ?_⟩) (F.args_list_getattribute_2 _ _)
 show wpAny _ _ (pure _) _ _ _
 exact wpAny_pure hq
theorem zh7 : ∃ sig, Manifest.signature? "list.append" = some sig ∧ ∀ a b : Value, Bind.checkArgs "list.append" { sig with full := (toString (Bind.lastOf "list") ++ toString "." ++ toString (Bind.lastOf "list.append")) } ⟨[a, b], []⟩ = pure () := by
 refine ⟨(Manifest.sig_list.lookup "append").get (by kernel_rfl), ?_, fun a b => ?_⟩
 ·rw [signature?_of (id := "list.append") (n := ['d', 'n', 'e', 'p', 'p', 'a']) (o := ['t', 's', 'i', 'l']) (by kernel_rfl) F.owner_list]
  kernel_rfl
 ·kernel_rfl
theorem zgL {x : Value} {E : Value → Shared → Prop} {Q : Unit → Shared → Prop} {s : Shared} (hx : s.heap.get? a = some o) (hc : o.cls = .type "list") (hdat : ∀ c, o.data ≠ .cls c) (hq : Q () s) : wpAny (model prog w) A (checkBoundCall "list.append" ⟨[.ref a, x], []⟩) Q E s := by
 have hT : s.TypeIs (.ref a) "list" := ⟨_, hx, hc⟩
 refine zQ zh7 fun sig hs hck => ?_
 have hk : builtinKind "list.append" = some .method := by decide +kernel
 have hv : Manifest.varargsMethods.contains "list.append" = false := by decide +kernel
 have hsub : isSubtype (.type "list") (.type "module") = pure false := by rw [isSubtype_type]; kernel_rfl
 unfold checkBoundCall
 rw [hs]
 rw [hk]
 dsimp only
 rw [if_neg (by decide)]
 refine wpAny_bind (wpAny_isInstance (T := "list") (b := false) hT hsub ?_)
 rw [hv]
 rw [if_neg (by decide)]
 have ty : wpAny (model prog w) A (isType (.ref a)) (fun r s' => r = false ∧ s' = s) E s := by
  refine wpAny_bind (m := loadHead a) (wpAny_loadPart hx (wpAny_pure ⟨?_, rfl⟩))
  set_option tactic.hygienic true in split
  ·rename_i c hcc; exact absurd hcc (hdat c)
  ·rfl
 refine wpAny_bind (wpAny_mono ty (fun r s' hr => ?_) fun zz zz e => e)
 refine zk hr fun zz0 zz1 => ?_; subst zz0; subst zz1
 rw [if_neg (by decide)]
 refine wpAny_bind (wpAny_typeOf hT ?_)
 exact wpAny_of_eq (hck _ _) hq
theorem zih {b : Addr} {ob : Obj} {x : Value} {vs : Array Value} {its : Array Value} {s : Shared} {E : Value → Shared → Prop} {Q : Value → Shared → Prop} (hb : s.heap.get? b = some ob) (hcb : ob.cls = .type "builtin_function_or_method") (hdb : ob.data = .fields vs) (h0 : vs[0]? = some (.builtin "list.append")) (h1 : vs[1]? = some (.ref a))
  (hl : s.heap.PlainList a its) (hsz : its.size ≤ sizeLine) (hQ : ∀ h', h'.PlainList a (its.push x) → Heap.SameBut a s.heap h' → Q .none { s with heap := h' }) :
  wpAny (model prog w) A (call (.ref b) [x]) Q E s := by
 refine zU hl fun n ho => ?_
 refine wpAny_call ?_
 refine codeAny_of_tree ?_
 show wpAny _ _ (callAny (.ref b) ⟨[x], []⟩) _ _ _
 refine wpAny_bind (wpAny_load hb ?_)
 rw [hdb, hcb]
 dsimp only
 rw [if_pos (by decide), h0, h1]
 dsimp only
 rw [if_pos (by decide)]
 refine wpAny_bind (zgL ho rfl (fun zz q => by cases q) ?_)
 refine wpAny_pure ⟨Code.quiet_builtin _ (by decide +kernel), codeAny_builtin entry_list_append ?_⟩
 show wpAny _ _ (updateSeq a (·.push x) >>= fun zz => ret .none) _ _ s
 refine wpAny_bind ?_
 refine wpAny_updateSeq ho rfl (wpAny_pure (hQ _ ⟨n + 1, ?_⟩ (Heap.SameBut.update ..)))
 rw [Heap.get?_update_self _ ho (by rw [Obj.mapSeq_push_plain]; rfl), Obj.mapSeq_push_plain]
theorem zmb {l : Addr} {vs : List Value} {n : Nat} {k : Int} {t : Tok} {v old : Value} {s : Shared} {Q : Unit → Shared → Prop} (ho : s.heap.get? l = some { cls := .type "list", data := .seq vs.toArray n })
  (h0 : k < 0) (h1 : -(vs.toArray.size : Int) ≤ k) (hfit : -(2 ^ 63) ≤ k) (hx : vs.toArray[(k + vs.toArray.size).toNat]? = some old)
  (hQ : ∀ h' m, h'.get? l = some { cls := .type "list", data := .seq (vs.set (k + vs.toArray.size).toNat v).toArray m } → Heap.SameBut l s.heap h' → Q () { s with heap := h' }) :
  wpAny (model prog w) A (setItem (.ref l) (.int k t) v) Q E s := by
 have hl : s.heap.IsList l vs.toArray := ⟨_, ho, rfl, n, rfl⟩
 unfold setItem
 try with_reducible refine wpAny_holding ?_
 first | refine wpAny_bind (wpAny_pure ?_) | skip
 refine wpAny_bind (wpAny_sequenceKey hl.typeIs (by decide) ?_)
 refine wpAny_bind (wpAny_callSpecial?_slot (name := Str.ofString "__setitem__") hl.typeIs slot_list_setitem
  (wpAny_call_entry slot_list_setitem hl.typeIs entry_list_setitem ?_ (args_list_setitem _ _ _)))
 show wpAny _ _ (Builtin.List.listSubscript? (.int k t) >>= _) _ _ s
 refine wpAny_bind (wpAny_listSubscript_int (fitsIndex_neg h0 hfit) ?_)
 clear hfit
 have hidx := seqIndex_neg h0 h1
 obtain ⟨j, rfl⟩ : ∃ j : Nat, k = Int.negSucc j := by
  cases k with
  | ofNat n => exact absurd h0 (Int.not_lt.mpr (Int.natCast_nonneg n))
  | negSucc n => exact ⟨n, rfl⟩
 show wpAny _ _ ((Builtin.List.listItems (.ref l) >>= fun xs => pure ((seqIndex? (Int.negSucc j) xs.size).bind fun i => xs[i]?.map (i, ·))) >>= _) _ _ s
 refine wpAny_bind (wpAny_bind ?_)
 show wpAny _ _ (seqItems? (.ref l) >>= _) _ _ s
 refine wpAny_bind (wpAny_seqItems ho rfl (wpAny_pure (wpAny_pure ?_)))
 rw [hidx]
 simp only [Option.bind_some, hx, Option.map_some]
 obtain ⟨m, hm⟩ : ∃ m, Obj.mapSeq (·.setIfInBounds (Int.negSucc j + vs.toArray.size).toNat v) { cls := .type "list", data := .seq vs.toArray n } = { cls := .type "list", data := .seq (vs.toArray.setIfInBounds (Int.negSucc j + vs.toArray.size).toNat v) m } := ⟨_, rfl⟩
 have hfin : (s.heap.update l (Obj.mapSeq (·.setIfInBounds (Int.negSucc j + vs.toArray.size).toNat v))).get? l = some { cls := .type "list", data := .seq (vs.set (Int.negSucc j + vs.toArray.size).toNat v).toArray m } := by
  rw [Heap.get?_update_self _ ho (by rw [hm]; rfl), hm, List.setIfInBounds_toArray]
 refine wpAny_bind (wpAny_setSeqItemAt ho rfl ?_)
 first
  | exact wpAny_bind (wpAny_pure (wpAny_pure ⟨.none, rfl, wpAny_pure (hQ _ _ hfin (Heap.SameBut.update ..))⟩))
  | exact wpAny_pure ⟨.none, rfl, wpAny_pure (hQ _ _ hfin (Heap.SameBut.update ..))⟩
end
end
section
section
variable {G : Gd} {k : Nat} {A : Around} {Xc Y Y' : List Addr} {s s' : Shared} {env : Env} {K : Kn} {ρ : Rho}
theorem zex {X h m W} (e : zaH G env K X h ρ m W) {x : Str} {ds : List D} (hl : ρ.lookup x = some (.own ds)) : ∃ a vs n, W x = some a ∧ Holds h env m x (.ref a) ∧ a ∈ X ∧ h.get? a = some (zW vs n) ∧ RdL G.C X h ds vs := by
 rcases e.vars x _ hl with q | ⟨v, q, b⟩
 ·cases q
 ·refine zcj b fun a vs n e1 zz4 e3 e4 e5 => ?_; subst zz4
  exact ⟨a, vs, n, e1, q, e3, e4, e5⟩
theorem zbG (ek : zfd env K) {m} (hn : s.heap.Ns env.locals m) {x : Str} {p : Pos} {v : Value} (h : Holds s.heap env m x v) (h1 : (x == ("__debug__" : Str)) = false) (h2 : (x == ("__classdict__" : Str)) = false) {Q : Value → Shared → Prop} {E} (hq : Q v s) :
  wpAny (model G.prog G.w) A (eval (.Name x p) env) Q E s := by
 refine wpAny_Name ?_ h1
 rcases h with ⟨hk, hm⟩ | ⟨hk | hk, cc, hc, hv⟩
 ·exact wpAny_loadName_local ek.kind hk hn hm hq
 ·exact wpAny_loadName_cell ek.kind hk hc hv hq
 ·exact wpAny_loadName_free ek.kind hk hc hv hq h2
theorem zhB (c : StC G k A Xc Y s env K ρ) {m W} (e : zaH G env K (Y ++ Xc) s.heap ρ m W) (hW : ∀ x a, W x = some a → a ∈ Y) {x : Str} {a : Addr} {vs vs' : List Value} {n n' : Nat} {ds' : List D} {ds : List D} (hl : ρ.lookup x = some (.own ds)) (hx : W x = some a) (hg : s.heap.get? a = some (zW vs n))
  {h' : Heap} {t : Nat} (hs : Heap.SameBut a s.heap h') (hg' : h'.get? a = some (zW vs' n')) (rl : RdL G.C (Y ++ Xc) s.heap ds' vs') :
  Stp G Y s Y { s with heap := h', toks := t } ∧ StC G k A Xc Y { s with heap := h', toks := t } env K (xi ρ x (.own ds')) := by
 have aY : a ∈ Y := hW x a hx
 have nT : NT s.heap a := c.nt a aY
 have nt' : NT h' a := ⟨_, hg', zv⟩
 have up : ∀ b o, b ∉ Y ++ Xc → s.heap.get? b = some o → h'.get? b = some o := fun b o hb e => SameBut.up hs (fun q => hb (by rw [q]; exact List.mem_append_left _ aY)) e
 have stp : Stp G Y s Y { s with heap := h', toks := t } := ⟨fun zz h => h, fun zz h => .inl h, (GrB.same hs nT).mono fun y hy => by rw [List.mem_singleton.mp hy]; exact aY⟩
 have cellUp : ∀ cc u, s.heap.IsCell cc u → h'.IsCell cc u := fun cc u q => IsCell.at' q fun o e => SameBut.up hs (fun z => by
  subst z
  refine zQ q fun o' ho' hd' => ?_
  rw [hg] at ho'; cases ho'; cases hd') e
 have nl : env.locals ≠ a := fun q => by
  subst q
  refine yI e.ns fun o es ep ho hd zz5 => ?_
  rw [hg] at ho; cases ho; cases hd
 refine ⟨stp, c.room, stp.cx c.cx c.hbY, c.xok.same hs nt', c.xc, ⟨m, W, ⟨e.k, e.ns.at' fun o e => SameBut.up hs nl e, e.inj, fun y d' hy => ?_⟩, hW⟩, c.loc, ?_, c.apart, fun y hy => (c.nt y hy).same hs nt', c.dis, c.hbY, c.celX, c.noFree⟩
 ·rw [zbr] at hy
  have hold : ∀ u, Holds s.heap env m y u → Holds h' env m y u := fun u q => by
   rcases q with q | ⟨q1, cc, q2, q3⟩
   ·exact .inl q
   ·exact .inr ⟨q1, cc, q2, cellUp _ _ q3⟩
  by_cases hyx : y = x
  ·subst hyx
   rw [if_pos rfl, hl] at hy
   cases hy
   rcases e.vars y _ hl with q | ⟨u, q, b⟩
   ·cases q
   ·refine zcj b fun a' us j e1 zz4 e3 e4 e5 => ?_; subst zz4
    rw [hx] at e1; cases e1
    exact .inr ⟨_, hold _ q, a, vs', n', hx, rfl, e3, hg', rl.imp fun b o hb e => ⟨hb, up b o hb e⟩⟩
  ·rw [if_neg hyx] at hy
   rcases e.vars y d' hy with q | ⟨u, q, b⟩
   ·exact .inl q
   ·refine .inr ⟨u, hold _ q, ?_⟩
    cases d' with
    | own es =>
     refine zcj b fun a' us j e1 e2 e3 e4 e5 => ?_
     have : a' ≠ a := fun z => hyx (e.inj y x a (z ▸ e1) hx)
     exact ⟨a', us, j, e1, e2, e3, SameBut.up hs this e4, e5.imp fun b o hb e => ⟨hb, up b o hb e⟩⟩
    | app z =>
     obtain ⟨a', b, e1, e2, e3, o, us, hgb, r⟩ := b
     exact ⟨a', b, e1, e2, e3, o, us, up b o e3 hgb, r⟩
    | _ => exact Rd.imp (fun b o hb e => ⟨hb, up b o hb e⟩) b
 ·intro y cc h1 h2
  obtain ⟨q, u, z⟩ := c.cel y cc h1 h2
  exact ⟨q, u, cellUp _ _ z⟩
end
inductive Out where
 | next (ρ : Rho)
 | brk (ρ : Rho)
 | ret (d : D)
noncomputable def zd (K : Kn) (x : Str) : Bool := match K.lookup x with | some .local => true | some .cell => true | _ => false
noncomputable def stD (ρ : Rho) (x : Str) (d : D) : Rho := xi (xA ρ x) x d
noncomputable def zR (x : Str) : Bool := !((x == ("__debug__" : Str)) || (x == ("__classdict__" : Str)))
noncomputable def whD (ts : Rho → Option Bool) (ex : Rho → Option Out) : Nat → Rho → Option Out
 | 0, _ => none
 | n + 1, ρ => (match ts ρ with
  | some true => (match ex ρ with | some (.next ρ') => whD ts ex n ρ' | some (.brk ρ') => some (.next ρ') | some (.ret d) => some (.ret d) | none => none)
  | some false => some (.next ρ)
  | none => none)
noncomputable def zb0 (ex : Rho → Option Out) (x : Str) : List D → Rho → Option Out
 | [], ρ => some (.next ρ)
 | d :: ds, ρ => (match d.pure with
  | true => (match ex (stD ρ x d) with | some (.next ρ') => zb0 ex x ds ρ' | some (.brk ρ') => some (.next ρ') | some (.ret d) => some (.ret d) | none => none)
  | false => none)
noncomputable def xu : Nat := 1000000
noncomputable def za1 (ev : Expr → Option D) (ρ : Rho) (e : Expr) : Option Out := match (match e with
  | .Name x _ => (match ρ.lookup x with | some (.own ds) => (match zR x with | true => some ds | false => none) | _ => none)
  | _ => none : Option (List D)) with
 | some ds => some (.ret (.lst ds))
 | none => (match ev e with | some d => (match d.pure with | true => some (.ret d) | false => none) | none => none)
noncomputable def nm? : Expr → Option (Str × Pos)
 | .Name x p => some (x, p)
 | _ => none
noncomputable def call? : Expr → Bool
 | .Call .. => true
 | _ => false
section
variable (cf : Cf) (mu : List Str) (n : Nat) (K : Kn) (ρ : Rho)
noncomputable def zc9 (x : Str) (v : Expr) : Option Out := match evD cf (n + 1) K ρ v with
 | some d => (match d.pure with | true => some (.next (stD ρ x d)) | false => none)
 | none => none
noncomputable def zgl (x : Str) (v : Expr) : Option Out := match v with
 | .List es p => (match mu.contains x with
  | true => (match evL cf n K ρ es with | some ds => (match (ds.all D.pure && Nat.ble ds.length zK) with | true => some (.next (stD ρ x (.own ds))) | false => none) | none => none)
  | false => zc9 cf n K ρ x (.List es p))
 | .Attribute b nm q => (match nm? b with
  | some (r, _) => (match (nm == ("append" : Str)) with
   | true => (match ρ.lookup r with | some (.own _) => (match (zR r && (r != x)) with | true => some (.next (stD ρ x (.app r))) | false => none) | _ => none)
   | false => zc9 cf n K ρ x (.Attribute b nm q))
  | none => zc9 cf n K ρ x (.Attribute b nm q))
 | .ListComp e gs c p => (match K.lookup x with
  | some .cell => zc9 cf n K ρ x (.ListComp e gs c p)
  | _ => none)
 | v => zc9 cf n K ρ x v
noncomputable def zoG (es : List Expr) (v : Expr) : Option Out := match es with
 | [e1, e2] => (match nm? e1 with
  | some (x, px) => (match nm? e2 with
   | some (y, py) => (match v with
    | .Tuple vs _ _ => (match vs with
     | [a, c] => (match (call? c && ((K.lookup x == some .local) && (K.lookup y == some .local) && (px.line == py.line) && (x != y))) with
      | true => (match evD cf n K ρ a with
       | some da => (match evD cf n K ρ c with
        | some db => (match (da.pure && db.pure) with | true => some (.next (stD (stD ρ y db) x da)) | false => none)
        | none => none)
       | none => none)
      | false => none)
     | _ => none)
    | _ => none)
   | none => none)
  | none => none)
 | _ => none
noncomputable def zog (ts : List Expr) (v : Expr) : Option Out := match ts with
 | [t] => (match t with
  | .Name x _ => (match zd K x with | true => zgl cf mu n K ρ x v | false => none)
  | .Tuple es _ _ => zoG cf n K ρ es v
  | _ => none)
 | _ => none
noncomputable def zkz (x : Str) (p : Pos) (e : Expr) : Option Out := match (zd K x && zR x) with
 | true => (match evD cf (n + 1) K ρ (.Name x p) with
  | some (.int i) => (match evD cf n K ρ e with | some (.int j) => some (.next (stD ρ x (.int (i + j)))) | _ => none)
  | _ => none)
 | false => none
noncomputable def zkS (x : Str) (i e : Expr) : Option Out := match ρ.lookup x with
 | some (.own ds) => (match (zR x && Nat.ble ds.length zK) with
  | true => (match evD cf n K ρ i with
   | some (.int k) => (match (decide (k < 0) && decide (0 ≤ k + ds.length)) with
    | true => (match ds[(k + ds.length).toNat]? with
     | some (.str z) => (match evD cf n K ρ e with
      | some (.str y) => (match Nat.ble (z.length + y.length) zK with | true => some (.next (xi ρ x (.own (ds.set (k + ds.length).toNat (.str (z ++ y)))))) | false => none)
      | _ => none)
     | _ => none)
    | false => none)
   | _ => none)
  | false => none)
 | _ => none
noncomputable def zoC (t : Expr) (op : Operator) (e : Expr) : Option Out := match op with
 | .Add => (match t with
  | .Name x p => zkz cf n K ρ x p e
  | .Subscript b i _ => (match nm? b with | some (x, _) => zkS cf n K ρ x i e | none => none)
  | _ => none)
 | _ => none
noncomputable def zmD (e : Expr) : Option Out := match e with
 | .IfExp t b o _ => (match tsD cf n K ρ t with
  | some true => za1 (evD cf n K ρ) ρ b
  | some false => za1 (evD cf n K ρ) ρ o
  | none => none)
 | e => za1 (evD cf n K ρ) ρ e
noncomputable def zdp (x : Str) (a : Expr) : Option Out := match ρ.lookup x with
 | some (.own ds) => (match evD cf n K ρ a with | some d => (match (d.pure && Nat.ble ds.length zK) with | true => some (.next (xi ρ x (.own (ds ++ [d])))) | false => none) | none => none)
 | _ => none
noncomputable def ziU (f : Expr) (a : Expr) (cpos : Pos) : Option Out := match f with
 | .Attribute b nm apos => (match nm? b with
  | some (x, _) => (match ((nm == ("append" : Str)) && (apos.endLine == cpos.line) && zR x) with
   | true => zdp cf n K ρ x a
   | false => none)
  | none => none)
 | .Name f _ => (match zR f with
  | true => (match ρ.lookup f with
   | some (.app x) => zdp cf n K ρ x a
   | _ => none)
  | false => none)
 | _ => none
noncomputable def znL (e : Expr) : Option Out := match e with
 | .Call f as ks cpos => (match as with
  | [a] => (match ks with | [] => ziU cf n K ρ f a cpos | _ => none)
  | _ => none)
 | _ => none
end
noncomputable def stX (cf : Cf) (mu : List Str) (n : Nat) (ex : Kn → Rho → List Stmt → Option Out) (K : Kn) (ρ : Rho) (st : Stmt) : Option Out := match st with
 | .Assign ts v _ => zog cf mu n K ρ ts v
 | .AugAssign t op e _ => zoC cf n K ρ t op e
 | .If t b o _ => (match tsD cf n K ρ t with | some true => ex K ρ b | some false => ex K ρ o | none => none)
 | .While t b [] _ => whD (fun ρ => tsD cf n K ρ t) (fun ρ => ex K ρ b) xu ρ
 | .For t it b [] _ => (match nm? t with
  | some (x, _) => (match zd K x with
   | true => (match evD cf n K ρ it with
    | some d => (match zu d with | some ds => zb0 (fun ρ => ex K ρ b) x ds ρ | none => none)
    | none => none)
   | false => none)
  | none => none)
 | .Return (some e) _ => zmD cf n K ρ e
 | .Expr e _ => znL cf n K ρ e
 | .Assert t none _ => (match tsD cf n K ρ t with | some true => some (.next ρ) | _ => none)
 | .Break _ => some (.brk ρ)
 | _ => none
mutual
noncomputable def exD (cf : Cf) (mu : List Str) : Nat → Kn → Rho → Stmt → Option Out
 | 0, _, _, _ => none
 | n + 1, K, ρ, st => stX cf mu n (exL cf mu n) K ρ st
noncomputable def exL (cf : Cf) (mu : List Str) : Nat → Kn → Rho → List Stmt → Option Out
 | 0, _, _, _ => none
 | n + 1, K, ρ, ss => match ss with
  | [] => some (.next ρ)
  | st :: ss => (match exD cf mu n K ρ st with | some (.next ρ') => exL cf mu n K ρ' ss | o => o)
end
end
section
noncomputable def x4 (G : Gd) (k : Nat) (A : Around) (Xc : List Addr) (env : Env) (K : Kn) (Y : List Addr) (s : Shared) (o : Out) (f : Flow) (s' : Shared) : Prop := ∃ Y', Stp G Y s Y' s' ∧ match o with
 | .next ρ' => f = .next ∧ StC G k A Xc Y' s' env K ρ'
 | .brk ρ' => f = .brk ∧ StC G k A Xc Y' s' env K ρ'
 | .ret d => ∃ v, f = .ret v ∧ Rd G.C Xc s'.heap d v
noncomputable def ExS (G : Gd) (k : Nat) (K : Kn) (ρ : Rho) (st : Stmt) (o : Out) : Prop := ∀ A Xc Y s env, StC G k A Xc Y s env K ρ → ∀ E, wpAny (model G.prog G.w) A (exec st env) (x4 G k A Xc env K Y s o) E s
noncomputable def ExL (G : Gd) (k : Nat) (K : Kn) (ρ : Rho) (ss : List Stmt) (o : Out) : Prop := ∀ A Xc Y s env, StC G k A Xc Y s env K ρ → ∀ E, wpAny (model G.prog G.w) A (execs ss env) (x4 G k A Xc env K Y s o) E s
section
variable {G : Gd} {k n : Nat} {cf : Cf} {mu : List Str} {K : Kn} {ρ : Rho} {A : Around} {Xc Y Y' : List Addr} {s s' : Shared} {env : Env}
theorem x4.pre {Y₁ : List Addr} {s₁ : Shared} {o : Out} {f : Flow} (ti : G.TI s.heap) (t : Stp G Y s Y₁ s₁) (p : x4 G k A Xc env K Y₁ s₁ o f s') : x4 G k A Xc env K Y s o f s' := by
 refine zQ p fun Y' t' h => ?_
 exact ⟨Y', t.trans ti t', h⟩
theorem xV {x : Str} (h : zR x = true) : (x == ("__debug__" : Str)) = false ∧ (x == ("__classdict__" : Str)) = false := by
 unfold zR at h
 simpa using h
theorem xg {x : Str} (h : zd K x = true) : K.lookup x = some .local ∨ K.lookup x = some .cell := by
 unfold zd at h
 split at h
 ·rename_i q; exact .inl q
 ·rename_i q; exact .inr q
 ·cases h
theorem xq (ok : zZ G cf k) {x : Str} {px pos : Pos} {v : Expr} {d : D} (hk : zd K x = true) (hd : evD cf n K ρ v = some d) (hp : d.pure = true) (hs : ∀ env : Env, zfd env K → swapsWith v (some (.Name x px)) pos.line env = pure false) :
  ExS G k K ρ (.Assign [.Name x px] v pos) (.next (stD ρ x d)) := by
 intro A Xc Y s env c E
 refine wpAny_Assign_Name (((zt ok n).ev _ _ _ _ hd A _ s env c.cxt).post fun vv s₁ g r => ?_) (hs env c.cxt.env.k)
 have c₁ := c.gr g
 exact xa c₁ (xg hk) (r.rd hp) fun s₂ t c₂ => ⟨Y, (Stp.gr g).trans c.cx.ti t, rfl, c₂⟩
noncomputable def lc : Expr → Bool
 | .ListComp .. => true
 | _ => false
theorem zj3 {v : Expr} {d : D} (h : evD cf n K ρ v = some d) (hn : lc v = false) (t : Expr) (l : Nat) (env : Env) : swapsWith v (some t) l env = pure false := by
 cases n with
 | zero => exact zA h
 | succ n => cases v <;> first | rfl | exact Bool.noConfusion (show true = false from hn) | exact zA h
theorem znH (ok : zZ G cf k) {x : Str} {px pos p : Pos} {es : List Expr} {ds : List D} (hk : zd K x = true) (hd : evL cf n K ρ es = some ds) (hp : (ds.all D.pure && Nat.ble ds.length zK) = true) :
  ExS G k K ρ (.Assign [.Name x px] (.List es p) pos) (.next (stD ρ x (.own ds))) := by
 intro A Xc Y s env c E
 refine zk (zeX hp) fun h1 h2 => ?_
 refine wpAny_Assign_Name (List_ (wpAny_mono ((zt ok n).ls _ _ _ _ hd A _ s env p c.cxt E) (fun vs s₁ h₁ => ?_) fun zz zz e => e))
 refine zk h₁ fun g r => ?_
 have c₁ := c.gr g
 have rl := yA r h1
 refine wpAny_newObj_type ?_ ?_
 ·exact zjk c₁ (s₁ := { s₁ with heap := s₁.heap.push (zW vs 0) }) Gr.push' (xg hk) (xO (o := zW vs 0)) (Heap.get?_push_size _ rfl) rl fun s₂ t c₂ => ⟨_, (Stp.gr g).trans c.cx.ti t, rfl, c₂⟩
 ·show vs.toArray.size ≤ sizeLine
  rw [List.size_toArray, rl.length]; exact h2
theorem zh0 (ok : zZ G cf k) {e : Expr} {o : Out} (h : za1 (evD cf n K ρ) ρ e = some o) (c : StC G k A Xc Y s env K ρ) {E : Value → Shared → Prop} :
  wpAny (model G.prog G.w) A (eval e env) (fun v s' => x4 G k A Xc env K Y s o (.ret v) s') E s := by
 unfold za1 at h
 set_option tactic.hygienic true in split at h
 ·rename_i ds hds
  cases h
  set_option tactic.hygienic true in split at hds
  ·rename_i x p
   split at hds
   ·rename_i es hl
    injection eT hds fun hpn hds => ?_
    cases hds
    refine xl c.ex fun m W ea hW => ?_
    refine zcj (zex ea hl) fun a vs j e1 e2 e3 e4 e5 => ?_
    refine zk (xV hpn) fun n1 n2 => ?_
    refine zbG ea.k ea.ns e2 n1 n2 ⟨Y, Stp.refl, _, rfl, Rd.lst' (c.dis a (hW _ _ e1)) e4 (e5.less fun b hb => List.mem_append_right _ hb)⟩
   ·exact zA hds
  ·exact zA hds
 ·injection eS h fun d hd h => ?_
  injection eT h fun hp h => ?_
  cases h
  refine ((zt ok n).ev _ _ _ _ hd A _ s env c.cxt).post fun v s₁ g r => ?_
  exact ⟨Y, Stp.gr g, v, rfl, (r.rd hp).less fun b hb => List.mem_append_right _ hb⟩
theorem zlm (ok : zZ G cf k) {e : Expr} {pos : Pos} {o : Out} (h : za1 (evD cf n K ρ) ρ e = some o) : ExS G k K ρ (.Return (some e) pos) o := by
 intro A Xc Y s env c E
 exact wpAny_Return_some (zh0 ok h c)
theorem zmy (ok : zZ G cf k) {t b e : Expr} {p pos : Pos} {o : Out} (h : (match tsD cf n K ρ t with | some true => za1 (evD cf n K ρ) ρ b | some false => za1 (evD cf n K ρ) ρ e | none => none) = some o) : ExS G k K ρ (.Return (some (.IfExp t b e p)) pos) o := by
 intro A Xc Y s env c E
 refine wpAny_Return_some (IfExp_ ?_)
 split at h
 ·rename_i ht
  refine ((zt ok n).ts _ _ _ _ ht).post c.cxt fun s₁ g₁ => ?_
  exact wpAny_mono (zh0 ok h (c.gr g₁)) (fun v s' p => p.pre c.cx.ti (Stp.gr g₁)) fun zz zz e => e
 ·rename_i ht
  refine ((zt ok n).ts _ _ _ _ ht).post c.cxt fun s₁ g₁ => ?_
  exact wpAny_mono (zh0 ok h (c.gr g₁)) (fun v s' p => p.pre c.cx.ti (Stp.gr g₁)) fun zz zz e => e
 ·exact zA h
theorem x_if (ok : zZ G cf k) {t : Expr} {b e : List Stmt} {pos : Pos} {o : Out} {c : Bool} (ht : tsD cf n K ρ t = some c) (hb : ExL G k K ρ (if c then b else e) o) : ExS G k K ρ (.If t b e pos) o := by
 intro A Xc Y s env st E
 refine wpAny_If (((zt ok n).ts _ _ _ _ ht).post st.cxt fun s₁ g₁ => ?_)
 have := wpAny_mono (hb A Xc Y s₁ env (st.gr g₁) E) (fun v s' p => p.pre st.cx.ti (Stp.gr g₁)) fun zz zz e => e
 cases c <;> exact this
theorem zkK (ok : zZ G cf k) {t : Expr} {pos : Pos} (ht : tsD cf n K ρ t = some true) : ExS G k K ρ (.Assert t none pos) (.next ρ) := by
 intro A Xc Y s env st E
 exact wpAny_Assert_holds (((zt ok n).ts _ _ _ _ ht).post st.cxt fun s₁ g₁ => ⟨rfl, Y, Stp.gr g₁, rfl, st.gr g₁⟩)
theorem zl1 {pos : Pos} : ExS G k K ρ (.Break pos) (.brk ρ) := by
 intro A Xc Y s env st E
 exact wpAny_Break ⟨Y, Stp.refl, rfl, st⟩
theorem zpj (ok : zZ G cf k) {x : Str} {p pos : Pos} {e : Expr} {i j : Int} (hk : zd K x = true) (hpn : zR x = true) (hx : evD cf (n + 1) K ρ (.Name x p) = some (.int i)) (he : evD cf n K ρ e = some (.int j)) :
  ExS G k K ρ (.AugAssign (.Name x p) .Add e pos) (.next (stD ρ x (.int (i + j)))) := by
 intro A Xc Y s env c E
 replace hx : yb cf K ρ x = some (.int i) := hx
 have hl : ρ.lookup x = some (.int i) ∨ ρ.lookup x = none := by
  unfold yb at hx
  split at hx
  ·exact zA hx
  ·split at hx
   ·rename_i d hl
    split at hx
    ·exact zA hx
    ·exact zA hx
    ·cases hx; exact .inl hl
   ·rename_i hl; exact .inr hl
 rcases hl with hl | hl
 ·refine xl c.ex fun m W ea hW => ?_
  rcases ea.vars x _ hl with q | ⟨v, q, b⟩
  ·cases q
  ·have rv : Rv G.C (Y ++ Xc) s.heap (.int i) v := b.rv (by simp)
   refine zU rv.int fun t zz1 => ?_; subst zz1
   have ld : ∀ Q : Value → Shared → Prop, Q (.int i t) s → wpAny (model G.prog G.w) A (loadName env x) Q E s := by
    intro Q hq
    refine zk (xV hpn) fun n1 n2 => ?_
    rcases q with ⟨hk, hm⟩ | ⟨hk | hk, cc, hc, hv⟩
    ·exact wpAny_loadName_local ea.k.kind hk ea.ns hm hq
    ·exact wpAny_loadName_cell ea.k.kind hk hc hv hq
    ·exact wpAny_loadName_free ea.k.kind hk hc hv hq n2
   refine wpAny_AugAssign_Name (ld _ (((zt ok n).ev _ _ _ _ he A _ s env c.cxt).post fun v s₁ g r => ?_))
   refine zU r.int fun u zz1 => ?_; subst zz1
   have c₁ := c.gr g
   refine AutoIntOps.iadd_0 ?_
   have g₂ : Gr G s₁ { s₁ with toks := s₁.toks + 1 } := Gr.tok
   exact xa (c₁.gr g₂) (xg hk) Rd.int' fun s₂ t c₂ => ⟨Y, ((Stp.gr g).trans c.cx.ti (Stp.gr g₂)).trans c.cx.ti t, rfl, c₂⟩
 ·exfalso
  have := xg hk
  unfold yb at hx
  split at hx
  ·exact zA hx
  ·rw [hl] at hx
   dsimp only at hx
   rcases this with q | q <;> rw [q] at hx <;> exact zA hx
theorem zlD (ok : zZ G cf k) {x : Str} {xp apos cpos pos : Pos} {a : Expr} {ds : List D} {d : D} (hp : (apos.endLine == cpos.line) = true) (hpn : zR x = true) (hl : ρ.lookup x = some (.own ds)) (ha : evD cf n K ρ a = some d) (hd : (d.pure && Nat.ble ds.length zK) = true) :
  ExS G k K ρ (.Expr (.Call (.Attribute (.Name x xp) "append" apos) [a] [] cpos) pos) (.next (xi ρ x (.own (ds ++ [d])))) := by
 intro A Xc Y s env c E
 rw [Bool.and_eq_true] at hd
 refine xl c.ex fun m W ea hW => ?_
 refine zcj (zex ea hl) fun l vs j e1 e2 e3 e4 e5 => ?_
 refine zk (xV hpn) fun n1 n2 => ?_
 refine wpAny_Expr (wpAny_Call_method_lateS rfl ?_ hp (zbG ea.k ea.ns e2 n1 n2 ?_)) (by unfold interactive; rw [ea.k.kind]; rfl) rfl
 ·rw [yL ha]; rfl
 ·rw [yL ha]
  refine ⟨"list", "list.append", F.plainAttrs_list, slot_list_append, F.type_list_append, ⟨_, e4, rfl⟩, (fun a q => by cases q; exact ⟨_, e4, rfl⟩), callWith_builtin rfl (evalArgs_plain (spliced_cons (((zt ok n).ev _ _ _ _ ha A _ s env c.cxt).post fun v s₁ g r => spliced_nil ?_)))⟩
  have c₁ := c.gr g
  have ea₁ := ea.gr c.xok c.cx g
  have hg₁ := g.heap _ _ (c.cx.notTab e4 zv) e4
  have rl := (e5.gr c.xok.tabs g).append (.cons (r.rd hd.1) .nil)
  refine wpAny_list_append_plain (items := vs.toArray) ⟨j, hg₁⟩ (fun h' hl' hs' => ?_) (by rw [z5, e5.length]; exact (zaN hd.2).2.2)
  refine zU hl' fun j' hj => ?_
  obtain ⟨t, c₂⟩ := zhB (t := s₁.toks) (vs' := vs ++ [v]) (n' := j') c₁ ea₁ hW hl e1 hg₁ hs' (by rw [hj]; simp) rl
  exact ⟨Y, (Stp.gr g).trans c.cx.ti t, rfl, c₂⟩
theorem ze2 {M : Model} {b : Addr} {ob : Obj} {us : Array Value} {pos : Pos} {e : Expr} {E : Value → Shared → Prop} {Q : Value → Shared → Prop} (hb : s.heap.get? b = some ob) (hc : ob.cls = .type "builtin_function_or_method") (hd : ob.data = .fields us)
  (he : starEach [e] env = (false, eval e env) :: starEach [] env) (h : wpAny M A (eval e env) (fun v s₁ => s₁.heap.get? b = some ob ∧ wpAny M A (call (.ref b) [v]) Q E s₁) E s) :
  wpAny M A (callWith pos (.ref b) [] (backTo pos (starEach [e] env)) []) Q E s := by
 rw [he]
 show wpAny M A (callWith pos (.ref b) [] [(false, eval e env)] []) Q E s
 refine wpAny_bind (wpAny_holding (evalArgs_plain (spliced_cons (wpAny_mono h (fun v s₁ h₁ => spliced_nil (wpAny_bind (wpAny_standAt ?_))) fun zz zz x => x))))
 have kp : wpAny M A (keeperOf (.ref b)) (fun r s' => r = .machine ∧ s' = s₁) E s₁ := by
  refine wpAny_bind (wpAny_load h₁.1 ?_)
  rw [hd]
  dsimp only
  rw [hc, if_pos (by decide), if_pos (by decide)]
  exact wpAny_pure ⟨rfl, rfl⟩
 refine wpAny_bind (wpAny_mono kp (fun r s' hr => ?_) fun zz zz x => x)
 refine zk hr fun zz0 zz1 => ?_; subst zz0; subst zz1
 exact wpAny_bind (wpAny_mono h₁.2 (fun r s₂ hr => wpAny_bind (wpAny_holding (wpAny_point (wpAny_pure hr)))) fun zz zz x => x)
theorem zpd (ok : zZ G cf k) {f x : Str} {fp cpos pos : Pos} {a : Expr} {ds : List D} {d : D} (hpn : zR f = true) (hf : ρ.lookup f = some (.app x)) (hl : ρ.lookup x = some (.own ds)) (ha : evD cf n K ρ a = some d) (hd : (d.pure && Nat.ble ds.length zK) = true) :
  ExS G k K ρ (.Expr (.Call (.Name f fp) [a] [] cpos) pos) (.next (xi ρ x (.own (ds ++ [d])))) := by
 intro A Xc Y s env c E
 rw [Bool.and_eq_true] at hd
 refine xl c.ex fun m W ea hW => ?_
 refine zcj (zex ea hl) fun l vs j e1 e2 e3 e4 e5 => ?_
 refine zk (xV hpn) fun n1 n2 => ?_
 rcases ea.vars f _ hf with q | ⟨fv, q, b⟩
 ·cases q
 obtain ⟨l', bb, f1, rfl, f3, ob, us, f4, f5, f6, f7, f8⟩ := b
 rw [e1] at f1; cases f1
 refine wpAny_Expr (PyProof.Rows.Call_ (zbG ea.k ea.ns q n1 n2 ?_)) (by unfold interactive; rw [ea.k.kind]; rfl) rfl
 refine ze2 f4 f5 f6 (yL ha [] env) (((zt ok n).ev _ _ _ _ ha A _ s env c.cxt).post fun v s₁ g r => ?_)
 have c₁ := c.gr g
 have ea₁ := ea.gr c.xok c.cx g
 have hg₁ := g.heap _ _ (c.cx.notTab e4 zv) e4
 have hb₁ := g.heap _ _ (fun q => f3 (c.xok.tabs _ q)) f4
 have rl := (e5.gr c.xok.tabs g).append (.cons (r.rd hd.1) .nil)
 refine ⟨hb₁, zih hb₁ f5 f6 f7 f8 ⟨j, hg₁⟩ (by rw [z5, e5.length]; exact (zaN hd.2).2.2) fun h' hl' hs' => ?_⟩
 refine zU hl' fun j' hj => ?_
 obtain ⟨t, c₂⟩ := zhB (t := s₁.toks) (vs' := vs ++ [v]) (n' := j') c₁ ea₁ hW hl e1 hg₁ hs' (by rw [hj]; simp) rl
 exact ⟨Y, (Stp.gr g).trans c.cx.ti t, rfl, c₂⟩
end
end
section
section
variable {G : Gd} {k n : Nat} {cf : Cf} {mu : List Str} {K : Kn} {ρ : Rho} {A : Around} {Xc Y Y' : List Addr} {s s' : Shared} {env : Env}
theorem zjw {x r : Str} {px rp p pos : Pos} {ds : List D} (hk : zd K x = true) (hl : ρ.lookup r = some (.own ds)) (hpn : (zR r && (r != x)) = true) :
  ExS G k K ρ (.Assign [.Name x px] (.Attribute (.Name r rp) "append" p) pos) (.next (stD ρ x (.app r))) := by
 intro A Xc Y s env c E
 rw [Bool.and_eq_true] at hpn
 refine zk (xV hpn.1) fun n1 n2 => ?_
 have hrx : r ≠ x := by simpa using hpn.2
 refine xl c.ex fun m W ea hW => ?_
 refine zcj (zex ea hl) fun l vs j e1 e2 e3 e4 e5 => ?_
 refine wpAny_Assign_Name ?_
 rw [arm_eval_Attribute]
 refine wpAny_bind (zbG ea.k ea.ns e2 n1 n2 (wpAny_bind (wpAny_standAt ?_)))
 refine wpAny_bind (wpAny_holding (zhg e4 rfl rfl (fun zz q => by cases q) (wpAny_bind (wpAny_letTemporaryGo (wpAny_pure ?_)))))
 generalize hob : ({ cls := .type "builtin_function_or_method", data := .fields #[.builtin "list.append", .ref l] } : Obj) = ob
 have g : Gr G s { s with heap := s.heap.push ob, toks := s.toks + 1 } := Gr.push
 have c₁ := c.gr g
 have ea₁ := ea.gr c.xok c.cx g
 have fresh : s.heap.objs.size ∉ Y ++ Xc := zdg c.xok
 have hb : (s.heap.push ob).get? s.heap.objs.size = some ob := Heap.get?_push_size _ (by rw [← hob]; rfl)
 refine zc8 c₁ (xg hk) ea₁.ns fun T h' m' t hT hs nt hn' hm hv kc kce hnl => ?_
 have nT : NT (s.heap.push ob) T := c₁.nt T hT
 have up : ∀ b o, b ∉ Y ++ Xc → (s.heap.push ob).get? b = some o → h'.get? b = some o := fun b o hb e => SameBut.up hs (fun q => hb (by rw [q]; exact List.mem_append_left _ hT)) e
 have stp : Stp G Y { s with heap := s.heap.push ob, toks := s.toks + 1 } Y { s with heap := h', toks := t } := ⟨fun zz h => h, fun zz h => .inl h, (GrB.same (s := { s with heap := s.heap.push ob, toks := s.toks + 1 }) hs nT).mono fun y hy => by rw [List.mem_singleton.mp hy]; exact hT⟩
 refine ⟨Y, (Stp.gr g).trans c.cx.ti stp, rfl, ⟨c.room, stp.cx c₁.cx c.hbY, c₁.xok.same hs nt, c.xc, ⟨m', (fun y => if y = x then none else W y), ?_, ?_⟩, c.loc, ?_, c.apart, ?_, c.dis, c.hbY, c.celX, c.noFree⟩⟩
 ·refine ea₁.store hn' hm (fun y hy => by simp [hy]) ?_ kc (fun b o hb e => ⟨hb, up b o hb e⟩) (fun y a vs n hy hwa hx hg => ⟨hx, SameBut.up hs (hnl _ _ _ hg) hg⟩) hv ?_
  ·intro y z a h1 h2
   by_cases hy : y = x
   ·simp [hy] at h1
   ·by_cases hz : z = x
    ·simp [hz] at h2
    ·simp only [hy, hz, if_false] at h1 h2; exact ea.inj y z a h1 h2
  ·exact ⟨l, s.heap.objs.size, by simp [hrx, e1], rfl, fresh, ob, _, up _ _ fresh hb, by rw [← hob], by rw [← hob], rfl, rfl⟩
 ·intro y a hy
  by_cases q : y = x
  ·simp [q] at hy
  ·simp only [q, if_false] at hy; exact hW y a hy
 ·intro y cc h1 h2
  refine zk (c₁.cel y cc h1 h2) fun a u => ?_
  exact ⟨a, kce y cc h1 u⟩
 ·intro y hy; exact (c₁.nt y hy).same hs nt
theorem zht {x y : Str} {px py fp : Pos} {a f : Expr} {as : List Expr} {ks : List Keyword} {kk k2 : Nat} {tp vp : Pos} (ek : zfd env K) (h1 : K.lookup x = some .local) (h2 : K.lookup y = some .local) (hl : px.line = py.line) (hxy : x ≠ y) (ha : ∀ e p, a ≠ .Starred e p) :
  swappedStores [.Tuple [.Name x px, .Name y py] kk tp] (.Tuple [a, .Call f as ks fp] k2 vp) env = pure (some [x, y]) := by
 have k1 : env.kindOf x = some .local := by unfold Env.kindOf; rw [ek.names]; exact h1
 have k2' : env.kindOf y = some .local := by unfold Env.kindOf; rw [ek.names]; exact h2
 have hb : env.blockKind = .function := by unfold Env.blockKind; rw [ek.kind]; rfl
 have hst : (match a with | .Starred .. => true | _ => false) = false := by cases a <;> first | rfl | exact absurd rfl (ha _ _)
 have hf : ([a, Expr.Call f as ks fp].all (foldedForSure 8)) = false := by rw [List.all_cons, List.all_cons]; show (_ && (false && _)) = false; simp
 have hc : ([a, Expr.Call f as ks fp].all (constantsAlone 8)) = false := by rw [List.all_cons, List.all_cons]; show (_ && (false && _)) = false; simp
 have hs : ([a, Expr.Call f as ks fp].any fun | .Starred .. => true | _ => false) = false := by
  rw [List.any_cons, List.any_cons]
  show (_ || (false || false)) = false
  rw [Bool.or_false, Bool.or_false]
  cases a <;> first | rfl | exact absurd rfl (ha _ _)
 have hn : ([Expr.Name x px, Expr.Name y py].filterMap fun
  | .Name id pos => if env.kindOf id == some .local && pos.line == px.line then some id else none
  | _ => none) = [x, y] := by
  simp [List.filterMap_cons, k1, k2', hl]
 have hd' : [x, y].eraseDups = [x, y] := by
  have q : (y == x) = false := by simp [Ne.symm hxy]
  simp [List.eraseDups, List.eraseDupsBy, List.eraseDupsBy.loop, q]
 unfold swappedStores
 dsimp only
 refine (if_neg (by rw [hb]; simp)).trans ?_
 refine (if_neg (fun q => Bool.noConfusion (hs.symm.trans q))).trans ?_
 generalize hN : List.filterMap _ _ = names
 have hN' : names = [x, y] := hN.symm.trans hn
 subst hN'
 refine (if_neg (by rw [Bool.or_eq_true, not_or]; exact ⟨by simp, by rw [hd']; simp⟩)).trans ?_
 exact (if_neg (by rw [hf]; simp)).trans (if_neg (by rw [hc]; simp))
end
end
section
section
variable {G : Gd} {k n : Nat} {cf : Cf} {mu : List Str} {K : Kn} {ρ : Rho} {A : Around} {Xc Y Y' : List Addr} {s s' : Shared} {env : Env}
theorem zpp (ok : zZ G cf k) {x y : Str} {px py fp tp vp pos : Pos} {a f : Expr} {as : List Expr} {ks : List Keyword} {kk k2 : Nat} {da db : D} (h1 : K.lookup x = some .local) (h2 : K.lookup y = some .local) (hl : px.line = py.line) (hxy : x ≠ y)
  (ha : evD cf n K ρ a = some da) (hb : evD cf n K ρ (.Call f as ks fp) = some db) (hp : (da.pure && db.pure) = true) :
  ExS G k K ρ (.Assign [.Tuple [.Name x px, .Name y py] kk tp] (.Tuple [a, .Call f as ks fp] k2 vp) pos) (.next (stD (stD ρ y db) x da)) := by
 intro A Xc Y s env c E
 rw [Bool.and_eq_true] at hp
 have hns : ∀ e p, a ≠ .Starred e p := fun e p q => by
  subst q
  cases n with
  | zero => exact zA ha
  | succ n => exact zA ha
 refine Assign_Tuple_swapped (names := [x, y]) (Tuple_ ?_) rfl (zht c.cxt.env.k h1 h2 hl hxy hns)
 refine args_cons (((zt ok n).ev _ _ _ _ ha A _ s env c.cxt).post fun va s₁ g₁ r₁ => ?_) (yL ha _ env)
 have c₁ := c.gr g₁
 refine args_cons (((zt ok n).ev _ _ _ _ hb A _ s₁ env c₁.cxt).post fun vb s₂ g₂ r₂ => ?_) (yL hb _ env)
 refine args_nil ?_
 have c₂ := c₁.gr g₂
 refine wpAny_newObj_type ?_ (by show 2 ≤ sizeLine; decide)
 have g₃ : Gr G s₂ { s₂ with heap := s₂.heap.push (y9 [va, vb] 0) } := Gr.push'
 have c₃ := c₂.gr g₃
 have hh : A.handled = none := c.room.hh
 refine unpackItems_tuple (items := [va, vb].toArray) hh ⟨_, Heap.get?_push_size _ rfl, rfl, 0, rfl⟩ fun h' he => ?_
 have g₄ : Gr G { s₂ with heap := s₂.heap.push (y9 [va, vb] 0) } { s₂ with heap := h' } := Gr.of (s := { s₂ with heap := s₂.heap.push (y9 [va, vb] 0) }) (tk := s₂.toks) fun b o e => he b o (fun q => by rw [q, xO (o := y9 [va, vb] 0)] at e; exact zA e) e
 have c₄ := c₃.gr g₄
 have ra : Rd G.C (Y ++ Xc) h' da va := Rd.gr c₃.xok.tabs g₄ (Rd.gr c₂.xok.tabs g₃ (Rd.gr c₁.xok.tabs g₂ (r₁.rd hp.1)))
 have rb : Rd G.C (Y ++ Xc) h' db vb := Rd.gr c₃.xok.tabs g₄ (Rd.gr c₂.xok.tabs g₃ (r₂.rd hp.2))
 show wpAny _ _ (do holding [va] (bindName env y vb); assignInOrder [fun v => bindName env x v] [va]) _ _ _
 refine wpAny_bind (wpAny_holding (bindName_ (xa c₄ (.inl h2) rb fun s₅ t₅ c₅ => ?_)))
 show wpAny _ _ (do holding [] (bindName env x va); assignInOrder [] []) _ _ _
 have ra₅ : Rd G.C (Y ++ Xc) s₅.heap da va := ra.imp fun b o hb e => ⟨hb, t₅.grb.heap b o (fun q => hb (List.mem_append_right _ (c.xc b q))) (fun q => hb (List.mem_append_left _ q)) e⟩
 refine wpAny_bind (wpAny_holding (bindName_ (xa c₅ (.inl h1) ra₅ fun s₆ t₆ c₆ => wpAny_pure ?_)))
 have t : Stp G Y s Y { s₂ with heap := h' } := Stp.gr (((g₁.trans g₂).trans g₃).trans g₄)
 exact ⟨Y, (t.trans c.cx.ti t₅).trans c.cx.ti t₆, rfl, c₆⟩
theorem RdL.set {C X h} : ∀ {ds : List D} {vs : List Value} {i : Nat} {d : D} {v : Value}, RdL C X h ds vs → Rd C X h d v → RdL C X h (ds.set i d) (vs.set i v)
 | [], vs, i, d, v, r, q => by rw [r.nil_inv]; exact .nil
 | e :: ds, vs, i, d, v, r, q => by
  refine xf r.cons_inv fun u us zz2 hr l => ?_; subst zz2
  cases i with
  | zero => exact .cons q l
  | succ i => exact .cons hr (RdL.set l q)
theorem zlq (ok : zZ G cf k) {x : Str} {xp sp pos : Pos} {i e : Expr} {ds : List D} {kk : Int} {z y : Str} (hi' : ∀ a b c, i ≠ .Slice a b none c) (hl : ρ.lookup x = some (.own ds)) (hc : (zR x && Nat.ble ds.length zK) = true) (hi : evD cf n K ρ i = some (.int kk))
  (h0 : kk < 0) (h1 : 0 ≤ kk + ds.length) (hz : ds[(kk + ds.length).toNat]? = some (.str z)) (he : evD cf n K ρ e = some (.str y)) (hb : Nat.ble (z.length + y.length) zK = true) :
  ExS G k K ρ (.AugAssign (.Subscript (.Name x xp) i sp) .Add e pos) (.next (xi ρ x (.own (ds.set (kk + ds.length).toNat (.str (z ++ y)))))) := by
 intro A Xc Y s env c E
 rw [Bool.and_eq_true] at hc
 refine zk (xV hc.1) fun n1 n2 => ?_
 refine xl c.ex fun m W ea hW => ?_
 refine zcj (zex ea hl) fun l vs j e1 e2 e3 e4 e5 => ?_
 have hsz := zaN hc.2
 refine wpAny_AugAssign_SubscriptAny (zbG ea.k ea.ns e2 n1 n2 (((zt ok n).ev _ _ _ _ hi A _ s env c.cxt).post fun iv s₁ g₁ r₁ => ?_)) ?_
 ·refine zU r₁.int fun t zz1 => ?_; subst zz1
  have c₁ := c.gr g₁
  have hg₁ := g₁.heap _ _ (c.cx.notTab e4 zv) e4
  have rl₁ := e5.gr c.xok.tabs g₁
  refine zQ (rl₁.get hz) fun old ho ro => ?_
  refine zU ((Rd.rv ro).str) fun u zz1 => ?_; subst zz1
  have len : vs.toArray.size = ds.length := by rw [z5, rl₁.length]
  refine wpAny_getItem_list_neg (items := vs.toArray) ⟨_, hg₁, rfl, j, rfl⟩ h0 (by rw [len]; omega) (by omega) (x := .str z u) (by rw [len]; simpa using ho) ?_
  refine ((zt ok n).ev _ _ _ _ he A _ s₁ env c₁.cxt).post fun v s₂ g₂ r₂ => ?_
  refine zU r₂.str fun w zz1 => ?_; subst zz1
  have c₂ := c₁.gr g₂
  refine PyProof.Rows.iadd_str (fun t' tk => ?_) (by have := (zaN hb).2.2; exact this)
  have g₃ : Gr G s₂ { s₂ with toks := tk } := Gr.tok
  have c₃ := c₂.gr g₃
  have g13 := g₂.trans g₃
  have ea₃ := ea.gr c.xok c.cx (g₁.trans g13)
  have hg₃ := g13.heap _ _ (c₁.cx.notTab hg₁ zv) hg₁
  have rl₃ := rl₁.gr c₁.xok.tabs g13
  refine zmb hg₃ h0 (by rw [len]; omega) (by omega) (old := .str z u) (by rw [len]; simpa using ho) fun h' mm hg' hs' => ?_
  obtain ⟨tt, c₄⟩ := zhB (t := tk) (s := { s₂ with toks := tk }) c₃ ea₃ hW hl e1 hg₃ hs' hg' (by rw [len]; exact rl₃.set Rd.str')
  exact ⟨Y, (Stp.gr (g₁.trans g13)).trans c.cx.ti tt, rfl, c₄⟩
 ·intro ov iv new
  set_option tactic.hygienic true in cases i <;> first | rfl | skip
  rename_i a b st p
  cases st with
  | none => exact absurd rfl (hi' _ _ _)
  | some _ => rfl
noncomputable def OutC (x : Option Out) (f : Rho → Option Out) (o : Out) : Prop := (∃ ρ', x = some (.next ρ') ∧ f ρ' = some o) ∨ (∃ ρ', x = some (.brk ρ') ∧ o = .next ρ') ∨ ∃ d, x = some (.ret d) ∧ o = .ret d
theorem oc {x : Option Out} {f : Rho → Option Out} {o : Out} (h : (match x with | some (.next ρ') => f ρ' | some (.brk ρ') => some (.next ρ') | some (.ret r) => some (.ret r) | none => none) = some o) : OutC x f o := by
 cases x with
 | none => exact zA h
 | some y =>
  cases y with
  | next ρ' => exact .inl ⟨_, rfl, h⟩
  | brk ρ' => cases h; exact .inr (.inl ⟨_, rfl, rfl⟩)
  | ret d => cases h; exact .inr (.inr ⟨_, rfl, rfl⟩)
theorem zl8 (ok : zZ G cf k) {t : Expr} {b : List Stmt} {pos : Pos} {o : Out} (hb : ∀ ρ o, exL cf mu n K ρ b = some o → ExL G k K ρ b o) (h : whD (fun ρ => tsD cf n K ρ t) (fun ρ => exL cf mu n K ρ b) xu ρ = some o) : ExS G k K ρ (.While t b [] pos) o := by
 intro A Xc Y s env c E
 refine wpAny_While (codeAny_whileLoop (fun m s' => ∃ Y' ρ', Stp G Y s Y' s' ∧ StC G k A Xc Y' s' env K ρ' ∧ whD (fun ρ => tsD cf n K ρ t) (fun ρ => exL cf mu n K ρ b) m ρ' = some o) ?_ xu ⟨Y, ρ, Stp.refl, c, h⟩)
 intro m s' q
 refine xf q fun Y' ρ' tt c' hw => ?_
 cases m with
 | zero => exact zA hw
 | succ m =>
  unfold whD at hw
  set_option tactic.hygienic true in split at hw
  ·rename_i ht
   refine ((zt ok n).ts _ _ _ _ ht).post c'.cxt fun s₁ g₁ => ?_
   have c₁ := c'.gr g₁
   have t₁ := tt.trans c.cx.ti (Stp.gr g₁)
   rcases oc hw with ⟨ρ₂, hρ, hw⟩ | ⟨ρ₂, hρ, rfl⟩ | ⟨d, hρ, rfl⟩ <;> refine wpAny_mono (hb _ _ hρ A Xc Y' s₁ env c₁ _) (fun f s₂ p => ?_) fun zz zz e => e
   ·refine x2 p fun Y₂ t₂ zz2 c₂ => ?_; subst zz2
    exact ⟨m, Nat.lt_succ_self _, Y₂, ρ₂, t₁.trans c.cx.ti t₂, c₂, hw⟩
   ·refine x2 p fun Y₂ t₂ zz2 c₂ => ?_; subst zz2
    exact ⟨Y₂, t₁.trans c.cx.ti t₂, rfl, c₂⟩
   ·obtain ⟨Y₂, t₂, v, rfl, r⟩ := p
    exact ⟨Y₂, t₁.trans c.cx.ti t₂, v, rfl, r⟩
  ·rename_i ht
   cases hw
   refine ((zt ok n).ts _ _ _ _ ht).post c'.cxt fun s₁ g₁ => ?_
   exact wpAny_execs_nil ⟨Y', tt.trans c.cx.ti (Stp.gr g₁), rfl, c'.gr g₁⟩
  ·exact zA hw
theorem zaH.move {X X' h h' m W} (e : zaH G env K X h ρ m W) (hn : h'.Ns env.locals m) (kX : ∀ b o, b ∉ X → h.get? b = some o → b ∉ X' ∧ h'.get? b = some o)
  (kO : ∀ x a vs j, W x = some a → a ∈ X → h.get? a = some (zW vs j) → a ∈ X' ∧ h'.get? a = some (zW vs j))
  (kc : ∀ x c u, (env.kindOf x = some .cell ∨ env.kindOf x = some .free) → env.cells.lookup x = some c → h.IsCell c (some u) → h'.IsCell c (some u)) : zaH G env K X' h' ρ m W := by
 refine ⟨e.k, hn, e.inj, fun y d hy => ?_⟩
 rcases e.vars y d hy with q | ⟨v, q, b⟩
 ·exact .inl q
 ·refine .inr ⟨v, ?_, ?_⟩
  ·rcases q with q | ⟨q1, c, q2, q3⟩
   ·exact .inl q
   ·exact .inr ⟨q1, c, q2, kc y c v q1 q2 q3⟩
  ·cases d with
   | own ds =>
    refine zcj b fun a vs j e1 e2 e3 e4 e5 => ?_
    refine zk (kO y a vs j e1 e3 e4) fun a1 a2 => ?_
    exact ⟨a, vs, j, e1, e2, a1, a2, e5.imp kX⟩
   | app z =>
    obtain ⟨a, b, e1, e2, hx, o, vs, hg, r⟩ := b
    exact ⟨a, b, e1, e2, (kX b o hx hg).1, o, vs, (kX b o hx hg).2, r⟩
   | _ => exact Rd.imp kX b
theorem zdE (c : StC G k A Xc Y s env K ρ) {x : Str} {cc : Addr} (h : env.kindOf x = some .cell ∨ env.kindOf x = some .free) (hc : env.cells.lookup x = some cc) : cc ∈ Y := by
 unfold Env.kindOf at h
 rw [c.cxt.env.k.names] at h
 rcases h with h | h
 ·exact (c.cel x cc hc h).1
 ·exact absurd h (c.noFree x)
theorem StC.into (c : StC G k A Xc Y s env K ρ) {wr : List Addr} {s₂ : Shared} (g : Gr G s s₂) (up : ∀ b o, s.heap.get? b = some o → s₂.heap.get? b = some o) (hwr : ∀ b ∈ wr, s.heap.get? b = none) (hnt : ∀ b ∈ wr, NT s₂.heap b) : StC G k A (wr ++ Xc) Y s₂ env K ρ := by
 have c₂ := c.gr g
 refine xl c.ex fun m W e hW => ?_
 refine ⟨c.room, c₂.cx, ⟨fun a ha => List.mem_append_right _ (List.mem_append_right _ (c.xc a ha)), fun a ha => ?_⟩, fun a ha => List.mem_append_right _ (c.xc a ha), ⟨m, W, e.move (e.ns.at' fun o q => up _ o q) (fun b o hb q => ⟨fun z => ?_, up b o q⟩) (fun x a vs j h1 h2 h3 => ⟨?_, up _ _ h3⟩) (fun x cc u zz zz h => IsCell.at' h fun o q => up _ o q), hW⟩, c.loc, c₂.cel, c.apart, c₂.nt, fun a ha q => ?_, c.hbY, c.celX, c.noFree⟩
 ·rcases List.mem_append.mp ha with h | h
  ·exact c₂.xok.live a (List.mem_append_left _ h)
  ·rcases List.mem_append.mp h with h | h
   ·refine zQ (hnt a h) fun o ho zz2 => ?_; exact ⟨o, ho⟩
   ·exact c₂.xok.live a (List.mem_append_right _ h)
 ·rcases List.mem_append.mp z with z | z
  ·exact hb (List.mem_append_left _ z)
  ·rcases List.mem_append.mp z with z | z
   ·rw [hwr b z] at q; exact zA q
   ·exact hb (List.mem_append_right _ z)
 ·exact List.mem_append_left _ (hW x a h1)
 ·rcases List.mem_append.mp q with q | q
  ·refine zU (c.xok.live a (List.mem_append_left _ ha)) fun o ho => ?_
   rw [hwr a q] at ho; exact zA ho
  ·exact c.dis a ha q
theorem StC.turn {wr : List Addr} (c : StC G k A (wr ++ Xc) Y s env K ρ) {h' : Heap} {tk : Nat} (hk : ∀ b o, b ∉ wr → s.heap.get? b = some o → h'.get? b = some o) (hnt : ∀ b ∈ wr, NT s.heap b) (hnt' : ∀ b ∈ wr, NT h' b) (hbw : ∀ b ∈ wr, G.hb.get? b = none) : StC G k A (wr ++ Xc) Y { s with heap := h', toks := tk } env K ρ := by
 have out : ∀ a ∈ Y, a ∉ wr := fun a ha q => c.dis a ha (List.mem_append_left _ q)
 have gb : GrB G wr s { s with heap := h', toks := tk } := GrB.change hk hnt
 refine xl c.ex fun m W e hW => ?_
 refine ⟨c.room, ⟨fun b o q => ?_, gb.ti c.cx.ti⟩, ⟨c.xok.tabs, fun a ha => ?_⟩, c.xc, ⟨m, W, e.move (e.ns.at' fun o q => hk _ o (out _ c.loc) q) (fun b o hb q => ⟨hb, hk b o (fun z => hb (List.mem_append_right _ (List.mem_append_left _ z))) q⟩) (fun x a vs j h1 h2 h3 => ⟨h2, hk _ _ (out a (hW x a h1)) h3⟩) (fun x cc u h1 h2 h => IsCell.at' h fun o q => hk _ o (out _ (zdE c h1 h2)) q), hW⟩, c.loc, ?_, c.apart, ?_, c.dis, c.hbY, c.celX, c.noFree⟩
 ·by_cases z : b ∈ wr
  ·rw [hbw b z] at q; exact zA q
  ·exact hk b o z (c.cx.hb b o q)
 ·by_cases z : a ∈ wr
  ·refine zQ (hnt' a z) fun o ho zz2 => ?_; exact ⟨o, ho⟩
  ·refine zU (c.xok.live a ha) fun o ho => ?_
   exact ⟨o, hk a o z ho⟩
 ·intro y cc h1 h2
  obtain ⟨a, u, b⟩ := c.cel y cc h1 h2
  exact ⟨a, u, IsCell.at' b fun o q => hk _ o (out _ a) q⟩
 ·intro y hy
  refine zQ (c.nt y hy) fun o ho no => ?_
  exact ⟨o, hk y o (out y hy) ho, no⟩
theorem StC.out {wr : List Addr} (c : StC G k A (wr ++ Xc) Y s env K ρ) (hT : ∀ a ∈ G.T, a ∈ Xc) : StC G k A Xc Y s env K ρ := by
 refine xl c.ex fun m W e hW => ?_
 have sub : ∀ b, b ∈ Y ++ Xc → b ∈ Y ++ (wr ++ Xc) := fun b hb => (List.mem_append.mp hb).elim (fun q => List.mem_append_left _ q) fun q => List.mem_append_right _ (List.mem_append_right _ q)
 exact ⟨c.room, c.cx, ⟨fun a ha => List.mem_append_right _ (hT a ha), fun a ha => c.xok.live a (sub a ha)⟩, hT, ⟨m, W, e.move e.ns (fun b o hb q => ⟨fun z => hb (sub b z), q⟩) (fun x a vs j h1 h2 h3 => ⟨List.mem_append_left _ (hW x a h1), h3⟩) (fun x cc u h1 h2 h => h), hW⟩, c.loc, c.cel, c.apart, c.nt, fun a ha q => c.dis a ha (List.mem_append_right _ q), c.hbY, c.celX, c.noFree⟩
theorem StC.last {wr : List Addr} (c : StC G k A (wr ++ Xc) Y s env K ρ) {h' : Heap} {tk : Nat} (hk : ∀ b o, b ∉ wr → s.heap.get? b = some o → h'.get? b = some o) (hnt : ∀ b ∈ wr, NT s.heap b) (hbw : ∀ b ∈ wr, G.hb.get? b = none) (hT : ∀ a ∈ G.T, a ∈ Xc) (hx : ∀ a ∈ Xc, a ∉ wr) : StC G k A Xc Y { s with heap := h', toks := tk } env K ρ := by
 have out : ∀ a ∈ Y, a ∉ wr := fun a ha q => c.dis a ha (List.mem_append_left _ q)
 have gb : GrB G wr s { s with heap := h', toks := tk } := GrB.change hk hnt
 refine xl c.ex fun m W e hW => ?_
 have sub : ∀ b, b ∈ Y ++ Xc → b ∈ Y ++ (wr ++ Xc) := fun b hb => (List.mem_append.mp hb).elim (fun q => List.mem_append_left _ q) fun q => List.mem_append_right _ (List.mem_append_right _ q)
 refine ⟨c.room, ⟨fun b o q => ?_, gb.ti c.cx.ti⟩, ⟨fun a ha => List.mem_append_right _ (hT a ha), fun a ha => ?_⟩, hT, ⟨m, W, e.move (e.ns.at' fun o q => hk _ o (out _ c.loc) q) (fun b o hb q => ⟨fun z => hb (sub b z), hk b o (fun z => hb (List.mem_append_right _ (List.mem_append_left _ z))) q⟩) (fun x a vs j h1 h2 h3 => ⟨List.mem_append_left _ (hW x a h1), hk _ _ (out a (hW x a h1)) h3⟩) (fun x cc u h1 h2 h => IsCell.at' h fun o q => hk _ o (out _ (zdE c h1 h2)) q), hW⟩, c.loc, ?_, c.apart, ?_, fun a ha q => c.dis a ha (List.mem_append_right _ q), c.hbY, c.celX, c.noFree⟩
 ·by_cases z : b ∈ wr
  ·rw [hbw b z] at q; exact zA q
  ·exact hk b o z (c.cx.hb b o q)
 ·refine zU (c.xok.live a (sub a ha)) fun o ho => ?_
  exact ⟨o, hk a o ((List.mem_append.mp ha).elim (out a) (hx a)) ho⟩
 ·intro y cc h1 h2
  obtain ⟨a, u, b⟩ := c.cel y cc h1 h2
  exact ⟨a, u, IsCell.at' b fun o q => hk _ o (out _ a) q⟩
 ·intro y hy
  refine zQ (c.nt y hy) fun o ho no => ?_
  exact ⟨o, hk y o (out y hy) ho, no⟩
structure zcL (G : Gd) (A : Around) (tg : Expr) (I : Addr) (fp wr : List Addr) (N : Nat) (P : Nat → Value → Heap → Prop) (St : Nat → Heap → Prop) : Prop where
 frame : ∀ i h h', St i h → (∀ b ∈ fp, ∀ o, h.get? b = some o → h'.get? b = some o) → St i h'
 nt : ∀ i h, St i h → ∀ b ∈ wr, NT h b
 item : ∀ i (s : Shared) (Q : Option Value → Shared → Prop) (E : Value → Shared → Prop), i < N → St i s.heap →
  (∀ v h' tk, P i v h' → St (i + 1) h' → (∀ b o, b ∉ wr → s.heap.get? b = some o → h'.get? b = some o) → Q (some v) { s with heap := h', toks := tk }) →
  wpAny (model G.prog G.w) A (pyNext (.ref I)) (fun r s₁ => match r with
   | none => False
   | some v => wpAny (model G.prog G.w) A (letOwnedTupleGo tg (.ref I) v) (fun zz s' => Q (some v) s') E s₁) E s
 done : ∀ (s : Shared) (Q : Option Value → Shared → Prop) (E : Value → Shared → Prop), St N s.heap →
  (∀ h' tk, (∀ b o, b ∉ wr → s.heap.get? b = some o → h'.get? b = some o) → Q none { s with heap := h', toks := tk }) → wpAny (model G.prog G.w) A (pyNext (.ref I)) Q E s
theorem zcL.of {x : Str} {xp : Pos} {I : Addr} {fp wr : List Addr} {N : Nat} {P : Nat → Value → Prop} {St : Nat → Heap → Prop} (W : Walks G.prog G.w A I fp wr N P St) (nt : ∀ i h, St i h → ∀ b ∈ wr, NT h b) : zcL G A (.Name x xp) I fp wr N (fun i v zz => P i v) St :=
 ⟨W.frame, nt, fun i s Q E hi st hQ => W.item i s _ _ hi st fun v h' tk hp st' hk => wpAny_of_eq (a := ()) rfl (hQ v h' tk hp st' hk), W.done⟩
theorem Stp.more {wr : List Addr} (t : Stp G Y s Y' s') : Stp G (wr ++ Y) s (wr ++ Y') s' :=
 ⟨fun a ha => (List.mem_append.mp ha).elim (fun q => List.mem_append_left _ q) fun q => List.mem_append_right _ (t.sub a q), fun a ha => (List.mem_append.mp ha).elim (fun q => .inl (List.mem_append_left _ q)) fun q => (t.new a q).elim (fun z => .inl (List.mem_append_right _ z)) .inr,
  t.grb.mono fun y hy => List.mem_append_right _ hy⟩
theorem Stp.turn {wr : List Addr} {s₀ : Shared} (t : Stp G (wr ++ Y) s₀ Y' s) {h' : Heap} {tk : Nat} (hk : ∀ b o, b ∉ wr → s.heap.get? b = some o → h'.get? b = some o) (nt : ∀ b ∈ wr, NT s.heap b) : Stp G (wr ++ Y) s₀ Y' { s with heap := h', toks := tk } :=
 ⟨t.sub, t.new, fun b o hT hY e => hk b o (fun q => hY (List.mem_append_left _ q)) (t.grb.heap b o hT hY e), fun z => G.frame _ _ (t.grb.ti z) fun b o tk' e => hk b o (fun q => by
  refine zQ (nt b q) fun o' ho' no => ?_
  rw [e] at ho'; cases ho'
  exact no tk') e, t.grb.os, t.grb.bare⟩
theorem Stp.back {wr : List Addr} {s₁ s₂ : Shared} (g : Gr G s₁ s₂) (ti : G.TI s₁.heap) (up : ∀ b o, s₁.heap.get? b = some o → s₂.heap.get? b = some o) (hwr : ∀ b ∈ wr, s₁.heap.get? b = none) (t : Stp G (wr ++ Y) s₂ (wr ++ Y') s') (hd : ∀ a ∈ Y', a ∉ wr) (hs : ∀ a ∈ Y, a ∈ Y') : Stp G Y s₁ Y' s' :=
 ⟨hs, fun a ha => (t.new a (List.mem_append_right _ ha)).elim (fun q => (List.mem_append.mp q).elim (fun q => absurd q (hd a ha)) .inl) fun q => by
   exact (Option.eq_none_or_eq_some (s₁.heap.get? a)).elim .inr fun ⟨o, z⟩ => zA (q.symm.trans (up _ _ z)),
  fun b o hT hY e => t.grb.heap b o hT (fun q => (List.mem_append.mp q).elim (fun q => by rw [hwr b q] at e; exact zA e) hY) (up _ _ e), fun z => t.grb.ti (g.ti z), t.grb.os.trans g.os, fun z => t.grb.bare (g.bare z)⟩
noncomputable def zpb (G : Gd) (k : Nat) (A : Around) (X Y : List Addr) (s : Shared) (env : Env) (K : Kn) (J : Rho → Prop) (R : Result → Shared → Prop) (f : Flow) (s₃ : Shared) : Prop := match f with
 | .next | .cont => ∃ Y' ρ, Stp G Y s Y' s₃ ∧ StC G k A X Y' s₃ env K ρ ∧ J ρ
 | .brk => R (.ok .next) s₃
 | .ret v => R (.ok (.ret v)) s₃
theorem znR {tg : Expr} {I : Addr} {fp wr : List Addr} {N : Nat} {P : Nat → Value → Heap → Prop} {St : Nat → Heap → Prop} (T : zcL G A tg I fp wr N P St) {b : List Stmt} {R : Result → Shared → Prop}
  (hfp : ∀ b ∈ fp, b ∉ Y ∧ (∃ o, s.heap.get? b = some o) ∧ b ∉ G.T) (hbw : ∀ b ∈ wr, G.hb.get? b = none) (hwf : ∀ b ∈ wr, b ∉ Xc) (xc : ∀ a ∈ G.T, a ∈ Xc) (c : StC G k A (wr ++ Xc) Y s env K ρ) (hst : St 0 s.heap) (J : Nat → Rho → Prop) (h0 : J 0 ρ)
  (step : ∀ i v Y' s' ρ', i < N → J i ρ' → P i v s'.heap → Stp G (wr ++ Y) s (wr ++ Y') s' → (∀ b ∈ Y, b ∈ Y') → StC G k A (wr ++ Xc) Y' s' env K ρ' →
   wpAny (model G.prog G.w) A (assign tg env v) (fun zz s₂ => wpAny (model G.prog G.w) A (execs b env) (zpb G k A (wr ++ Xc) Y' s' env K (J (i + 1)) R) (notedBy (model G.prog G.w) A env fun e s' => R (.error e) s') s₂) (notedBy (model G.prog G.w) A env fun e s' => R (.error e) s') s')
  (fin : ∀ Y' s' ρ', J N ρ' → Stp G (wr ++ Y) s (wr ++ Y') s' → (∀ b ∈ Y, b ∈ Y') → (∀ b ∈ Y', b ∉ wr) → StC G k A Xc Y' s' env K ρ' → R (.ok .next) s') : codeAny (model G.prog G.w) A (.forLoop tg (.ref I) b [] env) R s := by
 refine codeAny_forLoop_any (fun m s' => ∃ i Y' ρ', N = m + i ∧ Stp G (wr ++ Y) s (wr ++ Y') s' ∧ (∀ b ∈ Y, b ∈ Y') ∧ St i s'.heap ∧ StC G k A (wr ++ Xc) Y' s' env K ρ' ∧ J i ρ') ?_ N ⟨0, Y, ρ, rfl, Stp.refl, fun zz h => h, hst, c, h0⟩
 intro m s' q
 refine zds fun Q E kQ kE => ?_
 refine e3_6 q fun i Y' ρ' hm tb hs hst' c' hj => ?_
 have nt := T.nt i _ hst'
 cases m with
 | zero =>
  rw [Nat.zero_add] at hm
  refine T.done s' Q E (hm ▸ hst') fun h₁ tk hk => kQ _ _ (wpAny_execs_nil ?_)
  exact fin Y' _ ρ' (hm ▸ hj) (tb.turn hk nt) hs (fun b hb q => c'.dis b hb (List.mem_append_left _ q)) (c'.last hk nt hbw xc fun a ha q => hwf a q ha)
 | succ m =>
  have hi : i < N := by rw [hm]; exact Nat.lt_add_of_pos_left (Nat.succ_pos m)
  have fpY : ∀ b ∈ fp, b ∉ Y' := fun b hb q => by
   refine xr (hfp b hb) fun h1 zz1 zz2 => ?_; rcases zz1 with ⟨o, e⟩
   rcases tb.new b (List.mem_append_right _ q) with z | z
   ·exact (List.mem_append.mp z).elim (fun z => c'.dis b q (List.mem_append_left _ z)) h1
   ·rw [z] at e; exact zA e
  refine wpAny_mono (T.item i s' (fun r s₃ => ∀ v, r = some v → ∃ h' tk, s₃ = { s' with heap := h', toks := tk } ∧ P i v h' ∧ St (i + 1) h' ∧ ∀ b o, b ∉ wr → s'.heap.get? b = some o → h'.get? b = some o) _ hi hst' fun v h' tk hp st' hk v' e => ?_) (fun r s₃ h₃ => ?_) kE
  ·cases e; exact ⟨h', tk, rfl, hp, st', hk⟩
  cases r with
  | none => exact h₃.elim
  | some v =>
   refine kQ _ _ (wpAny_mono h₃ (fun u s₄ h₄ => ?_) fun zz zz e => e)
   refine zjL (h₄ v rfl) fun h' tk zz2 hp st' hk => ?_; subst zz2
   have tb' := tb.turn (h' := h') (tk := tk) hk nt
   refine wpAny_mono (step i v Y' _ ρ' hi hj hp tb' hs (c'.turn hk nt (T.nt _ _ st') hbw)) (fun u s₅ h₅ => ?_) fun zz zz e => e
   refine wpAny_mono h₅ (fun f s₆ h₆ => ?_) fun zz zz e => e
   cases f with
   | brk => exact h₆
   | ret v => exact h₆
   | _ =>
    refine xf h₆ fun Y₂ ρ₂ t₂ c₂ j₂ => ?_
    exact ⟨m, Nat.lt_succ_self _, i + 1, Y₂, ρ₂, by rw [hm, Nat.succ_add, Nat.add_succ], tb'.trans c.cx.ti t₂.more, fun b hb => t₂.sub b (hs b hb), T.frame _ _ _ st' fun b hb o e => t₂.grb.heap b o (hfp b hb).2.2 (fpY b hb) e, c₂, j₂⟩
theorem Stp.rd {wr : List Addr} (t : Stp G Y s Y' s') (xc : ∀ a ∈ G.T, a ∈ Xc) (hwr : ∀ b ∈ wr, s.heap.get? b = none) {d : D} {v : Value} (r : Rd G.C (Y ++ Xc) s.heap d v) : Rd G.C (Y' ++ (wr ++ Xc)) s'.heap d v :=
 r.lift (fun b hb => (List.mem_append.mp hb).elim (fun q => (t.new b q).elim (fun z => .inl (List.mem_append_left _ z)) .inr) fun q => (List.mem_append.mp q).elim (fun q => .inr (hwr b q)) fun q => .inl (List.mem_append_right _ q))
  fun b o hb e => t.grb.heap b o (fun q => hb (List.mem_append_right _ (xc b q))) (fun q => hb (List.mem_append_left _ q)) e
theorem zlo {tg : Expr} {I : Addr} {fp wr : List Addr} {N : Nat} {P : Nat → Value → Heap → Prop} {St : Nat → Heap → Prop} (T : zcL G A tg I fp wr N P St) {s₂ : Shared} {b : List Stmt} {o : Out} {R : Result → Shared → Prop}
  (c : StC G k A Xc Y s env K ρ) (g : Gr G s s₂) (up : ∀ b o, s.heap.get? b = some o → s₂.heap.get? b = some o) (hwr : ∀ b ∈ wr, s.heap.get? b = none) (hfp : ∀ b ∈ fp, (s.heap.get? b = none ∨ b ∉ Y ++ Xc) ∧ (∃ o, s₂.heap.get? b = some o) ∧ b ∉ G.T) (hst : St 0 s₂.heap)
  {ex : Rho → Option Out} (hb : ∀ ρ o, ex ρ = some o → ExL G k K ρ b o) (F : Nat → Rho → Option Out) (σ : (i : Nat) → i < N → Rho → Rho) (hF : ∀ i hi ρ o, F i ρ = some o → OutC (ex (σ i hi ρ)) (F (i + 1)) o) (hN : ∀ ρ o, F N ρ = some o → o = .next ρ) (h : F 0 ρ = some o)
  (asg : ∀ i hi v Y' s' ρ', P i v s'.heap → (∀ {d u}, Rd G.C (Y ++ Xc) s.heap d u → Rd G.C (Y' ++ (wr ++ Xc)) s'.heap d u) → StC G k A (wr ++ Xc) Y' s' env K ρ' → ∀ Q E, (∀ s'', Stp G Y' s' Y' s'' → StC G k A (wr ++ Xc) Y' s'' env K (σ i hi ρ') → Q () s'') → wpAny (model G.prog G.w) A (assign tg env v) Q E s')
  (hR : ∀ f s', x4 G k A Xc env K Y s o f s' → R (.ok f) s') : codeAny (model G.prog G.w) A (.forLoop tg (.ref I) b [] env) R s₂ := by
 have live : ∀ b, b ∈ Y ++ Xc → s.heap.get? b ≠ none := fun b hb e => by
  refine zU (c.xok.live b hb) fun o ho => ?_
  rw [e] at ho; exact zA ho
 refine znR T (fun b hb => ⟨fun q => (hfp b hb).1.elim (live b (List.mem_append_left _ q)) fun z => z (List.mem_append_left _ q), (hfp b hb).2⟩) (fun b q => ?_) (fun b q z => live b (List.mem_append_right _ z) (hwr b q)) c.xc (c.into g up hwr (T.nt 0 _ hst)) hst (fun i ρ' => F i ρ' = some o) h (fun i v Y' s' ρ' hi hj hp tb hs c' => ?_) fun Y' s' ρ' hj tb hs hd c' => ?_
 ·cases z : G.hb.get? b with
  | none => rfl
  | some o => have := c.cx.hb b o z; rw [hwr b q] at this; exact zA this
 ·have bk := Stp.back g c.cx.ti up hwr tb (fun a ha q => c'.dis a ha (List.mem_append_left _ q)) hs
  refine asg i hi v Y' s' ρ' hp (fun r => bk.rd c.xc hwr r) c' _ _ fun s₄ t₄ c₄ => ?_
  have bt : ∀ {Y₂ s₅}, Stp G Y' s₄ Y₂ s₅ → Stp G Y s Y₂ s₅ := fun t => bk.trans c.cx.ti (t₄.trans c'.cx.ti t)
  rcases hF i hi ρ' o hj with ⟨ρ₂, hρ, hf⟩ | ⟨ρ₂, hρ, rfl⟩ | ⟨d, hρ, rfl⟩ <;> refine wpAny_mono (hb _ _ hρ A (wr ++ Xc) Y' s₄ env c₄ _) (fun f s₅ p => ?_) fun zz zz e => e
  ·refine x2 p fun Y₂ t₅ zz2 c₅ => ?_; subst zz2
   exact ⟨Y₂, ρ₂, t₄.trans c'.cx.ti t₅, c₅, hf⟩
  ·refine x2 p fun Y₂ t₅ zz2 c₅ => ?_; subst zz2
   exact hR _ _ ⟨Y₂, bt t₅, rfl, c₅.out c.xc⟩
  ·obtain ⟨Y₂, t₅, u, rfl, ru⟩ := p
   exact hR _ _ ⟨Y₂, bt t₅, u, rfl, ru.less fun b hb => List.mem_append_right _ hb⟩
 ·have := hN _ _ hj
  subst this
  exact hR _ _ ⟨Y', Stp.back g c.cx.ti up hwr tb hd hs, rfl, c'⟩
theorem ziv (ok : zZ G cf k) {x : Str} {xp pos : Pos} {it : Expr} {b : List Stmt} {o : Out} {d : D} {ds : List D} (hk : zd K x = true) (hit : evD cf n K ρ it = some d) (hds : zu d = some ds) (ex : Rho → Option Out) (hb : ∀ ρ o, ex ρ = some o → ExL G k K ρ b o)
  (h : zb0 ex x ds ρ = some o) : ExS G k K ρ (.For (.Name x xp) it b [] pos) o := by
 intro A Xc Y s env c E
 refine wpAny_For (((zt ok n).ev _ _ _ _ hit A _ s env c.cxt).post fun v s₁ g₁ r => ?_) (yi hit env)
 have c₁ := c.gr g₁
 refine wpAny_mono (zbO c.room.hh c₁.xok c₁.cx.ti (r.rd' (fun l q => by subst q; exact zA hds)) hds E) (fun itv s₂ h₂ => ?_) fun zz zz e => e
 refine za4 h₂ fun I fp wr zz3 g₂ up S => ?_; subst zz3
 refine zkd S fun St P W hst hwr hfp hlt hNT hrd => ?_
 refine zlo (zcL.of W hNT) c₁ g₂ up hwr (fun b hb => ⟨(hfp b hb).1.elim (fun q => .inl (hwr b q)) fun q => .inr q.1, ?_, (hfp b hb).2⟩) hst hb (fun i ρ => zb0 ex x (ds.drop i) ρ) (fun i hi ρ => stD ρ x ds[i]) (fun i hi ρ o h => ?_) (fun ρ o h => ?_) (by rw [List.drop_zero]; exact h) (fun i hi v Y' s' ρ' hp lift c' Q E hQ => ?_) fun f s' p => p.pre c.cx.ti (Stp.gr g₁)
 ·exact (hfp b hb).1.elim (fun q => (hNT 0 _ hst b q).elim fun o h => ⟨o, h.1⟩) fun q => q.2.elim fun o h => ⟨o, up _ _ h⟩
 ·rw [List.drop_eq_getElem_cons hi] at h
  have h : (match ds[i].pure with
   | true => (match ex (stD ρ x ds[i]) with | some (.next ρ') => zb0 ex x (ds.drop (i + 1)) ρ' | some (.brk ρ') => some (.next ρ') | some (.ret d) => some (.ret d) | none => none)
   | false => none) = some o := h
  injection eT h fun hp h => ?_
  exact oc h
 ·rw [List.drop_length] at h
  exact (Option.some.inj h).symm
 ·refine zQ (hrd i v hi hp) fun d' hd' hr0 => ?_
  have hdd : d' = ds[i] := by rw [List.getElem?_eq_getElem hi] at hd'; exact (Option.some.inj hd').symm
  exact wpAny_assign_Name (xa c' (xg hk) (hdd ▸ lift hr0) fun s₄ t₄ c₄ => hQ s₄ t₄ c₄)
end
end
section
section
variable {G : Gd} {k n : Nat} {cf : Cf} {mu : List Str} {K : Kn} {ρ : Rho}
theorem zh5 {x : Str} {px : Pos} {e : Expr} {gs : List Comprehension} {c : Scope} {p : Pos} {l : Nat} (h : K.lookup x = some .cell) (env : Env) (ek : zfd env K) : swapsWith (.ListComp e gs c p) (some (.Name x px)) l env = pure false := by
 have hk : env.kindOf x = some .cell := by unfold Env.kindOf; rw [ek.names]; exact h
 unfold swapsWith
 dsimp only
 rw [hk]
 have : (some NameKind.cell == some NameKind.local) = false := by decide
 rw [this]
 simp
theorem zfq {e : Expr} {x : Str} {p : Pos} (h : nm? e = some (x, p)) : e = .Name x p := by
 cases e with
 | Name y q => cases h; rfl
 | _ => exact zA h
theorem zl7 {e : Expr} (h : call? e = true) : ∃ f as ks p, e = .Call f as ks p := by
 cases e with
 | Call f as ks p => exact ⟨_, _, _, _, rfl⟩
 | _ => exact Bool.noConfusion h
theorem asg (ok : zZ G cf k) {x : Str} {px pos : Pos} {v : Expr} {o : Out} (hk : zd K x = true) (hs : ∀ d, evD cf (n + 1) K ρ v = some d → ∀ env : Env, zfd env K → swapsWith v (some (.Name x px)) pos.line env = pure false)
  (h : zc9 cf n K ρ x v = some o) : ExS G k K ρ (.Assign [.Name x px] v pos) o := by
 unfold zc9 at h
 injection eS h fun d hd h => ?_
 injection eT h fun hp h => ?_
 cases h
 exact xq ok hk hd hp (hs d hd)
theorem zl5 (ok : zZ G cf k) {x : Str} {px pos : Pos} {v : Expr} {o : Out} (hk : zd K x = true) (hn : lc v = false)
  (h : zc9 cf n K ρ x v = some o) : ExS G k K ρ (.Assign [.Name x px] v pos) o :=
 asg ok hk (fun d hd env zz => zj3 hd hn _ _ _) h
theorem zmz (ok : zZ G cf k) {x : Str} {px pos : Pos} {v : Expr} {o : Out} (hk : zd K x = true) (h : zgl cf mu n K ρ x v = some o) : ExS G k K ρ (.Assign [.Name x px] v pos) o := by
 cases v with
 | List es p =>
  unfold zgl at h
  dsimp only at h
  split at h
  ·injection eS h fun ds hds h => ?_
   injection eT h fun hp h => ?_
   cases h
   exact znH ok hk hds hp
  ·exact zl5 (n := n) ok hk rfl h
 | Attribute b nm p =>
  unfold zgl at h
  dsimp only at h
  set_option tactic.hygienic true in split at h
  ·rename_i r rp hb
   obtain rfl := zfq hb
   split at h
   ·rename_i hnm
    have := beq_iff_eq.mp hnm
    subst this
    split at h
    ·rename_i ds hl
     injection eT h fun hp h => ?_
     cases h
     exact zjw hk hl hp
    ·exact zA h
   ·exact zl5 (n := n) ok hk rfl h
  ·exact zl5 (n := n) ok hk rfl h
 | ListComp e gs c p =>
  unfold zgl at h
  dsimp only at h
  split at h
  ·rename_i hc
   exact asg (n := n) ok hk (fun d hd env ek => zh5 hc env ek) h
  ·exact zA h
 | _ => exact zl5 (n := n) ok hk rfl h
theorem zm6 (ok : zZ G cf k) {es : List Expr} {kk : Nat} {tp pos : Pos} {v : Expr} {o : Out} (h : zoG cf n K ρ es v = some o) : ExS G k K ρ (.Assign [.Tuple es kk tp] v pos) o := by
 unfold zoG at h
 split at h
 ·set_option tactic.hygienic true in split at h
  ·rename_i x px h1
   obtain rfl := zfq h1
   set_option tactic.hygienic true in split at h
   ·rename_i y py h2
    obtain rfl := zfq h2
    cases v with
    | Tuple vs k2 vp =>
     dsimp only at h
     split at h
     ·injection eT h fun hc h => ?_
      rw [Bool.and_eq_true] at hc
      refine e4_1 (zl7 hc.1) fun f as ks fp zz4 => ?_; subst zz4
      have hc := hc.2
      simp only [Bool.and_eq_true, beq_iff_eq, bne_iff_ne] at hc
      injection eS h fun da ha h => ?_
      injection eS h fun db hb h => ?_
      injection eT h fun hp h => ?_
      cases h
      exact zpp ok hc.1.1.1 hc.1.1.2 hc.1.2 hc.2 ha hb hp
     ·exact zA h
    | _ => exact zA h
   ·exact zA h
  ·exact zA h
 ·exact zA h
theorem znb (ok : zZ G cf k) {ts : List Expr} {v : Expr} {pos : Pos} {o : Out} (h : zog cf mu n K ρ ts v = some o) : ExS G k K ρ (.Assign ts v pos) o := by
 rcases ts with _ | ⟨t, _ | _⟩
 ·exact zA h
 ·cases t with
  | Name x px =>
   unfold zog at h
   dsimp only at h
   injection eT h fun hk h => ?_
   exact zmz ok hk h
  | Tuple es kk tp => exact zm6 ok h
  | _ => exact zA h
 ·exact zA h
theorem zl2 (ok : zZ G cf k) {x : Str} {xp sp pos : Pos} {i e : Expr} {o : Out} (h : zkS cf n K ρ x i e = some o) : ExS G k K ρ (.AugAssign (.Subscript (.Name x xp) i sp) .Add e pos) o := by
 unfold zkS at h
 set_option tactic.hygienic true in split at h
 ·rename_i ds hl
  injection eT h fun hc h => ?_
  split at h
  ·rename_i kk hk
   injection eT h fun hd h => ?_
   rw [Bool.and_eq_true, decide_eq_true_eq, decide_eq_true_eq] at hd
   set_option tactic.hygienic true in split at h
   ·rename_i z hz
    set_option tactic.hygienic true in split at h
    ·rename_i y hy
     injection eT h fun hb h => ?_
     cases h
     refine zlq ok (fun a b c q => ?_) hl hc hk hd.1 hd.2 hz hy hb
     subst q
     cases n with
     | zero => exact zA hk
     | succ n => exact zA hk
    ·exact zA h
   ·exact zA h
  ·exact zA h
 ·exact zA h
theorem zma (ok : zZ G cf k) {x : Str} {p pos : Pos} {e : Expr} {o : Out} (h : zkz cf n K ρ x p e = some o) : ExS G k K ρ (.AugAssign (.Name x p) .Add e pos) o := by
 unfold zkz at h
 injection eT h fun hc h => ?_
 rw [Bool.and_eq_true] at hc
 set_option tactic.hygienic true in split at h
 ·rename_i i hi
  set_option tactic.hygienic true in split at h
  ·rename_i j hj
   cases h
   exact zpj ok hc.1 hc.2 hi hj
  ·exact zA h
 ·exact zA h
theorem zmr (ok : zZ G cf k) {t e : Expr} {op : Operator} {pos : Pos} {o : Out} (h : zoC cf n K ρ t op e = some o) : ExS G k K ρ (.AugAssign t op e pos) o := by
 cases op with
 | Add =>
  cases t with
  | Name x p => exact zma ok h
  | Subscript b i sp =>
   unfold zoC at h
   dsimp only at h
   set_option tactic.hygienic true in split at h
   ·rename_i x xp hb
    obtain rfl := zfq hb
    exact zl2 ok h
   ·exact zA h
  | _ => exact zA h
 | _ => exact zA h
theorem zgN {x : Str} {a : Expr} {o : Out} (h : zdp cf n K ρ x a = some o) : ∃ ds d, ρ.lookup x = some (.own ds) ∧ evD cf n K ρ a = some d ∧ (d.pure && Nat.ble ds.length zK) = true ∧ o = .next (xi ρ x (.own (ds ++ [d]))) := by
 unfold zdp at h
 set_option tactic.hygienic true in split at h
 ·rename_i ds hl
  injection eS h fun d hd h => ?_
  injection eT h fun hc h => ?_
  cases h
  exact ⟨ds, d, hl, hd, hc, rfl⟩
 ·exact zA h
theorem zlR (ok : zZ G cf k) {f a : Expr} {cp pos : Pos} {o : Out} (h : ziU cf n K ρ f a cp = some o) : ExS G k K ρ (.Expr (.Call f [a] [] cp) pos) o := by
 cases f with
 | Attribute b nm apos =>
  unfold ziU at h
  dsimp only at h
  set_option tactic.hygienic true in split at h
  ·rename_i x xp hb
   obtain rfl := zfq hb
   injection eT h ?_
   clear h
   intro hp h
   rw [Bool.and_eq_true, Bool.and_eq_true] at hp
   have := beq_iff_eq.mp hp.1.1
   subst this
   refine zjL (zgN h) fun ds d hl hd hc zz5 => ?_; subst zz5
   exact zlD ok hp.1.2 hp.2 hl hd hc
  ·exact zA h
 | Name f fp =>
  unfold ziU at h
  dsimp only at h
  injection eT h fun hp h => ?_
  set_option tactic.hygienic true in split at h
  ·rename_i x hf
   refine zjL (zgN h) fun ds d hl hd hc zz5 => ?_; subst zz5
   exact zpd ok hp hf hl hd hc
  ·exact zA h
 | _ => exact zA h
theorem zlf (ok : zZ G cf k) {e : Expr} {pos : Pos} {o : Out} (h : znL cf n K ρ e = some o) : ExS G k K ρ (.Expr e pos) o := by
 cases e with
 | Call f as ks cp =>
  rcases as with _ | ⟨a, _ | _⟩
  ·exact zA h
  ·cases ks with
   | nil => exact zlR ok h
   | cons _ _ => exact zA h
  ·exact zA h
 | _ => exact zA h
theorem zni (ok : zZ G cf k) {e : Expr} {pos : Pos} {o : Out} (h : zmD cf n K ρ e = some o) : ExS G k K ρ (.Return (some e) pos) o := by
 cases e with
 | IfExp t b e p => exact zmy ok h
 | _ => exact zlm ok h
theorem znm (ok : zZ G cf k) (IL : ∀ K ρ ss o, exL cf mu n K ρ ss = some o → ExL G k K ρ ss o) {t it : Expr} {b : List Stmt} {pos : Pos} {o : Out} (h : (match nm? t with
  | some (x, _) => (match zd K x with
   | true => (match evD cf n K ρ it with
    | some d => (match zu d with | some ds => zb0 (fun ρ => exL cf mu n K ρ b) x ds ρ | none => none)
    | none => none)
   | false => none)
  | none => none) = some o) : ExS G k K ρ (.For t it b [] pos) o := by
 injection eS h fun zz hx h => ?_
 obtain rfl := zfq hx
 injection eT h fun hk h => ?_
 injection eS h fun d hd h => ?_
 injection eS h fun ds hds h => ?_
 exact ziv ok hk hd hds _ (fun ρ o h => IL _ _ _ _ h) h
theorem zoX (ok : zZ G cf k) (IL : ∀ K ρ ss o, exL cf mu n K ρ ss = some o → ExL G k K ρ ss o) {t : Expr} {b e : List Stmt} {pos : Pos} {o : Out} (h : (match tsD cf n K ρ t with | some true => exL cf mu n K ρ b | some false => exL cf mu n K ρ e | none => none) = some o) : ExS G k K ρ (.If t b e pos) o := by
 split at h
 ·rename_i ht
  exact x_if (c := true) ok ht (IL _ _ _ _ h)
 ·rename_i ht
  exact x_if (c := false) ok ht (IL _ _ _ _ h)
 ·exact zA h
theorem zmn (ok : zZ G cf k) {t : Expr} {pos : Pos} {o : Out} (h : (match tsD cf n K ρ t with | some true => some (Out.next ρ) | _ => none) = some o) : ExS G k K ρ (.Assert t none pos) o := by
 split at h
 ·rename_i ht
  cases h
  exact zkK ok ht
 ·exact zA h
theorem zm9 (ok : zZ G cf k) (IL : ∀ K ρ ss o, exL cf mu n K ρ ss = some o → ExL G k K ρ ss o) (st : Stmt) {o : Out} (h : stX cf mu n (exL cf mu n) K ρ st = some o) : ExS G k K ρ st o := by
 cases st with
 | Assign ts v pos => exact znb (mu := mu) (n := n) ok h
 | AugAssign t op e pos => exact zmr (n := n) ok h
 | If t b e pos => exact zoX ok IL h
 | While t b e pos =>
  cases e with
  | nil => exact zl8 ok (fun ρ o h => IL _ _ _ _ h) h
  | cons _ _ => exact zA h
 | For t it b e pos =>
  cases e with
  | nil => exact znm ok IL h
  | cons _ _ => exact zA h
 | Return e pos =>
  cases e with
  | none => exact zA h
  | some e => exact zni (n := n) ok h
 | Expr e pos => exact zlf (n := n) ok h
 | Assert t m pos =>
  cases m with
  | none => exact zmn ok h
  | some _ => exact zA h
 | Break pos =>
  replace h : some (Out.brk ρ) = some o := h
  cases h; exact zl1
 | _ => exact zA h
theorem zm3 (IS : ∀ K ρ st o, exD cf mu n K ρ st = some o → ExS G k K ρ st o) (IL : ∀ K ρ ss o, exL cf mu n K ρ ss = some o → ExL G k K ρ ss o) (ss : List Stmt) {o : Out} (h : exL cf mu (n + 1) K ρ ss = some o) : ExL G k K ρ ss o := by
 intro A Xc Y s env c E
 cases ss with
 | nil => have h : some (Out.next ρ) = some o := h; cases h; exact wpAny_execs_nil ⟨Y, Stp.refl, rfl, c⟩
 | cons st ss =>
  have h : (match exD cf mu n K ρ st with | some (.next ρ') => exL cf mu n K ρ' ss | o => o) = some o := h
  refine wpAny_execs_cons ?_
  set_option tactic.hygienic true in split at h
  ·rename_i ρ' hst
   refine wpAny_mono (IS _ _ _ _ hst A Xc Y s env c E) (fun f s₁ p => ?_) fun zz zz e => e
   refine x2 p fun Y₁ t₁ zz2 c₁ => ?_; subst zz2
   exact wpAny_mono (IL _ _ _ _ h A Xc Y₁ s₁ env c₁ E) (fun f s₂ p => p.pre c.cx.ti t₁) fun zz zz e => e
  ·rename_i hne
   refine wpAny_mono (IS _ _ _ _ h A Xc Y s env c E) (fun f s₁ p => ?_) fun zz zz e => e
   refine zQ p fun Y₁ t₁ q => ?_
   cases o with
   | next ρ' => exact absurd h (hne ρ')
   | brk ρ' => refine zk q fun zz0 c₁ => ?_; subst zz0; exact ⟨Y₁, t₁, rfl, c₁⟩
   | ret d => refine zQ q fun v zz1 r => ?_; subst zz1; exact ⟨Y₁, t₁, v, rfl, r⟩
theorem yY (ok : zZ G cf k) (mu : List Str) : ∀ n, (∀ K ρ st o, exD cf mu n K ρ st = some o → ExS G k K ρ st o) ∧ (∀ K ρ ss o, exL cf mu n K ρ ss = some o → ExL G k K ρ ss o)
 | 0 => ⟨(fun zz zz zz zz h => zA h), (fun zz zz zz zz h => zA h)⟩
 | n + 1 => ⟨fun K ρ st o h => zm9 ok (yY ok mu n).2 st h, fun K ρ ss o h => zm3 (yY ok mu n).1 (yY ok mu n).2 ss h⟩
end
end
section
noncomputable def yF (K : Kn) (ps : List Str) (ds : List D) : Rho := K.filterMap fun p => match p.2 with
 | .local => some (p.1, ((ps.zip ds).lookup p.1).getD .unb)
 | .cell => some (p.1, ((ps.zip ds).lookup p.1).getD .unb)
 | _ => none
theorem zgO {K : Kn} {ps : List Str} {ds : List D} {x : Str} {d : D} (h : (yF K ps ds).lookup x = some d) : d = .unb ∨ (ps.zip ds).lookup x = some d := by
 induction K with
 | nil => simp [yF] at h
 | cons p K ih =>
  obtain ⟨y, kd⟩ := p
  unfold yF at h ih
  rw [List.filterMap_cons] at h
  have key : ((y, ((ps.zip ds).lookup y).getD .unb) :: (K.filterMap fun p => match p.2 with
 | .local => some (p.1, ((ps.zip ds).lookup p.1).getD .unb)
 | .cell => some (p.1, ((ps.zip ds).lookup p.1).getD .unb)
 | _ => none)).lookup x = some d → d = .unb ∨ (ps.zip ds).lookup x = some d := by
   intro h
   rw [List.lookup_cons] at h
   cases hb : x == y with
   | true =>
    rw [hb] at h
    have := beq_iff_eq.mp hb; subst this
    cases hl : (ps.zip ds).lookup x with
    | none => rw [hl] at h; cases h; exact .inl rfl
    | some z => rw [hl] at h; cases h; exact .inr rfl
   | false => rw [hb] at h; exact ih h
  cases kd <;> first | exact key h | exact ih h
theorem zeW {C X h} : ∀ {ps : List Str} {ds : List D} {vs : List Value} {x : Str} {d : D}, RdL C X h ds vs → (ps.zip ds).lookup x = some d → ∃ v, (ps.zip vs).lookup x = some v ∧ Rd C X h d v
 | [], _, _, _, _, _, h => by simp at h
 | p :: ps, [], vs, x, d, r, h => by simp at h
 | p :: ps, e :: ds, vs, x, d, r, h => by
  refine xf r.cons_inv fun v vs' zz2 hr l => ?_; subst zz2
  rw [List.zip_cons_cons, List.lookup_cons] at h ⊢
  cases hb : x == p with
  | true => rw [hb] at h; cases h; exact ⟨v, rfl, hr⟩
  | false => rw [hb] at h; exact zeW l h
theorem zdn (kof : Str → Option NameKind) : ∀ (binds : List (Str × Value)) (m : Str → Option Value) (x : Str), (∀ p ∈ binds, p.1 ≠ x) → bindL kof binds m x = m x
 | [], m, x, _ => rfl
 | (y, v) :: r, m, x, h => by
  unfold bindL
  rw [zdn kof r _ x fun p hp => h p (.tail _ hp)]
  have : x ≠ y := fun q => h (y, v) (.head _) q.symm
  split
  ·simp [this]
  ·rfl
theorem zhA (kof : Str → Option NameKind) : ∀ (binds : List (Str × Value)) (m : Str → Option Value) (x : Str) (v : Value), (binds.map (·.1)).Nodup → binds.lookup x = some v → kof x = some .local → bindL kof binds m x = some v
 | [], m, x, v, _, h, _ => by simp at h
 | (y, u) :: r, m, x, v, hn, h, hk => by
  unfold bindL
  rw [List.map_cons, List.nodup_cons] at hn
  rw [List.lookup_cons] at h
  cases hb : x == y with
  | true =>
   rw [hb] at h; cases h
   have := beq_iff_eq.mp hb; subst this
   rw [if_pos hk, zdn kof r _ x fun p hp q => hn.1 (List.mem_map.mpr ⟨p, hp, q⟩)]
   simp
  | false => rw [hb] at h; exact zhA kof r _ x v hn.2 h hk
theorem zdo (kof : Str → Option NameKind) : ∀ (binds : List (Str × Value)) (m : Str → Option Value) (x : Str), (∀ p ∈ binds, p.1 ≠ x) → bindC kof binds m x = m x
 | [], m, x, _ => rfl
 | (y, v) :: r, m, x, h => by
  unfold bindC
  rw [zdo kof r _ x fun p hp => h p (.tail _ hp)]
  have : x ≠ y := fun q => h (y, v) (.head _) q.symm
  split
  ·rfl
  ·simp [this]
theorem zgQ (kof : Str → Option NameKind) : ∀ (binds : List (Str × Value)) (m : Str → Option Value) (x : Str) (v : Value), (binds.map (·.1)).Nodup → binds.lookup x = some v → kof x = some .cell → bindC kof binds m x = some v
 | [], m, x, v, _, h, _ => by simp at h
 | (y, u) :: r, m, x, v, hn, h, hk => by
  unfold bindC
  rw [List.map_cons, List.nodup_cons] at hn
  rw [List.lookup_cons] at h
  cases hb : x == y with
  | true =>
   rw [hb] at h; cases h
   have := beq_iff_eq.mp hb; subst this
   rw [if_neg (by rw [hk]; decide), zdo kof r _ x fun p hp q => hn.1 (List.mem_map.mpr ⟨p, hp, q⟩)]
   simp
  | false => rw [hb] at h; exact zgQ kof r _ x v hn.2 h hk
theorem zaV : ∀ (names : Kn) (n : Nat) (acc : List (Str × Addr)) (x : Str), (acc.lookup x).isSome = true → ((cellsFrom n names acc).lookup x).isSome = true
 | [], _, _, _, h => h
 | (y, kd) :: r, n, acc, x, h => by
  unfold cellsFrom
  split
  ·refine zaV r _ _ x ?_
   rw [List.lookup_cons]
   split <;> first | rfl | exact h
  ·exact zaV r _ _ x h
theorem yE : ∀ (names : Kn) (n : Nat) (acc : List (Str × Addr)) (x : Str), names.lookup x = some .cell → ((cellsFrom n names acc).lookup x).isSome = true
 | [], _, _, _, h => by simp at h
 | (y, kd) :: r, n, acc, x, h => by
  unfold cellsFrom
  rw [List.lookup_cons] at h
  cases hb : x == y with
  | true =>
   rw [hb] at h; cases h
   rw [if_pos (by decide)]
   refine zaV r _ _ x ?_
   rw [List.lookup_cons, hb]; rfl
  | false =>
   rw [hb] at h
   split
   ·exact yE r _ _ x h
   ·exact yE r _ _ x h
structure zn (G : Gd) (a : Addr) (o : Obj) (fd : FuncData) (body : List Stmt) (K : Kn) (ps : List Str) : Prop where
 ho : G.hb.get? a = some o
 hd : o.data = .func fd
 body : fd.body = .stmts body
 clo : fd.closure = []
 glob : fd.globals = mainGlobals
 bi : fd.builtins = builtinsNs
 code : G.hb.CodeRec fd.code fd.qualname
 names : fd.scope.names = K
 kind : fd.scope.kind = .function
 co : fd.scope.isCoroutine = false
 gen : fd.scope.isGenerator = false
 bind : ∀ vals : List Value, vals.length = ps.length → ∀ s : Shared, (∀ b o, G.hb.get? b = some o → s.heap.get? b = some o) → BindsTo s fd ⟨vals, []⟩ (ps.zip vals)
 par : ∀ x ∈ ps, K.lookup x = some .local ∨ K.lookup x = some .cell
 nodup : ps.Nodup
 free : ∀ x, K.lookup x ≠ some .free
 cod : ∀ c, x5 K = some c → fd.code = c.1 ∧ fd.qualname ++ (".<locals>." : Str) = c.2
theorem CodeRec.up {h h' : Heap} {c : Value} {q : Str} (x : h.CodeRec c q) (k : ∀ b o, h.get? b = some o → h'.get? b = some o) : h'.CodeRec c q := by
 refine zbX x fun c oc vs tq hc hoc r => ?_
 exact ⟨c, oc, vs, tq, hc, k _ _ hoc, r⟩
section
variable {G : Gd} {k n : Nat} {cf : Cf} {mu : List Str} {K : Kn} {ρ : Rho} {a : Addr} {o : Obj} {fd : FuncData} {body : List Stmt} {ps : List Str}
theorem zhN {prog : Program} {w : World} {A : Around} {s : Shared} {R : Result → Shared → Prop} {a : Addr} {o : Obj} {fd : FuncData} {body : List Stmt} {vals : List Value} {binds : List (Str × Value)}
  (hroom : A.depth < recursionLimit) (ho : s.heap.get? a = some o) (hdata : o.data = .func fd) (hlim : s.heap.NoLimit) (hcd : s.heap.CodeRec fd.code fd.qualname)
  (hbody : fd.body = .stmts body) (hbind : BindsTo s fd ⟨vals, []⟩ binds) (hclo : fd.closure = [])
  (hkind : ∀ x ∈ binds, fd.scope.names.lookup x.1 = some .local ∨ (fd.scope.names.lookup x.1 = some .cell ∧ ((cellsFrom (s.heap.objs.size + 1) fd.scope.names []).lookup x.1).isSome = true))
  (h : ∀ s₁, InCallC s (callEnvC fd s.heap.objs.size a).locals (bindL (callEnvC fd s.heap.objs.size a).kindOf binds fun zz => none) (callEnvC fd s.heap.objs.size a).cells
    (bindC (callEnvC fd s.heap.objs.size a).kindOf binds fun zz => none) s₁ →
   wpAny (model prog w) (A.deeper (callEnvC fd s.heap.objs.size a)) (execs body (callEnvC fd s.heap.objs.size a)) (fun f s' => R (.ok (.ret (match f with | .ret v => v | _ => .none))) s')
    (fun e s' => wpAny (model prog w) (A.deeper (callEnvC fd s.heap.objs.size a)) (leaving (callEnvC fd s.heap.objs.size a) e) (fun zz s'' => R (.error e) s'') (fun e' s'' => R (.error e') s'') s') s₁)
  (hco : fd.scope.isCoroutine = false) (hgen : fd.scope.isGenerator = false) (hk : fd.scope.kind = .function) :
  codeAny (model prog w) A (.call (.ref a) ⟨vals, []⟩) R s := by
 refine codeAny_call_function hroom ho hdata hco hgen hbody hcd (hbind _ _ _ _ ?_)
 rw [hclo]
 refine wpAny_newFunctionEnv_cells hk hkind fun env he s' x => ?_
 subst he
 exact ⟨hlim.keeps x.toInCall.keep, codeAny_func (h s' x)⟩
theorem zg4 (fr : zn G a o fd body K ps) {A : Around} {X : List Addr} {s : Shared} {ds : List D} {vs : List Value} (room : zby (k + 1) A) (cx : Cx G s.heap) (xok : XOk G X s.heap) (r : RdL G.C X s.heap ds vs) (hlen : ds.length = ps.length) {R : Result → Shared → Prop}
  (h : ∀ env Y s₁, Gr G s s₁ → (∀ b ∈ Y, s.heap.get? b = none) → StC G k (A.deeper env) X Y s₁ env K (yF K ps ds) →
   wpAny (model G.prog G.w) (A.deeper env) (execs body env) (fun f s' => R (.ok (.ret (match f with | .ret v => v | _ => .none))) s')
    (fun e s' => wpAny (model G.prog G.w) (A.deeper env) (leaving env e) (fun zz s'' => R (.error e) s'') (fun e' s'' => R (.error e') s'') s') s₁) :
  codeAny (model G.prog G.w) A (.call (.ref a) ⟨vs, []⟩) R s := by
 have hvs : vs.length = ps.length := by rw [r.length, hlen]
 have hroom : A.depth < recursionLimit := by have := room.depth; lia
 have zl : ∀ y : Str × Value, y ∈ ps.zip vs → y.1 ∈ ps := fun y hy => (List.of_mem_zip hy).1
 refine zhN hroom (cx.hb _ _ fr.ho) fr.hd (G.nolim.keeps cx.hb) (CodeRec.up fr.code cx.hb) fr.body (fr.bind vs hvs s cx.hb) fr.clo (fun y hy => ?_) (fun s₁ ic => ?_) fr.co fr.gen fr.kind
 ·rw [fr.names]
  rcases fr.par y.1 (zl y hy) with q | q
  ·exact .inl q
  ·exact .inr ⟨q, yE K _ [] y.1 q⟩
 ·refine xl ic.done fun h' tk zz2 keep => ?_; subst zz2
  have g : Gr G s { s with heap := h', toks := tk } := Gr.of keep
  have eL : (callEnvC fd s.heap.objs.size a).locals = s.heap.objs.size := rfl
  have eK : (callEnvC fd s.heap.objs.size a).scope.names = K := fr.names
  have kof : ∀ x, (callEnvC fd s.heap.objs.size a).kindOf x = K.lookup x := fun x => by unfold Env.kindOf; rw [eK]
  generalize henv : callEnvC fd s.heap.objs.size a = env at *
  have ns := ic.toInCall.ns
  have hfresh : ∀ b ∈ (env.locals :: (K.map (·.1)).filterMap (env.cells.lookup ·)), s.heap.get? b = none := fun b hb => by
   rcases List.mem_cons.mp hb with rfl | hb
   ·rw [eL]; exact xO (o := { cls := .none, data := .fields #[] })
   ·refine zQ (List.mem_filterMap.mp hb) fun x hx hc => ?_
    have := ic.above x b (mem_of_lookup hc)
    rw [eL] at this
    exact zT (Nat.le_of_lt this)
  refine h env (env.locals :: (K.map (·.1)).filterMap (env.cells.lookup ·)) _ g hfresh ⟨⟨room.hh, ?_, ?_⟩, g.cx cx, ⟨fun b hb => List.mem_append_right _ (xok.tabs b hb), fun b hb => ?_⟩, xok.tabs, ⟨_, (fun zz => none), ⟨⟨(fun cc q => by rw [← henv]; exact fr.cod cc q), eK, ?_, ?_, ?_⟩, ns, fun x y b h1 => (by exact zA h1), fun x d hd => ?_⟩, fun x b h1 => by exact zA h1⟩, .head _, ?_, ic.apart, ?_, ?_, ?_, ?_, fr.free⟩
  ·have := room.depth
   show A.depth + 1 + 2 * k < recursionLimit
   lia
  ·have := room.units
   show A.units + 3 + 40 * k + 100 < cLine
   lia
  ·rcases List.mem_append.mp hb with hb | hb
   ·rcases List.mem_cons.mp hb with rfl | hb
    ·refine zfg ns fun oo zz1 zz2 ho zz4 => ?_; exact ⟨oo, ho⟩
    ·refine zQ (List.mem_filterMap.mp hb) fun x hx hc => ?_
     refine zQ (ic.cell x b hc) fun oo ho zz2 => ?_
     exact ⟨oo, ho⟩
   ·exact (xok.gr cx.ti g).live b hb
  ·rw [← henv]; exact fr.kind
  ·rw [← henv]; exact fr.glob
  ·rw [← henv]; exact fr.bi
  ·rcases zgO hd with q | q
   ·exact .inl q
   ·refine zQ (zeW r q) fun v hv hr => ?_
    have hxp : x ∈ ps := zl (x, v) (mem_of_lookup hv)
    have nd : ((ps.zip vs).map (·.1)).Nodup := by
     rw [List.map_fst_zip (by lia)]; exact fr.nodup
    refine .inr ⟨v, ?_, ?_⟩
    ·rcases fr.par x hxp with z | z
     ·exact .inl ⟨(kof x).trans z, zhA _ _ _ _ _ nd hv ((kof x).trans z)⟩
     ·refine zU (Option.isSome_iff_exists.mp (yE K (s.heap.objs.size + 1) [] x z)) fun c hc => ?_
      have hc' : env.cells.lookup x = some c := by rw [← henv]; show (cellsFrom _ fd.scope.names []).lookup x = _; rw [fr.names]; exact hc
      refine .inr ⟨.inl ((kof x).trans z), c, hc', ?_⟩
      have := ic.cell x c hc'
      rw [zgQ _ _ _ _ _ nd hv ((kof x).trans z)] at this
      exact this
    ·have hr' : Rd G.C (env.locals :: (K.map (·.1)).filterMap (env.cells.lookup ·) ++ X) h' d v := hr.lift (fun b hb => (List.mem_append.mp hb).elim (fun q => .inr (hfresh b q)) .inl) fun b o zz e => keep b o e
     cases d <;> first | exact hr' | exact False.elim hr'
  ·intro x c hc hx
   exact ⟨.tail _ (List.mem_filterMap.mpr ⟨x, List.mem_map.mpr ⟨(x, .cell), mem_of_lookup hx, rfl⟩, hc⟩), _, ic.cell x c hc⟩
  ·intro y hy
   rcases List.mem_cons.mp hy with rfl | hy
   ·exact .dict ns
   ·refine zQ (List.mem_filterMap.mp hy) fun x hx hc => ?_
    exact .cell (ic.cell x y hc)
  ·intro b hb q
   refine zU (xok.live b q) fun oo ho => ?_
   rw [hfresh b hb] at ho; exact zA ho
  ·intro b hb
   cases q : G.hb.get? b with
   | none => rfl
   | some oo => have := cx.hb b oo q; rw [hfresh b hb] at this; exact zA this
  ·intro x hx
   refine zU (Option.isSome_iff_exists.mp (yE K (s.heap.objs.size + 1) [] x hx)) fun c hc => ?_
   exact ⟨c, by rw [← henv]; show (cellsFrom _ fd.scope.names []).lookup x = _; rw [fr.names]; exact hc⟩
theorem zcq (ok : zZ G cf k) (fr : zn G a o fd body K ps) {ds : List D} {d : D} (hlen : ds.length = ps.length) (run : exL cf mu n K (yF K ps ds) body = some (.ret d)) :
  ∀ A X s vs, zby (k + 1) A → Cx G s.heap → XOk G X s.heap → RdL G.C X s.heap ds vs → ∀ E, wpAny (model G.prog G.w) A (call (.ref a) vs) (fun v s' => Gr G s s' ∧ Rd G.C X s'.heap d v) E s := by
 intro A X s vs room cx xok r E
 refine wpAny_call (zg4 fr room cx xok r hlen fun env Y s₁ g fresh c => ?_)
 refine wpAny_mono ((yY ok mu n).2 _ _ _ _ run _ X Y s₁ env c _) (fun f s' p => ?_) fun zz zz e => e
 obtain ⟨Y', t, v, rfl, rd⟩ := p
 exact ⟨⟨fun b o hT e => t.grb.heap b o hT (fun q => by rw [fresh b q] at e; exact zA e) (g.heap b o hT e), fun z => t.grb.ti (g.ti z), t.grb.os.trans g.os, fun z => t.grb.bare (g.bare z)⟩, rd⟩
end
end
noncomputable def zhs (q : Addr → Str) (h : Heap) (P : Addr) : Prop := ∃ ps, h.get? P = some (tabObj ps) ∧ TriplesOk ps.toList ∧ ∀ pos cv, codeAmong pos ps.toList = some cv → h.CodeRec cv (q P)
theorem zb2 {pos pos' : Pos} {c cv : Value} (l : List Value) (hl : TriplesOk l) (h : codeAmong pos' (l ++ [rawInt pos.line, rawInt pos.col, c]) = some cv) : codeAmong pos' l = some cv ∨ cv = c := by
 fun_induction TriplesOk l with
 | case1 =>
  right
  simp only [List.nil_append, rawInt, codeAmong] at h
  split at h
  ·exact (Option.some.inj h).symm
  ·exact zA h
 | case2 a t b u x rest ih =>
  simp only [List.cons_append, codeAmong] at h ⊢
  split at h
  ·rename_i hc
   rw [if_pos hc]; exact .inl h
  ·rename_i hc
   rw [if_neg hc]; exact ih hl h
 | case3 l h1 h2 => exact hl.elim
theorem CodeRec.tk {h : Heap} {c : Value} {q : Str} (x : h.CodeRec c q) {h' : Heap} (k : ∀ b o, TK o → h.get? b = some o → h'.get? b = some o) : h'.CodeRec c q := by
 refine zmv x fun c oc vs tq hc hoc hd hq => ?_
 exact ⟨c, oc, vs, tq, hc, k _ _ ⟨vs, hd, .inr ⟨q, tq, hq⟩⟩ hoc, hd, hq⟩
theorem zhs.tk {q : Addr → Str} {h h' : Heap} {P : Addr} (x : zhs q h P) (k : ∀ b o, TK o → h.get? b = some o → h'.get? b = some o) : zhs q h' P := by
 refine x2 x fun ps e t c => ?_
 exact ⟨ps, k _ _ ⟨ps, rfl, .inl rfl⟩ e, t, fun pos cv hc => CodeRec.tk (c pos cv hc) k⟩
noncomputable def zof (prog : Program) (w : World) (hb : Heap) (T : List Addr) (q : Addr → Str) (C : Addr) (mg mb : Str → Option Value) (hmg : hb.Ns mainGlobals mg) (hmb : hb.Ns builtinsNs mb) (nolim : hb.NoLimit) (hT : ∀ a ∈ T, hb.get? a = none) : Gd where
 prog := prog
 w := w
 hb := hb
 T := T
 TI := fun h => ∀ P ∈ T, zhs q h P
 C := C
 mg := mg
 mb := mb
 hmg := hmg
 hmb := hmb
 nolim := nolim
 hT := hT
 tabs := fun h ti a ha => by
  refine zQ (ti a ha) fun ps e zz2 => ?_
  exact ⟨ps, e⟩
 frame := fun h h' ti k P hP => zhs.tk (ti P hP) k
theorem zkF {H : Heap} {tabs : List (Addr × Addr)} (hT : TabsAt tabs H) {prog w q C mg mb hmg hmb nolim hT'} : Cx (zof prog w (ghostOf H tabs) (tabs.map (·.2)) q C mg mb hmg hmb nolim hT') H := by
 refine ⟨fun b o e => of_hideAll _ e, fun P hP => ?_⟩
 refine zQ (List.mem_map.mp hP) fun p hp zz2 => ?_; subst zz2
 exact ⟨#[], (hT p hp).2, trivial, fun pos cv h => by simp [codeAmong] at h⟩
theorem zjg {G : Gd} {Kf : Frag} (X : Kf.In G.hb) {a : Addr} {o : Obj} {fd : FuncData} {body : List Stmt} {K : Kn} {ps : List Str} (hl : Kf.lookup a = some o) (hd : o.data = .func fd) (hb : fd.body = .stmts body) (hclo : fd.closure = []) (hg : fd.globals = mainGlobals) (hbi : fd.builtins = builtinsNs)
  (hcode : codeIn Kf fd.code fd.qualname = true) (hK : fd.scope.names = K) (hkind : fd.scope.kind = .function) (hco : fd.scope.isCoroutine = false) (hgen : fd.scope.isGenerator = false) (hbind : ∀ vals : List Value, vals.length = ps.length → ∀ s : Shared, (∀ b o, G.hb.get? b = some o → s.heap.get? b = some o) → BindsTo s fd ⟨vals, []⟩ (ps.zip vals))
  (hpar : ps.all (fun x => K.lookup x == some .local || K.lookup x == some .cell) = true) (hnd : ps.Nodup) (hfree : K.all (fun p => p.2 != .free) = true) (hcod : ∀ c, x5 K = some c → fd.code = c.1 ∧ fd.qualname ++ (".<locals>." : Str) = c.2) : zn G a o fd body K ps :=
 ⟨X _ _ hl, hd, hb, hclo, hg, hbi, codeRec_of X hcode, hK, hkind, hco, hgen, hbind, fun x hx => by
  have := List.all_eq_true.mp hpar x hx
  simpa using this, hnd, fun x hx => by
  have := List.all_eq_true.mp hfree (x, .free) (mem_of_lookup hx)
  simp at this, hcod⟩
section
noncomputable def yC (i : Nat) : Option Stmt := PySem.Challenge.pw_ik0160_01.main.body[i]?
noncomputable def zM (i : Nat) : List Stmt := match yC i with | some (.FunctionDef _ _ body _ _ _ _ _ _ _) => body | _ => []
noncomputable def zE (i : Nat) : Kn := match yC i with | some (.FunctionDef _ _ _ _ _ _ scope _ _ _) => scope.names | _ => []
noncomputable def zm (l : List Stmt) (i : Nat) : List Stmt := match l[i]? with | some (.While _ b _ _) => b | some (.For _ _ b _ _) => b | _ => []
noncomputable def xT (l : List Stmt) (i : Nat) : Expr := match l[i]? with | some (.While t _ _ _) => t | _ => .Constant .none 0 default
noncomputable def zft (ps : Arguments) (sc : Scope) : Bool := sc.names.all (fun p => p.2 != .free) && ps.defaults.isEmpty && ps.kw_defaults.isEmpty
theorem xX (x y : Str) (v : D) (r : Rho) (h : ∀ z, v ≠ .app z) : xA ((y, v) :: r) x = (y, v) :: xA r x := by
 cases v with
 | app z => exact absurd rfl (h z)
 | _ => rfl
theorem ziu (x : Str) : xA [] x = [] := rfl
section
variable (cf : Cf) (n : Nat) (K : Kn) (ρ : Rho) (mu : List Str)
theorem zo5 (i : Int) (k p) : evD cf (n + 1) K ρ (.Constant (.int i) k p) = some (.int i) := rfl
theorem zo6 (i : Str) (k p) : evD cf (n + 1) K ρ (.Constant (.str i) k p) = some (.str i) := rfl
theorem zpz (a b p) : evD cf (n + 1) K ρ (.BoolOp .And [a, b] p) = (match evD cf n K ρ a with | some va => (match zan va with | some true => evD cf n K ρ b | some false => some va | none => none) | none => none) := rfl
theorem znI (l op r p) : evD cf (n + 1) K ρ (.Compare l [op] [r] p) = (match evD cf n K ρ l with | some a => (match evD cf n K ρ r with | some b => (match yB op a b with | some c => some (.bool c) | none => none) | none => none) | none => none) := rfl
theorem zoQ (es p) : evD cf (n + 1) K ρ (.List es p) = (match evL cf n K ρ es with | some ds => (match (ds.all D.pure && Nat.ble ds.length zK) with | true => some (.lst ds) | false => none) | none => none) := rfl
theorem zmN (v lo hi q p) : evD cf (n + 1) K ρ (.Subscript v (.Slice lo hi none q) p) = (match evD cf n K ρ v with
   | some a => (match (match lo with | none => some none | some e => (match evD cf n K ρ e with | some (.int i) => some (some i) | _ => none) : Option (Option Int)) with
    | some l => (match (match hi with | none => some none | some e => (match evD cf n K ρ e with | some (.int i) => some (some i) | _ => none) : Option (Option Int)) with
     | some h => xS a l h
     | none => none)
    | none => none)
   | none => none) := rfl
theorem zeO (v x q p) : evD cf (n + 1) K ρ (.Subscript v (.Name x q) p) = (match evD cf n K ρ v with | some a => (match evD cf n K ρ (.Name x q) with | some b => x7 a b | none => none) | none => none) := rfl
theorem zok (o name apos a as pos) : evD cf (n + 1) K ρ (.Call (.Attribute o name apos) (a :: as) [] pos) = (match (zgC o && (apos.endLine == pos.line) && Nat.ble (as.length) 20) with
   | true => (match evD cf n K ρ o with
    | some (.str x) => (match evL cf n K ρ (a :: as) with | some ds => (match ds.all (zbl (.blt "")) with | true => zbt name x ds | false => none) | none => none)
    | _ => cf.H K ρ (.Call (.Attribute o name apos) (a :: as) [] pos))
   | false => none) := rfl
theorem zkU (x p y q) : evD cf (n + 1) K ρ (.Attribute (.Name x p) y q) = (match y == ("root" : Str) with
   | true => (match evD cf n K ρ (.Name x p) with | some (.node r _) => some (.int r) | _ => none)
   | false => none) := rfl
theorem zoM (elt x px iter ifs csc p) : evD cf (n + 1) K ρ (.ListComp elt [⟨.Name x px, iter, ifs, 0⟩] csc p) =
 (match (z8 csc.names K ρ x && (csc.kind == .function)) with
   | true => (match evD cf n K ρ iter with
    | some d => (match zu d with
     | some ds => (match xQ (fun d => tsL cf n (yD csc.names K) ((x, d) :: ρ.filter fun q => xE csc.names q.1) ifs) (fun d => evD cf n (yD csc.names K) ((x, d) :: ρ.filter fun q => xE csc.names q.1) elt) ds with
      | some ys => some (.lst ys)
      | none => none)
     | none => none)
    | none => none)
   | false => none) := rfl
theorem zpy (es p) : tsD cf (n + 1) K ρ (.BoolOp .And es p) = zb1 cf n K ρ es := rfl
theorem zlI (f as ks p) : tsD cf (n + 1) K ρ (.Call f as ks p) = (match evD cf n K ρ (.Call f as ks p) with | some a => zan a | none => none) := rfl
theorem znj (e es) : tsL cf (n + 1) K ρ (e :: es) = (match tsD cf n K ρ e with | some true => tsL cf n K ρ es | some false => some false | none => none) := rfl
theorem zi7 (e es) : zb1 cf (n + 1) K ρ (e :: es) = (match tsD cf n K ρ e with | some true => zb1 cf n K ρ es | some false => some false | none => none) := rfl
noncomputable def asgD (cf : Cf) (n : Nat) (K : Kn) (ρ : Rho) (x : Str) (v : Expr) : Option Out := match zd K x with | true => (match evD cf (n + 1) K ρ v with | some d => (match d.pure with | true => some (.next (stD ρ x d)) | false => none) | none => none) | false => none
theorem zhV (x px f as ks p pos) : exD cf mu (n + 1) K ρ (.Assign [.Name x px] (.Call f as ks p) pos) = asgD cf n K ρ x (.Call f as ks p) := rfl
theorem znT (t b o pos) : exD cf mu (n + 1) K ρ (.If t b o pos) = (match tsD cf n K ρ t with | some true => exL cf mu n K ρ b | some false => exL cf mu n K ρ o | none => none) := rfl
noncomputable def whS (t : Expr) (b : List Stmt) : Option Out := whD (fun ρ => tsD cf n K ρ t) (fun ρ => exL cf mu n K ρ b) xu ρ
noncomputable def zez (x : Str) (b : List Stmt) (ds : List D) : Option Out := zb0 (fun ρ => exL cf mu n K ρ b) x ds ρ
theorem zjU (op es p pos) : exD cf mu (n + 1) K ρ (.Return (some (.BoolOp op es p)) pos) = za1 (evD cf n K ρ) ρ (.BoolOp op es p) := rfl
theorem zkt (x xp nm apos a cpos pos) : exD cf mu (n + 1) K ρ (.Expr (.Call (.Attribute (.Name x xp) nm apos) [a] [] cpos) pos) = (match ((nm == ("append" : Str)) && (apos.endLine == cpos.line) && zR x) with
   | true => (match ρ.lookup x with
    | some (.own ds) => (match evD cf n K ρ a with | some d => (match (d.pure && Nat.ble ds.length zK) with | true => some (.next (xi ρ x (.own (ds ++ [d])))) | false => none) | none => none)
    | _ => none)
   | false => none) := rfl
theorem zga (st ss) : exL cf mu (n + 1) K ρ (st :: ss) = (match exD cf mu n K ρ st with | some (.next ρ') => exL cf mu n K ρ' ss | o => o) := rfl
theorem zlS (ev : Expr → Option D) (l op p) : za1 ev ρ (.BoolOp l op p) = (match ev (.BoolOp l op p) with | some d => (match d.pure with | true => some (.ret d) | false => none) | none => none) := rfl
end
theorem znB (b) : D.pure (.int b) = true := rfl
theorem zo1 (b) : D.pure (.str b) = true := rfl
end
section
noncomputable def NA (M : List Str) (ρ : Rho) : Prop := ∀ p ∈ ρ, ∀ z, p.2 = .app z → M.contains z = true
theorem NA.nil {M : List Str} : NA M [] := fun zz h => nomatch h
theorem NA.cons {M : List Str} {x : Str} {d : D} {ρ : Rho} (h : ∀ z, d = .app z → M.contains z = true) (r : NA M ρ) : NA M ((x, d) :: ρ) := fun p hp z e => by
 rcases List.mem_cons.mp hp with rfl | q
 ·exact h z e
 ·exact r p q z e
theorem NA.drop {M : List Str} {x : Str} (hx : M.contains x = false) : ∀ {ρ : Rho}, NA M ρ → xA ρ x = ρ
 | [], _ => rfl
 | (y, v) :: ρ, h => by
  have t := NA.drop hx (ρ := ρ) fun p hp => h p (.tail _ hp)
  cases v with
  | app z =>
   rw [xA, t]
   have hz : (z == x) = false := by
    cases q : z == x with
    | false => rfl
    | true => rw [← beq_iff_eq.mp q, h _ (.head _) z rfl] at hx; exact Bool.noConfusion hx
   rw [hz]
  | _ => exact congrArg (List.cons _) t
theorem NA.set {M : List Str} {x : Str} {d : D} (hd : ∀ z, d = .app z → M.contains z = true) : ∀ {ρ : Rho}, NA M ρ → NA M (xi ρ x d)
 | [], h => h
 | (y, v) :: ρ, h => by
  rw [xi]
  split
  ·exact NA.cons hd fun p hp => h p (.tail _ hp)
  ·exact NA.cons (h _ (.head _)) (NA.set hd fun p hp => h p (.tail _ hp))
theorem zcv {M : List Str} {d : D} (h : d.pure = true) (z : Str) (e : d = .app z) : M.contains z = true := by
 subst e; exact Bool.noConfusion (show false = true from h)
noncomputable def naB (M : List Str) (ρ : Rho) : Bool := ρ.all fun p => match p.2 with | .app z => M.contains z | _ => true
theorem NA.of {M : List Str} {ρ : Rho} (h : naB M ρ = true) : NA M ρ := fun p hp z e => by
 have := List.all_eq_true.mp h p hp
 rw [e] at this; exact this
theorem zaY {M : List Str} {ρ : Rho} {x : Str} (h : xA ρ x = ρ) : NA M ρ → xA ρ x = ρ := fun zz => h
theorem ziX {M : List Str} {ρ : Rho} {x : Str} (h : M.contains x = false) : NA M ρ → xA ρ x = ρ := fun na => na.drop h
theorem zeU {M : List Str} {x : Str} {d : D} {ρ : Rho} (h : NA M ρ) (hx : M.contains x = false) : stD ρ x d = xi ρ x d := by
 unfold stD; rw [h.drop hx]
noncomputable def NAo (M : List Str) : Out → Prop
 | .next ρ => NA M ρ
 | .brk ρ => NA M ρ
 | .ret _ => True
theorem zpD {M : List Str} {ρ : Rho} (h : naB M ρ = true) : NAo M (.next ρ) := NA.of h
theorem zo0 {M : List Str} {d : D} : NAo M (.ret d) := trivial
section
variable {cf : Cf} {n : Nat} {K : Kn} {ρ ρ' : Rho} {mu M : List Str}
noncomputable def zkk (d : D) : Option D := match d with | .unb => none | .app _ => none | d => some d
theorem zN {i : Int} {k p} : evD cf (n + 1) K ρ (.Constant (.int i) k p) = some (.int i) := rfl
theorem zP {i : Str} {k p} : evD cf (n + 1) K ρ (.Constant (.str i) k p) = some (.str i) := rfl
theorem xj {k p} : evD cf (n + 1) K ρ (.Constant .none k p) = some .none := rfl
theorem zkZ {b k p} : evD cf (n + 1) K ρ (.Constant (.bool b) k p) = some (.bool b) := rfl
theorem zcs {x : Str} (h : zR x = true) : ¬ (((x == ("__debug__" : Str)) || (x == ("__classdict__" : Str))) = true) := fun q => by
 unfold zR at h
 rw [q] at h; exact Bool.noConfusion h
theorem zB {x : Str} {p : Pos} {d : D} (hl : ρ.lookup x = some d) (hd : zkk d = some d) (hx : zR x = true) : evD cf (n + 1) K ρ (.Name x p) = some d := by
 show yb cf K ρ x = _
 unfold yb
 rw [if_neg (zcs hx), hl]
 exact hd
theorem xM {x : Str} {p : Pos} {d : D} (hl : ρ.lookup x = none) (hk : K.lookup x = some .globalImplicit) (hg : cf.Γ x = some d) (hx : zR x = true) : evD cf (n + 1) K ρ (.Name x p) = some d := by
 show yb cf K ρ x = _
 unfold yb
 rw [if_neg (zcs hx), hl, hk]
 exact hg
theorem z0 {l r : Expr} {op p} {a b d : D} (ha : evD cf n K ρ l = some a) (hb : evD cf n K ρ r = some b) (h : yu op a b = some d) : evD cf (n + 1) K ρ (.BinOp l op r p) = some d := by
 show zep _ l op r = _
 unfold zep
 rw [ha, hb]; exact h
theorem zbn {x : Expr} {p} {a d : D} (ha : evD cf n K ρ x = some a) (h : unD .USub a = some d) : evD cf (n + 1) K ρ (.UnaryOp .USub x p) = some d := by
 show (match evD cf n K ρ x with | some a => unD .USub a | none => none) = _
 rw [ha]; exact h
theorem znt {t b o : Expr} {p} {d : D} (ht : tsD cf n K ρ t = some true) (h : evD cf n K ρ b = some d) : evD cf (n + 1) K ρ (.IfExp t b o p) = some d := by
 show zcR _ _ t b o = _
 unfold zcR
 rw [ht]; exact h
theorem znS {t b o : Expr} {p} {d : D} (ht : tsD cf n K ρ t = some false) (h : evD cf n K ρ o = some d) : evD cf (n + 1) K ρ (.IfExp t b o p) = some d := by
 show zcR _ _ t b o = _
 unfold zcR
 rw [ht]; exact h
theorem znW {a b : Expr} {p} {va d : D} {c : Bool} (ha : evD cf n K ρ a = some va) (ht : zan va = some c) (h : (if c then evD cf n K ρ b else some va) = some d) : evD cf (n + 1) K ρ (.BoolOp .And [a, b] p) = some d := by
 show (match evD cf n K ρ a with | some va => (match zan va with | some true => evD cf n K ρ b | some false => some va | none => none) | none => none) = _
 rw [ha]; dsimp only; rw [ht]
 cases c <;> exact h
theorem zkA {l r : Expr} {op p} {a b : D} {c : Bool} (ha : evD cf n K ρ l = some a) (hb : evD cf n K ρ r = some b) (h : yB op a b = some c) : evD cf (n + 1) K ρ (.Compare l [op] [r] p) = some (.bool c) := by
 show (match evD cf n K ρ l with | some a => (match evD cf n K ρ r with | some b => (match yB op a b with | some c => some (D.bool c) | none => none) | none => none) | none => none) = _
 rw [ha, hb]; dsimp only; rw [h]
theorem zaE {es : List Expr} {k p} {ds : List D} (h : evL cf n K ρ es = some ds) (hp : (ds.all D.pure && Nat.ble ds.length zK) = true) : evD cf (n + 1) K ρ (.Tuple es k p) = some (.tup ds) := by
 show zfX _ es = _
 unfold zfX
 rw [h]; dsimp only; rw [hp]
theorem ziP {es : List Expr} {p} {ds : List D} (h : evL cf n K ρ es = some ds) (hp : (ds.all D.pure && Nat.ble ds.length zK) = true) : evD cf (n + 1) K ρ (.List es p) = some (.lst ds) := by
 show ziD _ es = _
 unfold ziD
 rw [h]; dsimp only; rw [hp]
theorem zif {ev : Expr → Option D} : zaQ ev none = some none := rfl
theorem xn {e : Expr} {i : Int} (h : evD cf n K ρ e = some (.int i)) : zaQ (evD cf n K ρ) (some e) = some (some i) := by
 show (match evD cf n K ρ e with | some (.int i) => some (some i) | _ => none) = _
 rw [h]
theorem zaf {v : Expr} {lo hi : Option Expr} {q p} {a d : D} {l h : Option Int} (ha : evD cf n K ρ v = some a) (hl : zaQ (evD cf n K ρ) lo = some l) (hh : zaQ (evD cf n K ρ) hi = some h) (e : xS a l h = some d) : evD cf (n + 1) K ρ (.Subscript v (.Slice lo hi none q) p) = some d := by
 show zei _ v lo hi = _
 unfold zei
 rw [ha, hl, hh]; exact e
theorem zX {v i : Expr} {p} {a b d : D} (h0 : zkv (evD cf n K ρ) v i = zdm (evD cf n K ρ) v i) (ha : evD cf n K ρ v = some a) (hb : evD cf n K ρ i = some b) (h : x7 a b = some d) : evD cf (n + 1) K ρ (.Subscript v i p) = some d := by
 refine Eq.trans h0 ?_
 unfold zdm
 rw [ha, hb]; exact h
theorem xy {f : Str} {p q : Pos} {a : Expr} {as : List Expr} {fd d : D} {ds : List D} (hl : ρ.lookup f = none) (hf : evD cf n K ρ (.Name f p) = some fd) (ha : evL cf n K ρ (a :: as) = some ds) (hok : ds.all (zbl fd) = true) (hd : yd cf fd ds = some d) : evD cf (n + 1) K ρ (.Call (.Name f p) (a :: as) [] q) = some d := by
 show zeR cf _ _ K ρ f p a as = _
 unfold zeR
 rw [hl, hf, ha]; dsimp only
 rw [hok]; exact hd
theorem zb5 {o : Expr} {name : Str} {apos pos : Pos} {a : Expr} {as : List Expr} {x : Str} {ds : List D} {d : D} (hc : (zgC o && (apos.endLine == pos.line) && Nat.ble as.length 20) = true) (ho : evD cf n K ρ o = some (.str x)) (ha : evL cf n K ρ (a :: as) = some ds) (hok : ds.all (zbl (.blt "")) = true) (hd : zbt name x ds = some d) :
  evD cf (n + 1) K ρ (.Call (.Attribute o name apos) (a :: as) [] pos) = some d := by
 show zd6 cf _ _ K ρ _ o name apos a as pos = _
 unfold zd6
 rw [hc, ho]; dsimp only
 rw [ha]; dsimp only
 rw [hok]; exact hd
theorem zlH {f : Str} {fp : Pos} {name : Str} {apos pos : Pos} {a : Expr} {as : List Expr} {d : D} (hl : ρ.lookup f = none) (hg : cf.Γ f = none) (hc : (zgC (.Name f fp) && (apos.endLine == pos.line) && Nat.ble as.length 20) = true) (h : cf.H K ρ (.Call (.Attribute (.Name f fp) name apos) (a :: as) [] pos) = some d) :
  evD cf (n + 2) K ρ (.Call (.Attribute (.Name f fp) name apos) (a :: as) [] pos) = some d := by
 show zd6 cf _ _ K ρ _ (.Name f fp) name apos a as pos = _
 unfold zd6
 rw [hc]; dsimp only
 have : evD cf (n + 1) K ρ (.Name f fp) = none := by
  show yb cf K ρ f = _
  unfold yb
  split
  ·rfl
  ·rw [hl]; dsimp only
   split
   ·exact hg
   ·rfl
 rw [this]; exact h
theorem zgu {v₁ v₂ : Expr} {vs : List Expr} {p} {xs : List Str} {d : Str} (h : fsD cf n K ρ (v₁ :: v₂ :: vs) = some xs) (hb : Nat.ble (z3 xs) zK = true) (e : xs.foldl (· ++ ·) Str.empty = d) : evD cf (n + 1) K ρ (.JoinedStr (v₁ :: v₂ :: vs) p) = some (.str d) := by
 show (match fsD cf n K ρ (v₁ :: v₂ :: vs) with
  | some xs => (match Nat.ble (z3 xs) zK with | true => some (D.str (xs.foldl (· ++ ·) Str.empty)) | false => none)
  | none => none) = _
 rw [h]; dsimp only; rw [hb, e]
theorem zS : evL cf (n + 1) K ρ [] = some [] := rfl
theorem zJ {e : Expr} {es : List Expr} {d : D} {ds : List D} (h : evD cf n K ρ e = some d) (hs : evL cf n K ρ es = some ds) : evL cf (n + 1) K ρ (e :: es) = some (d :: ds) := by
 show (match evD cf n K ρ e with | some d => (match evL cf n K ρ es with | some ds => some (d :: ds) | none => none) | none => none) = _
 rw [h, hs]
theorem zgk : fsD cf (n + 1) K ρ [] = some [] := rfl
theorem zbw {x : Str} {k p} {es : List Expr} {xs : List Str} (h : fsD cf n K ρ es = some xs) : fsD cf (n + 1) K ρ (.Constant (.str x) k p :: es) = some (x :: xs) := by
 show (match fsD cf n K ρ es with | some xs => some (x :: xs) | none => none) = _
 rw [h]
theorem zgi {e : Expr} {p} {es : List Expr} {x : Str} {xs : List Str} (h : evD cf n K ρ e = some (.str x)) (hs : fsD cf n K ρ es = some xs) : fsD cf (n + 1) K ρ (.FormattedValue e (-1) none p :: es) = some (x :: xs) := by
 show (match evD cf n K ρ e with | some (.str x) => (match fsD cf n K ρ es with | some xs => some (x :: xs) | none => none) | _ => none) = _
 rw [h]; dsimp only; rw [hs]
theorem zku {x : Expr} {p} {b c : Bool} (h : tsD cf n K ρ x = some b) (e : (!b) = c) : tsD cf (n + 1) K ρ (.UnaryOp .Not x p) = some c := by
 show (match tsD cf n K ρ x with | some b => some (!b) | none => none) = _
 rw [h, ← e]
theorem zn2 {x : Expr} {p} (h : tsD cf n K ρ x = some false) : tsD cf (n + 1) K ρ (.UnaryOp .Not x p) = some true := zku h rfl
theorem zh9 {x : Expr} {p} (h : tsD cf n K ρ x = some true) : tsD cf (n + 1) K ρ (.UnaryOp .Not x p) = some false := zku h rfl
theorem zoF {a b : Expr} {p} {va d : D} (ha : evD cf n K ρ a = some va) (ht : zan va = some true) (h : evD cf n K ρ b = some d) : evD cf (n + 1) K ρ (.BoolOp .And [a, b] p) = some d := znW ha ht h
theorem zos {a b : Expr} {p} {va : D} (ha : evD cf n K ρ a = some va) (ht : zan va = some false) : evD cf (n + 1) K ρ (.BoolOp .And [a, b] p) = some va := znW ha ht rfl
theorem zw {es : List Expr} {p} {c : Bool} (h : zb1 cf n K ρ es = some c) : tsD cf (n + 1) K ρ (.BoolOp .And es p) = some c := h
theorem zaw {es : List Expr} {p} {c : Bool} (h : zbo cf n K ρ es = some c) : tsD cf (n + 1) K ρ (.BoolOp .Or es p) = some c := h
theorem zG {l r : Expr} {op p} {a b : D} {c : Bool} (ha : evD cf n K ρ l = some a) (hb : evD cf n K ρ r = some b) (h : yB op a b = some c) : tsD cf (n + 1) K ρ (.Compare l [op] [r] p) = some c := by
 show zhX _ l op r = _
 unfold zhX
 rw [ha, hb]; exact h
theorem zbK {x : Str} {p} {a : D} {c : Bool} (ha : evD cf n K ρ (.Name x p) = some a) (h : zan a = some c) : tsD cf (n + 1) K ρ (.Name x p) = some c := by
 show (match evD cf n K ρ (.Name x p) with | some a => zan a | none => none) = _
 rw [ha]; exact h
theorem zdA : zb1 cf (n + 1) K ρ [] = some true := rfl
theorem a_F {e : Expr} {es : List Expr} (h : tsD cf n K ρ e = some false) : zb1 cf (n + 1) K ρ (e :: es) = some false := by
 show (match tsD cf n K ρ e with | some true => zb1 cf n K ρ es | some false => some false | none => none) = _
 rw [h]
theorem a_T {e : Expr} {es : List Expr} {c : Bool} (h : tsD cf n K ρ e = some true) (k : zb1 cf n K ρ es = some c) : zb1 cf (n + 1) K ρ (e :: es) = some c := by
 show (match tsD cf n K ρ e with | some true => zb1 cf n K ρ es | some false => some false | none => none) = _
 rw [h]; exact k
theorem zoj {e : Expr} {c : Bool} (h : tsD cf (n + 1) K ρ e = some c) : tsL cf (n + 2) K ρ [e] = some c := by
 show (match tsD cf (n + 1) K ρ e with | some true => some true | some false => some false | none => none) = _
 rw [h]; cases c <;> rfl
theorem zbx : zbo cf (n + 1) K ρ [] = some false := rfl
theorem o_T {e : Expr} {es : List Expr} (h : tsD cf n K ρ e = some true) : zbo cf (n + 1) K ρ (e :: es) = some true := by
 show (match tsD cf n K ρ e with | some true => some true | some false => zbo cf n K ρ es | none => none) = _
 rw [h]
theorem o_F {e : Expr} {es : List Expr} {c : Bool} (h : tsD cf n K ρ e = some false) (k : zbo cf n K ρ es = some c) : zbo cf (n + 1) K ρ (e :: es) = some c := by
 show (match tsD cf n K ρ e with | some true => some true | some false => zbo cf n K ρ es | none => none) = _
 rw [h]; exact k
noncomputable def SN (M : List Str) (cf : Cf) (mu : List Str) (n : Nat) (K : Kn) (ρ : Rho) (st : Stmt) (o : Out) : Prop := NA M ρ → exD cf mu n K ρ st = some o ∧ NAo M o
noncomputable def LN (M : List Str) (cf : Cf) (mu : List Str) (n : Nat) (K : Kn) (ρ : Rho) (ss : List Stmt) (o : Out) : Prop := NA M ρ → exL cf mu n K ρ ss = some o ∧ NAo M o
noncomputable def LC (M : List Str) (cf : Cf) (mu : List Str) (n : Nat) (K : Kn) (o₁ : Out) (ss : List Stmt) (o : Out) : Prop := match o₁ with
 | .next ρ => LN M cf mu n K ρ ss o
 | o₁ => o₁ = o
variable {st : Stmt} {ss : List Stmt} {o o₁ : Out} {x : Str} {px p pos : Pos} {v : Expr} {d : D}
theorem zC (h : LN M cf mu n K ρ ss o) : LC M cf mu n K (.next ρ) ss o := h
theorem zlC : LC M cf mu n K (.brk ρ) ss (.brk ρ) := rfl
theorem yR : LC M cf mu n K (.ret d) ss (.ret d) := rfl
theorem zO : LN M cf mu (n + 1) K ρ [] (.next ρ) := fun h => ⟨rfl, h⟩
theorem zD (h : SN M cf mu n K ρ st o₁) (k : LC M cf mu n K o₁ ss o) : LN M cf mu (n + 1) K ρ (st :: ss) o := fun na => by
 refine zk (h na) fun h1 h2 => ?_
 show (match exD cf mu n K ρ st with | some (.next ρ') => exL cf mu n K ρ' ss | o => o) = _ ∧ _
 rw [h1]
 cases o₁ with
 | next ρ' => exact k h2
 | brk ρ' => have k : Out.brk ρ' = o := k; subst k; exact ⟨rfl, h2⟩
 | ret d => have k : Out.ret d = o := k; subst k; exact ⟨rfl, h2⟩
theorem zj {o' : Out} (h : LN M cf mu n K ρ ss o) (na : NA M ρ) (e : o = o') : exL cf mu n K ρ ss = some o' := e ▸ (h na).1
theorem xw {t : Expr} {b e : List Stmt} (ht : tsD cf n K ρ t = some true) (h : LN M cf mu n K ρ b o) : SN M cf mu (n + 1) K ρ (.If t b e pos) o := fun na => by
 show (match tsD cf n K ρ t with | some true => exL cf mu n K ρ b | some false => exL cf mu n K ρ e | none => none) = _ ∧ _
 rw [ht]; exact h na
theorem zc {t : Expr} {b e : List Stmt} (ht : tsD cf n K ρ t = some false) (h : LN M cf mu n K ρ e o) : SN M cf mu (n + 1) K ρ (.If t b e pos) o := fun na => by
 show (match tsD cf n K ρ t with | some true => exL cf mu n K ρ b | some false => exL cf mu n K ρ e | none => none) = _ ∧ _
 rw [ht]; exact h na
theorem zk4 (hx : M.contains x = false) (hd : ∀ z, d = .app z → M.contains z = true) (h : exD cf mu n K ρ st = some (.next (stD ρ x d))) : SN M cf mu n K ρ st (.next (xi ρ x d)) := fun na => by
 unfold stD at h
 rw [na.drop hx] at h
 exact ⟨h, NA.set hd na⟩
theorem zg (h0 : zgl cf mu n K ρ x v = zc9 cf n K ρ x v) (hk : zd K x = true) (hx : M.contains x = false) (hv : evD cf (n + 1) K ρ v = some d) (hp : d.pure = true) : SN M cf mu (n + 1) K ρ (.Assign [.Name x px] v pos) (.next (xi ρ x d)) := zk4 hx (zcv hp) (by
 show (match zd K x with | true => zgl cf mu n K ρ x v | false => none) = _
 rw [hk, h0]
 unfold zc9
 rw [hv]; dsimp only; rw [hp])
theorem NA.dropped {M : List Str} {x : Str} : ∀ {ρ : Rho}, NA M ρ → NA M (xA ρ x)
 | [], h => h
 | (y, v) :: ρ, h => by
  have t := NA.dropped (x := x) (ρ := ρ) fun p hp => h p (.tail _ hp)
  cases v with
  | app z =>
   rw [xA]
   split
   ·exact NA.cons (fun zz e => D.noConfusion e) t
   ·exact NA.cons (h _ (.head _)) t
  | _ => exact NA.cons (fun zz e => D.noConfusion e) t
theorem zn7 (h0 : zgl cf mu n K ρ x v = zc9 cf n K ρ x v) (hk : zd K x = true) (hv : evD cf (n + 1) K ρ v = some d) (hp : d.pure = true) : SN M cf mu (n + 1) K ρ (.Assign [.Name x px] v pos) (.next (xi (xA ρ x) x d)) := fun na => ⟨by
 show (match zd K x with | true => zgl cf mu n K ρ x v | false => none) = _
 rw [hk, h0]
 unfold zc9
 rw [hv]; dsimp only; rw [hp]; rfl, NA.set (zcv hp) na.dropped⟩
theorem zdj {es : List Expr} {ds : List D} (hk : zd K x = true) (hm : mu.contains x = true) (hl : evL cf n K ρ es = some ds) (hp : (ds.all D.pure && Nat.ble ds.length zK) = true) (hdr : NA M ρ → xA ρ x = ρ) : SN M cf mu (n + 1) K ρ (.Assign [.Name x px] (.List es p) pos) (.next (xi ρ x (.own ds))) := fun na => by
 have h : exD cf mu (n + 1) K ρ (.Assign [.Name x px] (.List es p) pos) = some (.next (stD ρ x (.own ds))) := by
  show (match zd K x with | true => (match mu.contains x with
   | true => (match evL cf n K ρ es with | some ds => (match (ds.all D.pure && Nat.ble ds.length zK) with | true => some (Out.next (stD ρ x (.own ds))) | false => none) | none => none)
   | false => zc9 cf n K ρ x (.List es p)) | false => none) = _
  rw [hk, hm, hl]; dsimp only; rw [hp]
 unfold stD at h
 rw [hdr na] at h
 exact ⟨h, NA.set (fun zz e => D.noConfusion e) na⟩
theorem zlF {r : Str} {rp q : Pos} {ds : List D} (hk : zd K x = true) (hl : ρ.lookup r = some (.own ds)) (hn : (zR r && (r != x)) = true) (hx : M.contains x = false) (hr : M.contains r = true) : SN M cf mu (n + 1) K ρ (.Assign [.Name x px] (.Attribute (.Name r rp) "append" q) pos) (.next (xi ρ x (.app r))) := zk4 hx (fun z e => by cases e; exact hr) (by
 show (match zd K x with | true => (match ρ.lookup r with | some (.own _) => (match (zR r && (r != x)) with | true => some (Out.next (stD ρ x (.app r))) | false => none) | _ => none) | false => none) = _
 rw [hk, hl]; dsimp only; rw [hn])
theorem znw {y : Str} {py : Pos} {k k2 tp vp cp} {a : Expr} {as : List Expr} {ks : List Keyword} {fe : Expr} {da db : D} (hc : ((K.lookup x == some .local) && (K.lookup y == some .local) && (px.line == py.line) && (x != y)) = true) (hx : M.contains x = false) (hy : M.contains y = false) (ha : evD cf n K ρ a = some da) (hb : evD cf n K ρ (.Call fe as ks cp) = some db) (h1 : da.pure = true) (h2 : db.pure = true) :
  SN M cf mu (n + 1) K ρ (.Assign [.Tuple [.Name x px, .Name y py] k tp] (.Tuple [a, .Call fe as ks cp] k2 vp) pos) (.next (xi (xi ρ y db) x da)) := fun na => by
 have h : exD cf mu (n + 1) K ρ (.Assign [.Tuple [.Name x px, .Name y py] k tp] (.Tuple [a, .Call fe as ks cp] k2 vp) pos) = some (.next (stD (stD ρ y db) x da)) := by
  show (match (true && ((K.lookup x == some .local) && (K.lookup y == some .local) && (px.line == py.line) && (x != y))) with
      | true => (match evD cf n K ρ a with
       | some da => (match evD cf n K ρ (.Call fe as ks cp) with
        | some db => (match (da.pure && db.pure) with | true => some (Out.next (stD (stD ρ y db) x da)) | false => none)
        | none => none)
       | none => none)
      | false => none) = _
  rw [hc, ha, hb]
  show (match da.pure && db.pure with | true => some (Out.next (stD (stD ρ y db) x da)) | false => none) = _
  rw [h1, h2]; rfl
 have n1 := NA.set (x := y) (zcv h2) na
 unfold stD at h
 rw [na.drop hy, n1.drop hx] at h
 exact ⟨h, NA.set (zcv h1) n1⟩
theorem zbs {e : Expr} {i j : Int} (hk : (zd K x && zR x) = true) (hx : M.contains x = false) (hl : ρ.lookup x = some (.int i)) (he : evD cf n K ρ e = some (.int j)) : SN M cf mu (n + 1) K ρ (.AugAssign (.Name x p) .Add e pos) (.next (xi ρ x (.int (i + j)))) := zk4 hx (fun zz e => D.noConfusion e) (by
 show zkz cf n K ρ x p e = _
 unfold zkz
 have hx : zR x = true := (Bool.and_eq_true_iff.mp hk).2
 rw [hk, zB hl rfl hx, he])
theorem zgv {i e : Expr} {xp sp : Pos} {ds : List D} {k : Int} {z y : Str} (hl : ρ.lookup x = some (.own ds)) (hq : zR x = true) (h1 : Nat.ble ds.length zK = true) (hi : evD cf n K ρ i = some (.int k)) (h2 : (decide (k < 0) && decide (0 ≤ k + ds.length)) = true) (h3 : ds[(k + ds.length).toNat]? = some (.str z)) (he : evD cf n K ρ e = some (.str y)) (h4 : Nat.ble (z.length + y.length) zK = true) :
  SN M cf mu (n + 1) K ρ (.AugAssign (.Subscript (.Name x xp) i sp) .Add e pos) (.next (xi ρ x (.own (ds.set (k + ds.length).toNat (.str (z ++ y)))))) := fun na => by
 refine ⟨?_, NA.set (fun zz e => D.noConfusion e) na⟩
 show zkS cf n K ρ x i e = _
 unfold zkS
 have h1 : (zR x && Nat.ble ds.length zK) = true := by rw [hq, h1]; rfl
 rw [hl]; dsimp only; rw [h1, hi]; dsimp only; rw [h2]; dsimp only; rw [h3, he]; dsimp only; rw [h4]
theorem zai {t : Expr} {b : List Stmt} (h : whS cf n K ρ mu t b = some o) (hn : NAo M o) : SN M cf mu (n + 1) K ρ (.While t b [] pos) o := fun na => ⟨h, hn⟩
theorem zfk {it : Expr} {b : List Stmt} {ds : List D} (hk : zd K x = true) (hv : evD cf n K ρ it = some d) (hi : zu d = some ds) (h : zez cf n K ρ mu x b ds = some o) (hn : NAo M o) : SN M cf mu (n + 1) K ρ (.For (.Name x px) it b [] pos) o := fun na => by
 refine ⟨?_, hn⟩
 show (match zd K x with
   | true => (match evD cf n K ρ it with
    | some d => (match zu d with | some ds => zez cf n K ρ mu x b ds | none => none)
    | none => none)
   | false => none) = _
 rw [hk, hv]; dsimp only; rw [hi]; exact h
theorem zce {e : Expr} (h0 : zmD cf n K ρ e = (match evD cf n K ρ e with | some d => (match d.pure with | true => some (.ret d) | false => none) | none => none)) (hv : evD cf n K ρ e = some d) (hp : d.pure = true) : SN M cf mu (n + 1) K ρ (.Return (some e) pos) (.ret d) := fun na => by
 refine ⟨?_, trivial⟩
 show zmD cf n K ρ e = _
 rw [h0, hv]; dsimp only; rw [hp]
theorem ziy {ds : List D} (hl : ρ.lookup x = some (.own ds)) (hn : zR x = true) : SN M cf mu (n + 1) K ρ (.Return (some (.Name x p)) pos) (.ret (.lst ds)) := fun na => by
 refine ⟨?_, trivial⟩
 show za1 _ ρ (.Name x p) = _
 unfold za1
 dsimp only
 rw [hl]; dsimp only; rw [hn]
theorem zmW {t e : Expr} {q : Pos} {ds : List D} (ht : tsD cf n K ρ t = some true) (hl : ρ.lookup x = some (.own ds)) (hn : zR x = true) : SN M cf mu (n + 1) K ρ (.Return (some (.IfExp t (.Name x p) e q)) pos) (.ret (.lst ds)) := fun na => by
 refine ⟨?_, trivial⟩
 show (match tsD cf n K ρ t with
  | some true => za1 (evD cf n K ρ) ρ (.Name x p)
  | some false => za1 (evD cf n K ρ) ρ e
  | none => none) = _
 rw [ht]
 show za1 _ ρ (.Name x p) = _
 unfold za1
 dsimp only
 rw [hl]; dsimp only; rw [hn]
theorem zoa (hl : ρ.lookup x = some d) (hp : d.pure = true) (hv : evD cf n K ρ (.Name x p) = some d) : SN M cf mu (n + 1) K ρ (.Return (some (.Name x p)) pos) (.ret d) := fun na => by
 refine ⟨?_, trivial⟩
 show za1 _ ρ (.Name x p) = _
 unfold za1
 dsimp only
 rw [hl]
 cases d with
 | own ds => exact Bool.noConfusion (show false = true from hp)
 | _ => rw [hv]; dsimp only; rw [hp]
theorem ziJ {a : Expr} {ds : List D} (hl : ρ.lookup x = some (.own ds)) (ha : evD cf n K ρ a = some d) (h1 : d.pure = true) (h2 : Nat.ble ds.length zK = true) : zdp cf n K ρ x a = some (.next (xi ρ x (.own (ds ++ [d])))) := by
 unfold zdp
 rw [hl, ha]; dsimp only
 rw [h1, h2]; rfl
theorem zab {xp apos cpos : Pos} {a : Expr} {ds : List D} (hc : ((("append" : Str) == ("append" : Str)) && (apos.endLine == cpos.line) && zR x) = true) (hl : ρ.lookup x = some (.own ds)) (ha : evD cf n K ρ a = some d) (h1 : d.pure = true) (h2 : Nat.ble ds.length zK = true) :
  SN M cf mu (n + 1) K ρ (.Expr (.Call (.Attribute (.Name x xp) "append" apos) [a] [] cpos) pos) (.next (xi ρ x (.own (ds ++ [d])))) := fun na => by
 refine ⟨?_, NA.set (fun zz e => D.noConfusion e) na⟩
 show (match ((("append" : Str) == ("append" : Str)) && (apos.endLine == cpos.line) && zR x) with | true => zdp cf n K ρ x a | false => none) = _
 rw [hc]; exact ziJ hl ha h1 h2
theorem zb8 {f : Str} {fp cpos : Pos} {a : Expr} {ds : List D} (hc : zR f = true) (hf : ρ.lookup f = some (.app x)) (hl : ρ.lookup x = some (.own ds)) (ha : evD cf n K ρ a = some d) (h1 : d.pure = true) (h2 : Nat.ble ds.length zK = true) :
  SN M cf mu (n + 1) K ρ (.Expr (.Call (.Name f fp) [a] [] cpos) pos) (.next (xi ρ x (.own (ds ++ [d])))) := fun na => by
 refine ⟨?_, NA.set (fun zz e => D.noConfusion e) na⟩
 show (match zR f with | true => (match ρ.lookup f with | some (.app x) => zdp cf n K ρ x a | _ => none) | false => none) = _
 rw [hc, hf]; exact ziJ hl ha h1 h2
theorem zat {t : Expr} (ht : tsD cf n K ρ t = some true) : SN M cf mu (n + 1) K ρ (.Assert t none pos) (.next ρ) := fun na => by
 refine ⟨?_, na⟩
 show (match tsD cf n K ρ t with | some true => some (Out.next ρ) | _ => none) = _
 rw [ht]
theorem zl6 : SN M cf mu (n + 1) K ρ (.Break pos) (.brk ρ) := fun na => ⟨rfl, na⟩
end
end
section
noncomputable abbrev Nm := Option (Str × Str)
noncomputable def nmD : Nm → D | none => .none | some (a, b) => .tup [.str a, .str b]
noncomputable def zbb (p : Int × Nm) : D := .tup [.int p.1, nmD p.2]
noncomputable def xD (t : List (Int × Nm)) : D := .lst (t.map zbb)
theorem zcD {ds : List D} {n : Nat} (h : n < ds.length) (hb : ds.length ≤ zK) : x7 (.lst ds) (.int n) = some ds[n] := by
 unfold x7 zaB
 have h1 : decide ((0 : Int) ≤ (n : Int)) = true := by simp
 have h2 : Nat.blt ((n : Int)).toNat ds.length = true := by simp [Nat.blt_eq, h]
 have h3 : Nat.ble ds.length zK = true := Nat.ble_eq_true_of_le hb
 simp only [h1, h2, h3]
 simp [h]
theorem zec {t : List (Int × Nm)} {n : Nat} (h : n < t.length) (hb : t.length ≤ zK) : x7 (xD t) (.int n) = some (zbb t[n]) := by
 unfold xD
 rw [zcD (by simpa using h) (by simpa using hb)]
 simp
theorem zkM (p : Int × Nm) : x7 (zbb p) (.int 1) = some (nmD p.2) := rfl
theorem zeI (x : Nm) : (nmD x).pure = true := by cases x <;> rfl
theorem zbN (x : Nm) (z : Str) : nmD x ≠ .app z := by cases x <;> simp [nmD]
theorem zk1 (t) : xD t = .lst (t.map zbb) := rfl
theorem zmo (a : D) (w : List D) (h : w.length ≤ 1000) : yu .Add (.lst [a]) (.lst w) = some (.lst (a :: w)) := by
 exact zfO (xs := [a]) (Nat.le_trans (Nat.add_le_add_left h 1) (by decide))
section
variable (cf : Cf)
theorem zlr {t : List (Int × Nm)} {n : Nat} (w : List D) (h : n < t.length) (hb : t.length ≤ zK) (hw : w.length ≤ 1000) :
  exL cf [] 40 [("tree", .local), ("n", .local), ("way", .local)] [("tree", xD t), ("n", .int n), ("way", .lst w)] (zm (zM 18) 1) = some (.next [("tree", xD t), ("n", .int t[n].1), ("way", .lst (nmD t[n].2 :: w))]) := by
 have hi := zec h hb
 have ha := zmo (nmD t[n].2) w hw
 have hp : ([nmD t[n].2].all D.pure && Nat.ble [nmD t[n].2].length zK) = true := by
  show ((nmD t[n].2).pure && true) && true = true
  rw [zeI]; rfl
 refine zj (M := []) (zD (zg rfl rfl rfl (z0 (ziP (zJ (zX rfl (zX rfl (zB rfl rfl rfl) (zB rfl rfl rfl) hi) zN rfl) zS) hp) (zB rfl rfl rfl) ha) rfl) (zC (zD (zg rfl rfl rfl (zX rfl (zX rfl (zB rfl rfl rfl) (zB rfl rfl rfl) hi) zN rfl) rfl) (zC zO)))) (NA.of rfl) ?_
 rfl
end
end
section
noncomputable def zbA (t : List (Int × Nm)) : Nat → Nat → List Nm
 | 0, _ => []
 | f + 1, n => if n = 0 then [] else zbA t f ((t[n]?.getD (0, none)).1).toNat ++ [(t[n]?.getD (0, none)).2]
structure Wft (t : List (Int × Nm)) : Prop where
 par : ∀ i, (h : i < t.length) → i ≠ 0 → ∃ p : Nat, t[i].1 = (p : Int) ∧ p < i
 len : t.length ≤ 100
 pos : 0 < t.length
section
variable (cf : Cf)
theorem zkm {t : List (Int × Nm)} {n : Nat} (w : List D) : tsD cf 40 [("tree", .local), ("n", .local), ("way", .local)] [("tree", xD t), ("n", .int n), ("way", .lst w)] (xT (zM 18) 1) = some ((n : Int) != 0) := by
 exact (zG (zB rfl rfl rfl) zN rfl)
theorem zgE (t : List (Int × Nm)) (wf : Wft t) : ∀ f n, n < t.length → (zbA t f n).length ≤ n
 | 0, n, _ => Nat.zero_le _
 | f + 1, n, h => by
  unfold zbA
  split
  ·exact Nat.zero_le _
  ·rename_i hn
   refine zQ (wf.par n h hn) fun p hp hpn => ?_
   have e : (t[n]?.getD (0, none)) = t[n] := by simp [h]
   rw [e, hp, List.length_append]
   have := zgE t wf f p (by lia)
   simp only [Int.toNat_natCast, List.length_singleton]
   lia
theorem zhe {t : List (Int × Nm)} (wf : Wft t) : ∀ f n (w : List D), n < t.length → n < f → w.length + n ≤ 200 →
  whD (fun ρ => tsD cf 40 [("tree", .local), ("n", .local), ("way", .local)] ρ (xT (zM 18) 1)) (fun ρ => exL cf [] 40 [("tree", .local), ("n", .local), ("way", .local)] ρ (zm (zM 18) 1)) f [("tree", xD t), ("n", .int n), ("way", .lst w)] =
   some (.next [("tree", xD t), ("n", .int 0), ("way", .lst ((zbA t f n).map nmD ++ w))])
 | 0, n, w, _, h, _ => absurd h (Nat.not_lt_zero _)
 | f + 1, n, w, hn, hf, hw => by
  have hb : t.length ≤ zK := by have := wf.len; have : zK = 1000000 := rfl; lia
  rw [whD, zkm]
  by_cases h0 : n = 0
  ·subst h0
   simp [zbA]
  ·have : ((n : Int) != 0) = true := by simp [h0]
   rw [this]
   dsimp only
   rw [zlr cf w hn hb (by lia)]
   dsimp only
   refine zQ (wf.par n hn h0) fun p hp hpn => ?_
   rw [hp, zhe wf f p _ (by lia) (by lia) (by simp; lia)]
   have e : (t[n]?.getD (0, none)) = t[n] := by simp [hn]
   rw [zbA, if_neg h0, e, hp]
   simp
noncomputable def z9 (t : List (Int × Nm)) (n : Nat) : List Nm := zbA t xu n
theorem zeJ {t : List (Int × Nm)} (wf : Wft t) {n : Nat} (h : n < t.length) : (z9 t n).length ≤ n := zgE t wf _ n h
theorem zmT {t : List (Int × Nm)} (wf : Wft t) {n : Nat} (h : n < t.length) : exL cf [] 43 (zE 18) (yF (zE 18) ["tree", "n"] [xD t, .int n]) (zM 18) = some (.ret (.lst ((z9 t n).map nmD))) := by
 have hl : whS cf 40 ([("tree", .local), ("n", .local), ("way", .local)] : Kn) [("tree", xD t), ("n", .int n), ("way", .lst [])] [] (xT (zM 18) 1) (zm (zM 18) 1) = some (.next [("tree", xD t), ("n", .int 0), ("way", .lst ((zbA t xu n).map nmD ++ []))]) :=
  zhe cf wf xu n [] h (by have := wf.len; have : xu = 1000000 := rfl; lia) (by have := wf.len; simp; lia)
 show exL cf [] 43 (zE 18) ([("tree", xD t), ("n", .int n), ("way", .unb)] : Rho) (zM 18) = _
 refine zj (M := []) (zD (zg rfl rfl rfl (ziP zS rfl) rfl) (zC (zD (zai hl (zpD rfl)) (zC (zD (zoa rfl rfl (zB rfl rfl rfl)) yR))))) (NA.of rfl) ?_
 unfold z9
 rw [List.append_nil]
end
end
section
theorem zfA (i j : Int) (h : j ≠ 0) : yu .Mod (.int i) (.int j) = some (.int (i.fmod j)) := by
 show gd (!decide (j = 0)) _ = _
 rw [decide_eq_false h]; rfl
theorem ziG (i j : Int) (h : 0 < j) (h' : j < 1000) : yu .FloorDiv (.int i) (.int j) = some (.int (i.fdiv j)) := by
 show gd (decide (0 < j ∧ j < 1000)) _ = _
 rw [decide_eq_true ⟨h, h'⟩]; rfl
theorem zoY (i j : Int) : yu .Sub (.int i) (.int j) = some (.int (i - j)) := rfl
noncomputable def spS : List Str := ["", "u", "uu", "u*"]
noncomputable def wdS : List Str := ["a", "aa", "b?", "a*", "[a"]
noncomputable def zaT (x : Int) : Nm := if x.fmod 20 = 19 then none else some (spS.getD (x.fmod 4).toNat Str.empty, wdS.getD ((x.fdiv 4).fmod 5).toNat Str.empty)
noncomputable def xb (t : List (Int × Nm)) (x : Int) : List (Int × Nm) := t ++ [((x.fdiv 20).fmod t.length, zaT x)]
noncomputable def zdk (ns : List Int) : List (Int × Nm) := ns.foldl xb [(0, none)]
theorem za8 (x : Int) (k : Nat) (h : 0 < k) : ∃ j : Nat, x.fmod k = j ∧ j < k := by
 have h1 : 0 ≤ x.fmod k := Int.fmod_nonneg_of_pos x (by lia)
 have h2 : x.fmod k < k := Int.fmod_lt_of_pos x (by lia)
 exact ⟨(x.fmod k).toNat, by omega, by omega⟩
theorem znZ (x : Int) : x7 (.lst [.str "", .str "u", .str "uu", .str "u*"]) (.int (x.fmod 4)) = some (.str (spS.getD (x.fmod 4).toNat Str.empty)) := by
 obtain ⟨j, hj, hl⟩ := za8 x 4 (by lia)
 have : x.fmod (4 : Int) = j := hj
 rw [this]
 have : j = 0 ∨ j = 1 ∨ j = 2 ∨ j = 3 := by lia
 rcases this with rfl | rfl | rfl | rfl <;> rfl
theorem zow (x : Int) : x7 (.lst [.str "a", .str "aa", .str "b?", .str "a*", .str "[a"]) (.int (x.fmod 5)) = some (.str (wdS.getD (x.fmod 5).toNat Str.empty)) := by
 obtain ⟨j, hj, hl⟩ := za8 x 5 (by lia)
 have : x.fmod (5 : Int) = j := hj
 rw [this]
 have : j = 0 ∨ j = 1 ∨ j = 2 ∨ j = 3 ∨ j = 4 := by lia
 rcases this with rfl | rfl | rfl | rfl | rfl <;> rfl
theorem xH {ds : List D} (h : ds.length ≤ zK) : zu (.lst ds) = some ds := by unfold zu; simp [Nat.ble_eq_true_of_le h]
noncomputable def za6 (ns : D) (t : List (Int × Nm)) (x name : D) : Rho := [("numbers", ns), ("spaces", .lst [.str "", .str "u", .str "uu", .str "u*"]), ("words", .lst [.str "a", .str "aa", .str "b?", .str "a*", .str "[a"]), ("tree", .own (t.map zbb)), ("x", x), ("name", name)]
theorem zno (ds : List D) (h : ds.length ≤ zK) : zbY (.own ds) = some (.int ds.length) := by unfold zbY; simp [Nat.ble_eq_true_of_le h]
theorem zcy (ds : List D) (h : ds.length ≤ zK) : zbY (.lst ds) = some (.int ds.length) := by unfold zbY; simp [Nat.ble_eq_true_of_le h]
theorem zfG (cf : Cf) (d : D) : yd cf (.blt "len") [d] = zbY d := rfl
theorem znd {ns : List D} {t : List (Int × Nm)} {x name : D} (hn : ∀ z, name ≠ .app z) (hx : ∀ z, x ≠ .app z) : NA [] (za6 (.lst ns) t x name) := by
 exact NA.cons (fun zz e => D.noConfusion e) (NA.cons (fun zz e => D.noConfusion e) (NA.cons (fun zz e => D.noConfusion e) (NA.cons (fun zz e => D.noConfusion e) (NA.cons (fun z e => absurd e (hx z)) (NA.cons (fun z e => absurd e (hn z)) NA.nil)))))
theorem zf8 (t : List (Int × Nm)) (x : Int) : (xb t x).map zbb = t.map zbb ++ [.tup [.int ((x.fdiv 20).fmod t.length), nmD (zaT x)]] := by
 unfold xb; rw [List.map_append]; rfl
section
variable (cf : Cf)
theorem zjv (hlen : cf.Γ "len" = some (.blt "len")) (ns : List D) (t : List (Int × Nm)) (x : Int) (name : D) (hn : ∀ z, name ≠ .app z) (ht : t.length ≤ 100) (hp : 0 < t.length) :
  exL cf ["tree"] 40 (zE 17) (za6 (.lst ns) t (.int x) name) (zm (zM 17) 3) = some (.next (za6 (.lst ns) (xb t x) (.int x) (nmD (zaT x)))) := by
 have hb' : (t.map zbb).length ≤ zK := by rw [List.length_map]; exact Nat.le_trans ht (by decide)
 have hl : yd cf (.blt "len") [.own (t.map zbb)] = some (.int (t.map zbb).length) := zno (t.map zbb) hb'
 have hbl : Nat.ble (t.map zbb).length zK = true := Nat.ble_eq_true_of_le hb'
 have hm : yu .Mod (.int (x.fdiv 20)) (.int (t.map zbb).length) = some (.int ((x.fdiv 20).fmod t.length)) := by rw [List.length_map]; exact zfA _ _ (by lia)
 have e1 := znZ x
 have e2 := zow (x.fdiv 4)
 have m1 : yu .Mod (.int x) (.int 20) = some (.int (x.fmod 20)) := zfA _ _ (by decide)
 have m2 : yu .Mod (.int x) (.int 4) = some (.int (x.fmod 4)) := zfA _ _ (by decide)
 have m3 : yu .FloorDiv (.int x) (.int 4) = some (.int (x.fdiv 4)) := ziG _ _ (by decide) (by decide)
 have m4 : yu .Mod (.int (x.fdiv 4)) (.int 5) = some (.int ((x.fdiv 4).fmod 5)) := zfA _ _ (by decide)
 have m5 : yu .FloorDiv (.int x) (.int 20) = some (.int (x.fdiv 20)) := ziG _ _ (by decide) (by decide)
 have fin : ∀ d, d = nmD (zaT x) → (.next (za6 (.lst ns) (xb t x) (.int x) (nmD (zaT x))) : Out) = .next (xi (xi (za6 (.lst ns) t (.int x) name) "name" d) "tree" (.own (t.map zbb ++ [.tup [.int ((x.fdiv 20).fmod t.length), d]]))) := fun d e => by
  subst e
  unfold za6
  rw [zf8]; rfl
 by_cases h : x.fmod 20 = 19
 ·have hb : (x.fmod 20 == 19) = true := beq_iff_eq.mpr h
  refine zj (M := []) (zD (zg rfl rfl rfl (znt (zG (z0 (zB rfl rfl rfl) zN m1) zN (congrArg some hb)) xj) rfl) (zC (zD (zab rfl rfl (zaE (zJ (z0 (z0 (zB rfl rfl rfl) zN m5) (xy rfl (xM rfl rfl hlen rfl) (zJ (zB rfl rfl rfl) zS) rfl hl) hm) (zJ (zB rfl rfl rfl) zS)) rfl) rfl hbl) (zC zO)))) (znd hn (fun zz e => D.noConfusion e)) ?_
  exact (fin .none (by unfold zaT; rw [if_pos h]; rfl)).symm
 ·have hb : (x.fmod 20 == 19) = false := beq_eq_false_iff_ne.mpr h
  refine zj (M := []) (zD (zg rfl rfl rfl (znS (zG (z0 (zB rfl rfl rfl) zN m1) zN (congrArg some hb)) (zaE (zJ (zX rfl (zB rfl rfl rfl) (z0 (zB rfl rfl rfl) zN m2) e1) (zJ (zX rfl (zB rfl rfl rfl) (z0 (z0 (zB rfl rfl rfl) zN m3) zN m4) e2) zS)) rfl)) rfl) (zC (zD (zab rfl rfl (zaE (zJ (z0 (z0 (zB rfl rfl rfl) zN m5) (xy rfl (xM rfl rfl hlen rfl) (zJ (zB rfl rfl rfl) zS) rfl hl) hm) (zJ (zB rfl rfl rfl) zS)) rfl) rfl hbl) (zC zO)))) (znd hn (fun zz e => D.noConfusion e)) ?_
  exact (fin (.tup [.str (spS.getD (x.fmod 4).toNat Str.empty), .str (wdS.getD ((x.fdiv 4).fmod 5).toNat Str.empty)]) (by unfold zaT; rw [if_neg h]; rfl)).symm
theorem zfu (hlen : cf.Γ "len" = some (.blt "len")) (L : List D) : ∀ (ns : List Int) (t : List (Int × Nm)) (x name : D), (∀ z, name ≠ .app z) → (∀ z, x ≠ .app z) → t.length + ns.length ≤ 100 → 0 < t.length →
  ∃ x' name', (∀ z, name' ≠ .app z) ∧ (∀ z, x' ≠ .app z) ∧ zez cf 40 (zE 17) (za6 (.lst L) t x name) ["tree"] "x" (zm (zM 17) 3) (ns.map .int) = some (.next (za6 (.lst L) (ns.foldl xb t) x' name'))
 | [], t, x, name, hn, hx, _, _ => ⟨x, name, hn, hx, rfl⟩
 | i :: ns, t, x, name, hn, hx, hl, hp => by
  obtain ⟨x', name', h1, hx1, h2⟩ := zfu hlen L ns (xb t i) (.int i) (nmD (zaT i)) (zbN _) (by simp) (by simp [xb] at *; lia) (by simp [xb])
  refine ⟨x', name', h1, hx1, ?_⟩
  have hs : stD (za6 (.lst L) t x name) "x" (.int i) = za6 (.lst L) t (.int i) name := zeU (znd hn hx) rfl
  have hb := zjv cf hlen L t i name hn (by simp at hl; lia) hp
  unfold zez at h2 ⊢
  rw [List.map_cons, zb0, znB]
  dsimp only
  rw [hs, hb]
  exact h2
theorem zki (hlen : cf.Γ "len" = some (.blt "len")) (ns : List Int) (h : ns.length ≤ 90) : exL cf ["tree"] 45 (zE 17) (yF (zE 17) ["numbers"] [.lst (ns.map .int)]) (zM 17) = some (.ret (xD (zdk ns))) := by
 obtain ⟨x', name', h1, hx1, h2⟩ := zfu cf hlen (ns.map .int) ns [(0, none)] .unb .unb (by simp) (by simp) (by simp; lia) (by decide)
 have hi : zu (.lst (ns.map .int)) = some (ns.map .int) := xH (by rw [List.length_map]; exact Nat.le_trans h (by decide))
 have hn : NAo [] (.next (za6 (.lst (ns.map .int)) (zdk ns) x' name')) := znd h1 hx1
 replace h2 : zez cf 40 (zE 17) (za6 (.lst (ns.map .int)) [(0, none)] .unb .unb) ["tree"] "x" (zm (zM 17) 3) (ns.map .int) = some (.next (za6 (.lst (ns.map .int)) (zdk ns) x' name')) := h2
 show exL cf ["tree"] 45 (zE 17) ([("numbers", .lst (ns.map .int)), ("spaces", .unb), ("words", .unb), ("tree", .unb), ("x", .unb), ("name", .unb)] : Rho) (zM 17) = _
 refine zj (M := []) (zD (zg rfl rfl rfl (ziP (zJ zP (zJ zP (zJ zP (zJ zP zS)))) rfl) rfl) (zC (zD (zg rfl rfl rfl (ziP (zJ zP (zJ zP (zJ zP (zJ zP (zJ zP zS))))) rfl) rfl) (zC (zD (zdj rfl rfl (zJ (zaE (zJ zN (zJ xj zS)) rfl) zS) rfl (zaY rfl)) (zC (zD (zfk rfl (zB rfl rfl rfl) hi h2 hn) (zC (zD (ziy rfl rfl) yR))))))))) (NA.of rfl) ?_
 rfl
end
end
section
theorem zcP : ∀ (n : Nat) (a : Int), yG a n = (List.range n).map fun i => .int (a + i)
 | 0, _ => rfl
 | n + 1, a => by
  rw [yG, zcP n (a + 1), List.range_succ_eq_map]
  simp
  intro i _
  lia
theorem zfD {a b : Nat} (h : a ≤ b) (hb : b ≤ 1000000) : zu (.rng a b) = some ((List.range (b - a)).map fun (i : Nat) => .int (a + i)) := by
 unfold zu
 have h1 : decide ((0 : Int) ≤ (a : Int)) = true := by simp
 have h2 : decide ((a : Int) ≤ (b : Int)) = true := by simp [h]
 have h3 : decide ((b : Int) ≤ (zK : Int)) = true := by simp; have : zK = 1000000 := rfl; lia
 simp only [h1, h2, h3]
 rw [zcP]
 have : ((b : Int) - (a : Int)).toNat = b - a := by lia
 rw [this]
theorem x9 (tst : D → Option Bool) (el : D → Option D) {α : Type} (f : α → D) (p : α → Bool) (g : α → D) : ∀ (l : List α), (∀ x ∈ l, tst (f x) = some (p x)) → (∀ x ∈ l, p x = true → el (f x) = some (g x)) → (∀ x ∈ l, p x = true → (g x).pure = true) →
  xQ tst el (l.map f) = some ((l.filter p).map g)
 | [], _, _, _ => rfl
 | x :: l, h1, h2, h3 => by
  rw [List.map_cons, xQ, h1 x (.head _)]
  have ih := x9 tst el f p g l (fun y hy => h1 y (.tail _ hy)) (fun y hy => h2 y (.tail _ hy)) (fun y hy => h3 y (.tail _ hy))
  cases hp : p x with
  | true =>
   rw [h2 x (.head _) hp]
   dsimp only
   rw [h3 x (.head _) hp]
   rw [ih]
   simp [hp]
  | false =>
   dsimp only
   rw [ih]
   simp [hp]
noncomputable def ze (t : List (Int × Nm)) (n : Int) : List Nat := ((List.range (t.length - 1)).filter fun i => ((t[i + 1]?.getD (0, none)).1 == n)).map (· + 1)
section
variable (cf : Cf)
theorem za5 {n : Nat} {K : Kn} {ρ : Rho} {elt iter : Expr} {x : Str} {px p : Pos} {ifs : List Expr} {csc : Scope} {d : D} {ds ys : List D} (hg : (z8 csc.names K ρ x && (csc.kind == .function)) = true) (hi : evD cf n K ρ iter = some d) (hd : zu d = some ds)
  (hc : xQ (fun d => tsL cf n (yD csc.names K) ((x, d) :: ρ.filter fun q => xE csc.names q.1) ifs) (fun d => evD cf n (yD csc.names K) ((x, d) :: ρ.filter fun q => xE csc.names q.1) elt) ds = some ys) :
  evD cf (n + 1) K ρ (.ListComp elt [⟨.Name x px, iter, ifs, 0⟩] csc p) = some (.lst ys) := by
 rw [zoM, hg]
 rw [hi]
 dsimp only
 rw [hd]
 dsimp only
 rw [hc]
theorem zke (hlen : cf.Γ "len" = some (.blt "len")) (hrng : cf.Γ "range" = some (.typ "range")) {t : List (Int × Nm)} (ht : t.length ≤ 100) (hp : 0 < t.length) (n : Int) :
  exL cf [] 43 (zE 19) (yF (zE 19) ["tree", "n"] [xD t, .int n]) (zM 19) = some (.ret (.lst ((ze t n).map fun (k : Nat) => .int (k : Int)))) := by
 have hb : t.length ≤ zK := Nat.le_trans ht (by decide)
 have hl : yd cf (.blt "len") [xD t] = some (.int t.length) := by
  rw [← List.length_map (f := zbb) (as := t)]; exact zcy (t.map zbb) (by rw [List.length_map]; exact hb)
 have hc : evD cf 41 (zE 19) ([("tree", xD t), ("n", .int n)] : Rho) (match zM 19 with | .Return (some e) _ :: _ => e | _ => .Constant .none 0 default) = some (.lst ((ze t n).map fun (k : Nat) => .int (k : Int))) := by
  refine za5 cf (ds := (List.range (t.length - 1)).map fun (i : Nat) => .int ((1 : Nat) + i)) (ys := (ze t n).map fun (k : Nat) => .int (k : Int)) (d := .rng (1 : Nat) t.length) rfl ?_ (zfD hp (Nat.le_trans ht (by decide))) ?_
  ·exact (xy rfl (xM rfl rfl hrng rfl) (zJ zN (zJ (xy rfl (xM rfl rfl hlen rfl) (zJ (zB rfl rfl rfl) zS) rfl hl) zS)) rfl rfl)
  ·have hidx : ∀ i, i < t.length - 1 → x7 (xD t) (.int ((1 : Nat) + (i : Nat))) = some (zbb (t[i + 1]?.getD (0, none))) := by
    intro i hi
    have h1 : i + 1 < t.length := by lia
    have := zec h1 hb
    have e : ((1 : Nat) : Int) + (i : Nat) = ((i + 1 : Nat) : Int) := by lia
    rw [e, this, List.getElem?_eq_getElem h1]; rfl
   refine (x9 _ _ (fun (i : Nat) => .int ((1 : Nat) + i)) (fun i => (t[i + 1]?.getD (0, none)).1 == n) (fun i => .int ((1 : Nat) + (i : Nat))) (List.range (t.length - 1)) ?_ ?_ (fun zz zz zz => rfl)).trans ?_
   ·intro i hi
    have h0 := hidx i (List.mem_range.mp hi)
    show tsL cf 40 ([(".0", .local), ("k", .local), ("n", .cell), ("tree", .cell)] : Kn) ([("k", .int ((1 : Nat) + i)), ("tree", xD t), ("n", .int n)] : Rho) _ = _
    exact (zoj (zG (zX rfl (zX rfl (zB rfl rfl rfl) (zB rfl rfl rfl) h0) zN rfl) (zB rfl rfl rfl) rfl))
   ·intro i hi _
    show evD cf 40 ([(".0", .local), ("k", .local), ("n", .cell), ("tree", .cell)] : Kn) ([("k", .int ((1 : Nat) + i)), ("tree", xD t), ("n", .int n)] : Rho) _ = _
    exact (zB rfl rfl rfl)
   ·unfold ze
    rw [List.map_map]
    refine congrArg some (List.map_congr_left fun i zz => ?_)
    show D.int ((1 : Nat) + (i : Int)) = D.int ((i + 1 : Nat) : Int)
    rw [Int.natCast_add, Int.add_comm]
 show exL cf [] 43 (zE 19) ([("tree", xD t), ("n", .int n)] : Rho) (zM 19) = _
 refine zj (M := []) (zD (zce rfl hc rfl) yR) (NA.of rfl) ?_
 rfl
end
end
section
noncomputable abbrev Sp := Option Str × Option Str
noncomputable def yK : Option Str → D | none => .none | some s => .str s
noncomputable def zY (s : Sp) : D := .tup [yK s.1, yK s.2]
noncomputable def zca (name : Nm) (d : Int) : Sp := match name with
 | none => (none, none)
 | some (a, b) => if d.fmod 3 = 0 then (none, none) else if d.fmod 3 = 1 then (some a, none) else (none, some b)
noncomputable def yZ : List Nm → Int → List Sp
 | [], _ => []
 | x :: r, d => zca x d :: yZ r (d.fdiv 3)
noncomputable def zbv (w : D) (d : Int) (ss : List Sp) (x : D) : Rho := [("way", w), ("digits", .int d), ("steps", .own (ss.map zY)), ("name", x)]
theorem zfU (x : Option Str) : (yK x).pure = true := by cases x <;> rfl
theorem zbI (x : Option Str) (z : Str) : yK x ≠ .app z := by cases x <;> simp [yK]
theorem zjF {w : List D} {d : Int} {ss : List Sp} {x : D} (hx : ∀ z, x ≠ .app z) : NA [] (zbv (.lst w) d ss x) := by
 exact NA.cons (fun zz e => D.noConfusion e) (NA.cons (fun zz e => D.noConfusion e) (NA.cons (fun zz e => D.noConfusion e) (NA.cons (fun z e => absurd e (hx z)) NA.nil)))
section
variable (cf : Cf)
theorem zhC (w : List D) (d : Int) (ss : List Sp) (x : Nm) (hs : ss.length ≤ 1000) :
  exL cf ["steps"] 40 (zE 21) (zbv (.lst w) d ss (nmD x)) (zm (zM 21) 1) = some (.next (zbv (.lst w) (d.fdiv 3) (ss ++ [zca x d]) (nmD x))) := by
 have m1 : yu .Mod (.int d) (.int 3) = some (.int (d.fmod 3)) := zfA _ _ (by decide)
 have m2 : yu .FloorDiv (.int d) (.int 3) = some (.int (d.fdiv 3)) := ziG _ _ (by decide) (by decide)
 have hbl : Nat.ble (ss.map zY).length zK = true := Nat.ble_eq_true_of_le (by rw [List.length_map]; exact Nat.le_trans hs (by decide))
 have fin : ∀ y, zY (zca x d) = y → (.next (xi (xi (zbv (.lst w) d ss (nmD x)) "steps" (.own (ss.map zY ++ [y]))) "digits" (.int (d.fdiv 3))) : Out) = .next (zbv (.lst w) (d.fdiv 3) (ss ++ [zca x d]) (nmD x)) := fun y e => by
  subst e
  unfold zbv
  rw [List.map_append]; rfl
 cases x with
 | none =>
  have c1 : yB .Is (nmD none) .none = some true := rfl
  have hv : zkk (nmD none) = some (nmD none) := rfl
  refine zj (M := []) (zD (xw (zaw (o_T (zG (zB rfl hv rfl) xj c1))) (zD (zab rfl rfl (zaE (zJ xj (zJ xj zS)) rfl) rfl hbl) (zC zO))) (zC (zD (zg rfl rfl rfl (z0 (zB rfl rfl rfl) zN m2) rfl) (zC zO)))) (zjF (zbN none)) ?_
  exact fin _ rfl
 | some p =>
  obtain ⟨a, b⟩ := p
  have so : zca (some (a, b)) d = if d.fmod 3 = 0 then (none, none) else if d.fmod 3 = 1 then (some a, none) else (none, some b) := rfl
  have c1 : yB .Is (nmD (some (a, b))) .none = some false := rfl
  have hv : zkk (nmD (some (a, b))) = some (nmD (some (a, b))) := rfl
  have i0 : x7 (nmD (some (a, b))) (.int 0) = some (.str a) := rfl
  have i1 : x7 (nmD (some (a, b))) (.int 1) = some (.str b) := rfl
  by_cases h0 : d.fmod 3 = 0
  ·have e0 : (d.fmod 3 == 0) = true := beq_iff_eq.mpr h0
   refine zj (M := []) (zD (xw (zaw (o_F (zG (zB rfl hv rfl) xj c1) (o_T (zG (z0 (zB rfl rfl rfl) zN m1) zN (congrArg some e0))))) (zD (zab rfl rfl (zaE (zJ xj (zJ xj zS)) rfl) rfl hbl) (zC zO))) (zC (zD (zg rfl rfl rfl (z0 (zB rfl rfl rfl) zN m2) rfl) (zC zO)))) (zjF (zbN (some (a, b)))) ?_
   exact fin _ (by rw [so, if_pos h0]; rfl)
  ·have e0 : (d.fmod 3 == 0) = false := beq_eq_false_iff_ne.mpr h0
   by_cases h1 : d.fmod 3 = 1
   ·have e1 : (d.fmod 3 == 1) = true := beq_iff_eq.mpr h1
    refine zj (M := []) (zD (zc (zaw (o_F (zG (zB rfl hv rfl) xj c1) (o_F (zG (z0 (zB rfl rfl rfl) zN m1) zN (congrArg some e0)) zbx))) (zD (xw (zG (z0 (zB rfl rfl rfl) zN m1) zN (congrArg some e1)) (zD (zab rfl rfl (zaE (zJ (zX rfl (zB rfl hv rfl) zN i0) (zJ xj zS)) rfl) rfl hbl) (zC zO))) (zC zO))) (zC (zD (zg rfl rfl rfl (z0 (zB rfl rfl rfl) zN m2) rfl) (zC zO)))) (zjF (zbN (some (a, b)))) ?_
    exact fin _ (by rw [so, if_neg h0, if_pos h1]; rfl)
   ·have e1 : (d.fmod 3 == 1) = false := beq_eq_false_iff_ne.mpr h1
    refine zj (M := []) (zD (zc (zaw (o_F (zG (zB rfl hv rfl) xj c1) (o_F (zG (z0 (zB rfl rfl rfl) zN m1) zN (congrArg some e0)) zbx))) (zD (zc (zG (z0 (zB rfl rfl rfl) zN m1) zN (congrArg some e1)) (zD (zab rfl rfl (zaE (zJ xj (zJ (zX rfl (zB rfl hv rfl) zN i1) zS)) rfl) rfl hbl) (zC zO))) (zC zO))) (zC (zD (zg rfl rfl rfl (z0 (zB rfl rfl rfl) zN m2) rfl) (zC zO)))) (zjF (zbN (some (a, b)))) ?_
    exact fin _ (by rw [so, if_neg h0, if_neg h1]; rfl)
theorem zey (w : List D) : ∀ (l : List Nm) (d : Int) (ss : List Sp) (x : D), (∀ z, x ≠ .app z) → ss.length + l.length ≤ 1000 →
  ∃ d' x', (∀ z, x' ≠ .app z) ∧ zez cf 40 (zE 21) (zbv (.lst w) d ss x) ["steps"] "name" (zm (zM 21) 1) (l.map nmD) = some (.next (zbv (.lst w) d' (ss ++ yZ l d) x'))
 | [], d, ss, x, hx, _ => ⟨d, x, hx, by rw [yZ, List.append_nil]; rfl⟩
 | y :: l, d, ss, x, hx, hl => by
  obtain ⟨d', x', hx', h⟩ := zey w l (d.fdiv 3) (ss ++ [zca y d]) (nmD y) (zbN _) (by simp at *; lia)
  refine ⟨d', x', hx', ?_⟩
  have hs : stD (zbv (.lst w) d ss x) "name" (nmD y) = zbv (.lst w) d ss (nmD y) := zeU (zjF hx) rfl
  have hb := zhC cf w d ss y (by simp at hl; lia)
  unfold zez at h ⊢
  rw [List.map_cons, zb0, zeI]
  dsimp only
  rw [hs, hb]
  rw [yZ]
  rw [List.append_assoc] at h
  exact h
theorem zj2 (l : List Nm) (d : Int) (h : l.length ≤ 900) : exL cf ["steps"] 43 (zE 21) (yF (zE 21) ["way", "digits"] [.lst (l.map nmD), .int d]) (zM 21) = some (.ret (.lst ((yZ l d).map zY))) := by
 obtain ⟨d', x', hx', h2⟩ := zey cf (l.map nmD) l d [] .unb (by simp) (by simp; lia)
 have hi : zu (.lst (l.map nmD)) = some (l.map nmD) := xH (by rw [List.length_map]; exact Nat.le_trans h (by decide))
 have hn : NAo [] (.next (zbv (.lst (l.map nmD)) d' ([] ++ yZ l d) x')) := zjF hx'
 show exL cf ["steps"] 43 (zE 21) ([("way", .lst (l.map nmD)), ("digits", .int d), ("steps", .unb), ("name", .unb)] : Rho) (zM 21) = _
 refine zj (M := []) (zD (zdj rfl rfl zS rfl (zaY rfl)) (zC (zD (zfk rfl (zB rfl rfl rfl) hi h2 hn) (zC (zD (ziy rfl rfl) yR))))) (NA.of rfl) ?_
 rfl
end
end
section
noncomputable def qch (c : Nat) : Str := if Txt.contains ("*?[" : Str) ⟨#[c]⟩ = true then ("[" : Str) ++ ⟨#[c]⟩ ++ ("]" : Str) else ⟨#[c]⟩
noncomputable def y8 (s : Str) : Str := Txt.join ("" : Str) (s.cps.toList.map qch)
noncomputable def xh (q : Bool) : Option Str → Str
 | none => "*"
 | some s => if q then y8 s else s
noncomputable def xm (q : Bool) (s : Sp) : Str := ((("{" : Str) ++ xh q s.1) ++ ("}" : Str)) ++ xh q s.2
noncomputable def yz (st : D) (q : Bool) (ps : List Str) (x : D) : Rho := [("step", st), ("quoted", .bool q), ("parts", .own (ps.map .str)), ("part", x)]
theorem zmG (c : Nat) : (qch c).length ≤ 3 := by
 unfold qch
 split
 ·rw [strLen_append, strLen_append]; exact Nat.le_refl _
 ·exact (by decide : 1 ≤ 3)
theorem zhq : ∀ (l : List Nat), z3 (l.map qch) ≤ 3 * l.length
 | [] => Nat.le_refl _
 | c :: l => by
  rw [List.map_cons, zba, List.length_cons]
  have := zmG c
  have := zhq l
  lia
theorem zdb : ∀ (xs : List Str), zfH (xs.map .str) = some xs
 | [] => rfl
 | x :: xs => by rw [List.map_cons, zfH, zdb xs]
theorem ziN (x : Str) (xs : List Str) (h : z3 xs + xs.length * x.length ≤ zK) : za3 x (.lst (xs.map .str)) = some (.str (Txt.join x xs)) := by
 unfold za3
 simp only [D.list?, zdb]
 rw [Nat.ble_eq_true_of_le h]
theorem zg6 (x : Str) (xs : List Str) (h : z3 xs + xs.length * x.length ≤ zK) : za3 x (.own (xs.map .str)) = some (.str (Txt.join x xs)) := by
 unfold za3
 simp only [D.list?, zdb]
 rw [Nat.ble_eq_true_of_le h]
theorem zjM (x : Str) (d : D) : zbt "join" x [d] = za3 x d := by
 unfold zbt; simp
theorem zd0 (x y : Str) (h : x.length + y.length ≤ zK) : yu .Add (.str x) (.str y) = some (.str (x ++ y)) := by
 exact zhf h
theorem zjG (s : Str) (h : s.cps.size ≤ zK) : zu (.str s) = some (s.cps.toList.map fun c => .str ⟨#[c]⟩) := by
 unfold zu; simp [Nat.ble_eq_true_of_le h]
theorem zjf {st : D} {q : Bool} {ps : List Str} {x : D} (hst : ∀ z, st ≠ .app z) (hx : ∀ z, x ≠ .app z) : NA [] (yz st q ps x) := by
 exact NA.cons (fun z e => absurd e (hst z)) (NA.cons (fun zz e => D.noConfusion e) (NA.cons (fun zz e => D.noConfusion e) (NA.cons (fun z e => absurd e (hx z)) NA.nil)))
section
variable (cf : Cf)
theorem zjE {n : Nat} (st : D) (q : Bool) (ps : List Str) (s : Str) (hs : s.length ≤ 1000) {elt : Expr} {px p : Pos} {csc : Scope} {iter : Expr} (hi : evD cf n (zE 22) (yz st q ps (.str s)) iter = some (.str s))
  (hg : (z8 csc.names (zE 22) (yz st q ps (.str s)) "sign" && (csc.kind == .function)) = true)
  (he : ∀ c : Nat, ∀ b, yB .In (.str ⟨#[c]⟩) (.str "*?[") = some b → evD cf n (yD csc.names (zE 22)) (("sign", .str ⟨#[c]⟩) :: (yz st q ps (.str s)).filter fun q => xE csc.names q.1) elt = some (.str (if b = true then ("[" : Str) ++ ⟨#[c]⟩ ++ ("]" : Str) else ⟨#[c]⟩))) :
  evD cf (n + 1) (zE 22) (yz st q ps (.str s)) (.ListComp elt [⟨.Name "sign" px, iter, [], 0⟩] csc p) = some (.lst ((s.cps.toList.map qch).map .str)) := by
 refine za5 cf (ds := s.cps.toList.map fun c => .str ⟨#[c]⟩) (d := .str s) hg hi (zjG s (Nat.le_trans hs (by decide))) ?_
 rw [List.map_map]
 refine (x9 _ _ (fun (c : Nat) => .str ⟨#[c]⟩) (fun zz => true) (fun c => .str (qch c)) s.cps.toList (fun c zz => by cases n with | zero => exact zA hi | succ n => rfl) (fun c zz zz => ?_) (fun zz zz zz => rfl)).trans ?_
 ·exact he c _ rfl
 ·rw [List.filter_eq_self.mpr (fun zz zz => rfl)]; rfl
theorem zfw (st : D) (q : Bool) (ps : List Str) (x : Option Str) (hst : ∀ z, st ≠ .app z) (hp : ps.length ≤ 10) (hx : ∀ s, x = some s → s.length ≤ 1000) :
  exL cf ["parts"] 40 (zE 22) (yz st q ps (yK x)) (zm (zM 22) 1) = some (.next (yz st q (ps ++ [xh q x]) (yK x))) := by
 have hbl : Nat.ble (ps.map D.str).length zK = true := Nat.ble_eq_true_of_le (by rw [List.length_map]; exact Nat.le_trans hp (by decide))
 have fin : ∀ y, xh q x = y → (.next (xi (yz st q ps (yK x)) "parts" (.own (ps.map D.str ++ [.str y]))) : Out) = .next (yz st q (ps ++ [xh q x]) (yK x)) := fun y e => by
  subst e
  unfold yz
  rw [List.map_append]; rfl
 cases x with
 | none =>
  have c1 : yB .Is (yK none) .none = some true := rfl
  have hv : zkk (yK none) = some (yK none) := rfl
  refine zj (M := []) (zD (xw (zG (zB rfl hv rfl) xj c1) (zD (zab rfl rfl zP rfl hbl) (zC zO))) (zC zO)) (zjf hst (zbI none)) ?_
  exact fin _ rfl
 | some s =>
  have c1 : yB .Is (yK (some s)) .none = some false := rfl
  have hv : zkk (yK (some s)) = some (yK (some s)) := rfl
  have hs := hx s rfl
  cases q with
  | false =>
   have t1 : zan (.bool false) = some false := rfl
   refine zj (M := []) (zD (zc (zG (zB rfl hv rfl) xj c1) (zD (zc (zbK (zB rfl rfl rfl) t1) (zD (zab rfl rfl (zB rfl hv rfl) rfl hbl) (zC zO))) (zC zO))) (zC zO)) (zjf hst (zbI (some s))) ?_
   exact fin _ rfl
  | true =>
   have t1 : zan (.bool true) = some true := rfl
   have hj : za3 "" (.lst ((s.cps.toList.map qch).map .str)) = some (.str (y8 s)) := ziN _ _ (by
    have := zhq s.cps.toList
    have e : s.cps.toList.length = s.length := rfl
    have : zK = 1000000 := rfl
    show _ + _ * 0 ≤ _
    lia)
   have hm : zbt "join" "" [.lst ((s.cps.toList.map qch).map .str)] = some (.str (y8 s)) := hj
   refine zj (M := []) (zD (zc (zG (zB rfl hv rfl) xj c1) (zD (xw (zbK (zB rfl rfl rfl) t1) (zD (zab rfl rfl (zb5 rfl zP (zJ (zjE cf st Bool.true ps s hs (zB rfl hv rfl) rfl ?d1) zS) rfl hm) rfl hbl) (zC zO))) (zC zO))) (zC zO)) (zjf hst (zbI (some s))) ?_
   case d1 =>
    intro c b ci
    have a1 : yu .Add (.str "[") (.str ⟨#[c]⟩) = some (.str (("[" : Str) ++ ⟨#[c]⟩)) := zd0 _ _ (by show 1 + 1 ≤ zK; decide)
    have a2 : yu .Add (.str (("[" : Str) ++ ⟨#[c]⟩)) (.str "]") = some (.str (("[" : Str) ++ ⟨#[c]⟩ ++ ("]" : Str))) := zd0 _ _ (by rw [strLen_append]; show 1 + 1 + 1 ≤ zK; decide)
    cases b with
    | true => exact (znt (zG (zB rfl rfl rfl) zP ci) (z0 (z0 zP (zB rfl rfl rfl) a1) zP a2))
    | false => exact (znS (zG (zB rfl rfl rfl) zP ci) (zB rfl rfl rfl))
   exact fin _ rfl
theorem zgT (q : Bool) (x : Option Str) (hx : ∀ s, x = some s → s.length ≤ 1000) (hj : ∀ s, x = some s → (y8 s).length ≤ 3000) : (xh q x).length ≤ 3000 := by
 cases x with
 | none => exact (by decide : 1 ≤ 3000)
 | some s =>
  cases q
  ·exact Nat.le_trans (hx s rfl) (by decide)
  ·exact hj s rfl
theorem zkP (q : Bool) (s : Sp) (h1 : ∀ y, s.1 = some y → y.length ≤ 1000 ∧ (y8 y).length ≤ 3000) (h2 : ∀ y, s.2 = some y → y.length ≤ 1000 ∧ (y8 y).length ≤ 3000) :
  exL cf ["parts"] 43 (zE 22) (yF (zE 22) ["step", "quoted"] [zY s, .bool q]) (zM 22) = some (.ret (.str (xm q s))) := by
 have hst : ∀ z, zY s ≠ .app z := by intro z; simp [zY]
 have b1 := zfw cf (zY s) q [] s.1 hst (by decide) (fun y hy => (h1 y hy).1)
 have b2 := zfw cf (zY s) q [xh q s.1] s.2 hst (by show 1 ≤ 10; decide) (fun y hy => (h2 y hy).1)
 have hl : zez cf 40 (zE 22) (yz (zY s) q [] .unb) ["parts"] "part" (zm (zM 22) 1) [yK s.1, yK s.2] = some (.next (yz (zY s) q [xh q s.1, xh q s.2] (yK s.2))) := by
  have s1 : stD (yz (zY s) q [] .unb) "part" (yK s.1) = yz (zY s) q [] (yK s.1) := zeU (zjf hst (fun zz e => D.noConfusion e)) rfl
  have s2 : stD (yz (zY s) q [xh q s.1] (yK s.1)) "part" (yK s.2) = yz (zY s) q [xh q s.1] (yK s.2) := zeU (zjf hst (zbI s.1)) rfl
  unfold zez
  rw [zb0, zfU]
  dsimp only
  rw [s1, b1]
  dsimp only [List.nil_append]
  rw [zb0, zfU]
  dsimp only
  rw [s2, b2]
  rfl
 have hi : zu (zY s) = some [yK s.1, yK s.2] := rfl
 have l1 := zgT q s.1 (fun y hy => (h1 y hy).1) (fun y hy => (h1 y hy).2)
 have l2 := zgT q s.2 (fun y hy => (h2 y hy).1) (fun y hy => (h2 y hy).2)
 have bd : zK = 1000000 := rfl
 have a1 : yu .Add (.str "{") (.str (xh q s.1)) = some (.str (("{" : Str) ++ xh q s.1)) := zd0 _ _ (by show 1 + _ ≤ _; lia)
 have a2 : yu .Add (.str (("{" : Str) ++ xh q s.1)) (.str "}") = some (.str (("{" : Str) ++ xh q s.1 ++ ("}" : Str))) := zd0 _ _ (by rw [strLen_append]; show 1 + _ + 1 ≤ _; lia)
 have a3 : yu .Add (.str (("{" : Str) ++ xh q s.1 ++ ("}" : Str))) (.str (xh q s.2)) = some (.str (xm q s)) := zd0 _ _ (by rw [strLen_append, strLen_append]; show 1 + _ + 1 + _ ≤ _; lia)
 have hn : NAo [] (.next (yz (zY s) q [xh q s.1, xh q s.2] (yK s.2))) := zjf hst (zbI s.2)
 show exL cf ["parts"] 43 (zE 22) ([("step", zY s), ("quoted", .bool q), ("parts", .unb), ("part", .unb)] : Rho) (zM 22) = _
 refine zj (M := []) (zD (zdj rfl rfl zS rfl (zaY rfl)) (zC (zD (zfk rfl (zB rfl rfl rfl) hi hl hn) (zC (zD (zce rfl (z0 (z0 (z0 zP (zX rfl (zB rfl rfl rfl) zN rfl) a1) zP a2) (zX rfl (zB rfl rfl rfl) zN rfl) a3) rfl) yR))))) (NA.of rfl) ?_
 rfl
end
end
section
noncomputable def zaj (text : Str) : List Str → Int → Option Int
 | [], i => some i
 | p :: r, i => if Txt.find3 text p i < 0 then none else zaj text r (Txt.find3 text p i + p.length)
noncomputable def zcn (ps : List Str) : List Str := z6 ps (some 1) (some (-1))
noncomputable def zaa (ps : List Str) (text : Str) : Bool :=
 if Txt.slice text none (some ((ps[0]?.getD Str.empty).length : Int)) == (ps[0]?.getD Str.empty) then
  (match zaj text (zcn ps) (ps[0]?.getD Str.empty).length with
  | none => false
  | some i => decide ((text.length : Int) - (ps.getLast?.getD Str.empty).length ≥ i) && (Txt.slice text (some ((text.length : Int) - (ps.getLast?.getD Str.empty).length)) none == ps.getLast?.getD Str.empty))
 else false
noncomputable def zcH (ps : List D) (text : Str) (i piece found last : D) : Rho := [("pieces", .lst ps), ("text", .str text), ("at", i), ("piece", piece), ("found", found), ("last", last)]
theorem zaz (x : Str) (h : x.length ≤ zK) : zbY (.str x) = some (.int x.length) := by unfold zbY; simp [Nat.ble_eq_true_of_le h]
theorem zda (x y : Str) (i : Int) : zbt "find" x [.str y, .int i] = some (.int (Txt.find3 x y i)) := by
 unfold zbt
 have h1 : ¬ ((("find" : Str) == ("join" : Str)) = true) := by decide
 rw [if_neg h1, if_pos (by decide)]; rfl
theorem znl {ps : List D} {text : Str} {i piece found last : D} (hi : ∀ z, i ≠ .app z) (hp : ∀ z, piece ≠ .app z) (hf : ∀ z, found ≠ .app z) (hl : ∀ z, last ≠ .app z) : NA [] (zcH ps text i piece found last) := by
 exact NA.cons (fun zz e => D.noConfusion e) (NA.cons (fun zz e => D.noConfusion e) (NA.cons (fun z e => absurd e (hi z)) (NA.cons (fun z e => absurd e (hp z)) (NA.cons (fun z e => absurd e (hf z)) (NA.cons (fun z e => absurd e (hl z)) NA.nil)))))
theorem nI {i : Int} (z : Str) : D.int i ≠ .app z := fun e => D.noConfusion e
theorem nS {x : Str} (z : Str) : D.str x ≠ .app z := fun e => D.noConfusion e
theorem nU (z : Str) : D.unb ≠ .app z := fun e => D.noConfusion e
section
variable (cf : Cf)
theorem zh2 (hlen : cf.Γ "len" = some (.blt "len")) (ps : List D) (text p : Str) (i : Int) (found last : D) (hf : ∀ z, found ≠ .app z) (hl : ∀ z, last ≠ .app z) (hp : p.length ≤ zK) :
  exL cf [] 40 (zE 25) (zcH ps text (.int i) (.str p) found last) (zm (zM 25) 3) =
   some (if Txt.find3 text p i < 0 then .ret (.bool false) else .next (zcH ps text (.int (Txt.find3 text p i + p.length)) (.str p) (.int (Txt.find3 text p i)) last)) := by
 have l1 : yd cf (.blt "len") [.str p] = some (.int p.length) := zaz p hp
 have mf := zda text p i
 by_cases h : Txt.find3 text p i < 0
 ·have hd : decide (Txt.find3 text p i < 0) = true := decide_eq_true h
  rw [if_pos h]
  refine zj (M := []) (zD (zg rfl rfl rfl (zb5 rfl (zB rfl rfl rfl) (zJ (zB rfl rfl rfl) (zJ (zB rfl rfl rfl) zS)) rfl mf) rfl) (zC (zD (xw (zG (zB rfl rfl rfl) zN (congrArg some hd)) (zD (zce rfl zkZ rfl) yR)) yR))) (znl nI nS hf hl) ?_
  rfl
 ·have hd : decide (Txt.find3 text p i < 0) = false := decide_eq_false h
  rw [if_neg h]
  refine zj (M := []) (zD (zg rfl rfl rfl (zb5 rfl (zB rfl rfl rfl) (zJ (zB rfl rfl rfl) (zJ (zB rfl rfl rfl) zS)) rfl mf) rfl) (zC (zD (zc (zG (zB rfl rfl rfl) zN (congrArg some hd)) zO) (zC (zD (zg rfl rfl rfl (z0 (zB rfl rfl rfl) (xy rfl (xM rfl rfl hlen rfl) (zJ (zB rfl rfl rfl) zS) rfl l1) rfl) rfl) (zC zO)))))) (znl nI nS hf hl) ?_
  rfl
theorem zdZ (hlen : cf.Γ "len" = some (.blt "len")) (ps : List D) (text : Str) : ∀ (mids : List Str) (i : Int) (piece found last : D), (∀ z, piece ≠ .app z) → (∀ z, found ≠ .app z) → (∀ z, last ≠ .app z) → (∀ p ∈ mids, p.length ≤ zK) →
  ∃ piece' found', (∀ z, piece' ≠ .app z) ∧ (∀ z, found' ≠ .app z) ∧ zez cf 40 (zE 25) (zcH ps text (.int i) piece found last) [] "piece" (zm (zM 25) 3) (mids.map .str) =
   some (match zaj text mids i with | none => .ret (.bool false) | some j => .next (zcH ps text (.int j) piece' found' last))
 | [], i, piece, found, last, h1, h2, h3, _ => ⟨piece, found, h1, h2, rfl⟩
 | p :: r, i, piece, found, last, h1, h2, h3, hm => by
  obtain ⟨p', f', g1, g2, h⟩ := zdZ hlen ps text r (Txt.find3 text p i + p.length) (.str p) (.int (Txt.find3 text p i)) last (by simp) (by simp) h3 (fun q hq => hm q (.tail _ hq))
  refine ⟨p', f', g1, g2, ?_⟩
  have hs : stD (zcH ps text (.int i) piece found last) "piece" (.str p) = zcH ps text (.int i) (.str p) found last := zeU (znl nI h1 h2 h3) rfl
  have hb := zh2 cf hlen ps text p i found last h2 h3 (hm p (.head _))
  unfold zez at h ⊢
  rw [List.map_cons, zb0, zo1]
  dsimp only
  rw [hs, hb, zaj]
  by_cases hz : Txt.find3 text p i < 0
  ·rw [if_pos hz, if_pos hz]
  ·rw [if_neg hz, if_neg hz]
   exact h
theorem zd9 {α β : Type} (f : α → β) (l : List α) (lo hi : Option Int) : (z6 l lo hi).map f = z6 (l.map f) lo hi := by
 unfold z6
 rw [List.map_take, List.map_drop, List.length_map]
theorem zhY {α : Type} {l : List α} {lo hi : Option Int} {x : α} (h : x ∈ z6 l lo hi) : x ∈ l := List.mem_of_mem_drop (List.mem_of_mem_take h)
theorem zik {α : Type} (l : List α) (lo hi : Option Int) : (z6 l lo hi).length ≤ l.length := by
 unfold z6
 rw [List.length_take, List.length_drop]
 lia
theorem ze1 (ds : List D) (lo hi : Option Int) (h : ds.length ≤ zK) : xS (.lst ds) lo hi = some (.lst (z6 ds lo hi)) := by unfold xS; simp [Nat.ble_eq_true_of_le h]
theorem zau (x : Str) (lo hi : Option Int) (h : x.length ≤ zK) : xS (.str x) lo hi = some (.str (Txt.slice x lo hi)) := by unfold xS; simp [Nat.ble_eq_true_of_le h]
theorem zgD {ds : List D} (h : 0 < ds.length) (hb : ds.length ≤ zK) : x7 (.lst ds) (.int (-1)) = some (ds[ds.length - 1]'(by lia)) := by
 unfold x7 zaB
 have h1 : decide ((0 : Int) ≤ (-1 : Int)) = false := by decide
 have h2 : decide ((0 : Int) ≤ -1 + (ds.length : Int)) = true := by simp; lia
 have h3 : Nat.ble ds.length zK = true := Nat.ble_eq_true_of_le hb
 have h4 : (-1 + (ds.length : Int)).toNat = ds.length - 1 := by lia
 simp only [h1, h2, h3, h4]
 have : ds.length - 1 < ds.length := by lia
 simp [this]
theorem zj8 (hlen : cf.Γ "len" = some (.blt "len")) (ps : List Str) (text : Str) (h2 : 2 ≤ ps.length) (hn : ps.length ≤ 1000) (hp : ∀ p ∈ ps, p.length ≤ zK) (ht : text.length ≤ zK) :
  exL cf [] 45 (zE 25) (yF (zE 25) ["pieces", "text"] [.lst (ps.map .str), .str text]) (zM 25) = some (.ret (.bool (zaa ps text))) := by
 have bd : zK = 1000000 := rfl
 obtain ⟨p0, ps', rfl⟩ : ∃ p0 ps', ps = p0 :: ps' := by cases ps with | nil => simp at h2 | cons a b => exact ⟨a, b, rfl⟩
 have hp0 := hp p0 (.head _)
 have hpl := hp ((p0 :: ps').getLast (by simp)) (List.getLast_mem _)
 obtain ⟨piece', found', g1, g2, hl⟩ := zdZ cf hlen ((p0 :: ps').map .str) text (zcn (p0 :: ps')) p0.length .unb .unb .unb (by simp) (by simp) (by simp) (fun q hq => hp q (zhY hq))
 have c0 : yB .Is (.lst ((p0 :: ps').map .str)) .none = some false := rfl
 have c1 : (((((p0 :: ps').map D.str).length : Nat) : Int) == 1) = false := by simp at *; intro h; lia
 have i0 : x7 (.lst ((p0 :: ps').map .str)) (.int 0) = some (.str p0) := by
  have := zcD (ds := (p0 :: ps').map D.str) (n := 0) (by simp) (by simp at *; lia)
  exact this
 have l0 := zaz p0 hp0
 have lt := zaz text ht
 have sl := zau text none (some (p0.length : Int)) ht
 have im := zgD (ds := (p0 :: ps').map D.str) (by simp) (by simp at *; lia)
 have hlast : ((p0 :: ps').map D.str)[((p0 :: ps').map D.str).length - 1]'(by simp) = .str ((p0 :: ps').getLast (by simp)) := by
  rw [List.getElem_map, List.getLast_eq_getElem]
  simp
 rw [hlast] at im
 clear hlast
 have ll := zaz _ hpl
 have sm := ze1 ((p0 :: ps').map D.str) (some 1) (some (-1)) (by simp at *; lia)
 have u1 : unD .USub (.int 1) = some (.int (-1)) := rfl
 have hi : zu (.lst (z6 ((p0 :: ps').map D.str) (some 1) (some (-1)))) = some ((zcn (p0 :: ps')).map D.str) := by
  rw [xH (by have := zik ((p0 :: ps').map D.str) (some 1) (some (-1)); simp at *; lia), zcn, zd9]
 have e0 : ((p0 :: ps')[0]?.getD Str.empty) = p0 := rfl
 have e1 : ((p0 :: ps').getLast?.getD Str.empty) = (p0 :: ps').getLast (by simp) := by rw [List.getLast?_eq_some_getLast (by simp)]; rfl
 unfold zaa
 rw [e0, e1]
 generalize (p0 :: ps').getLast (by simp) = pl at *
 have n1 := zcy ((p0 :: ps').map .str) (by simp at *; lia)
 have ht' := ht
 clear h2 hn hp ht hp0 hpl
 generalize (p0 :: ps').map D.str = P at *
 have l1 : yd cf (.blt "len") [.lst P] = some (.int P.length) := n1
 have l0' : yd cf (.blt "len") [.str p0] = some (.int p0.length) := l0
 have lt' : yd cf (.blt "len") [.str text] = some (.int text.length) := lt
 have ll' : yd cf (.blt "len") [.str pl] = some (.int pl.length) := ll
 show exL cf [] 45 (zE 25) (zcH P text .unb .unb .unb .unb) (zM 25) = _
 cases hq : (Txt.slice text none (some (p0.length : Int)) == p0) with
 | false =>
  have cn : (Txt.slice text none (some (p0.length : Int)) != p0) = true := by rw [bne, hq]; rfl
  refine zj (M := []) (zD (zc (zaw (o_F (zG (zB rfl rfl rfl) xj c0) (o_F (zG (xy rfl (xM rfl rfl hlen rfl) (zJ (zB rfl rfl rfl) zS) rfl l1) zN (congrArg some c1)) zbx))) zO) (zC (zD (xw (zG (zaf (zB rfl rfl rfl) zif (xn (xy rfl (xM rfl rfl hlen rfl) (zJ (zX rfl (zB rfl rfl rfl) zN i0) zS) rfl l0')) sl) (zX rfl (zB rfl rfl rfl) zN i0) (congrArg some cn)) (zD (zce rfl zkZ rfl) yR)) yR))) (NA.of rfl) ?_
  rfl
 | true =>
  have cn : (Txt.slice text none (some (p0.length : Int)) != p0) = false := by rw [bne, hq]; rfl
  cases hm : zaj text (zcn (p0 :: ps')) p0.length with
  | none =>
   rw [hm] at hl
   refine zj (M := []) (zD (zc (zaw (o_F (zG (zB rfl rfl rfl) xj c0) (o_F (zG (xy rfl (xM rfl rfl hlen rfl) (zJ (zB rfl rfl rfl) zS) rfl l1) zN (congrArg some c1)) zbx))) zO) (zC (zD (zc (zG (zaf (zB rfl rfl rfl) zif (xn (xy rfl (xM rfl rfl hlen rfl) (zJ (zX rfl (zB rfl rfl rfl) zN i0) zS) rfl l0')) sl) (zX rfl (zB rfl rfl rfl) zN i0) (congrArg some cn)) zO) (zC (zD (zg rfl rfl rfl (xy rfl (xM rfl rfl hlen rfl) (zJ (zX rfl (zB rfl rfl rfl) zN i0) zS) rfl l0') rfl) (zC (zD (zfk rfl (zaf (zB rfl rfl rfl) (xn zN) (xn (zbn zN u1)) sm) hi hl zo0) yR))))))) (NA.of rfl) ?_
   rfl
  | some j =>
   rw [hm] at hl
   have hn : NAo [] (.next (zcH P text (.int j) piece' found' .unb)) := znl nI g1 g2 nU
   have sz := zau text (some ((text.length : Int) - pl.length)) none ht'
   cases hd : decide ((text.length : Int) - pl.length ≥ j) with
   | false =>
    have cd : yB .GtE (.int ((text.length : Int) - pl.length)) (.int j) = some false := congrArg some hd
    refine zj (M := []) (zD (zc (zaw (o_F (zG (zB rfl rfl rfl) xj c0) (o_F (zG (xy rfl (xM rfl rfl hlen rfl) (zJ (zB rfl rfl rfl) zS) rfl l1) zN (congrArg some c1)) zbx))) zO) (zC (zD (zc (zG (zaf (zB rfl rfl rfl) zif (xn (xy rfl (xM rfl rfl hlen rfl) (zJ (zX rfl (zB rfl rfl rfl) zN i0) zS) rfl l0')) sl) (zX rfl (zB rfl rfl rfl) zN i0) (congrArg some cn)) zO) (zC (zD (zg rfl rfl rfl (xy rfl (xM rfl rfl hlen rfl) (zJ (zX rfl (zB rfl rfl rfl) zN i0) zS) rfl l0') rfl) (zC (zD (zfk rfl (zaf (zB rfl rfl rfl) (xn zN) (xn (zbn zN u1)) sm) hi hl hn) (zC (zD (zg rfl rfl rfl (z0 (xy rfl (xM rfl rfl hlen rfl) (zJ (zB rfl rfl rfl) zS) rfl lt') (xy rfl (xM rfl rfl hlen rfl) (zJ (zX rfl (zB rfl rfl rfl) (zbn zN u1) im) zS) rfl ll') rfl) rfl) (zC (zD (zce rfl (zos (zkA (zB rfl rfl rfl) (zB rfl rfl rfl) cd) rfl) rfl) yR))))))))))) (NA.of rfl) ?_
    show Out.ret _ = Out.ret (D.bool (decide ((text.length : Int) - pl.length ≥ j) && _))
    rw [hd]; rfl
   | true =>
    have cd : yB .GtE (.int ((text.length : Int) - pl.length)) (.int j) = some true := congrArg some hd
    refine zj (M := []) (zD (zc (zaw (o_F (zG (zB rfl rfl rfl) xj c0) (o_F (zG (xy rfl (xM rfl rfl hlen rfl) (zJ (zB rfl rfl rfl) zS) rfl l1) zN (congrArg some c1)) zbx))) zO) (zC (zD (zc (zG (zaf (zB rfl rfl rfl) zif (xn (xy rfl (xM rfl rfl hlen rfl) (zJ (zX rfl (zB rfl rfl rfl) zN i0) zS) rfl l0')) sl) (zX rfl (zB rfl rfl rfl) zN i0) (congrArg some cn)) zO) (zC (zD (zg rfl rfl rfl (xy rfl (xM rfl rfl hlen rfl) (zJ (zX rfl (zB rfl rfl rfl) zN i0) zS) rfl l0') rfl) (zC (zD (zfk rfl (zaf (zB rfl rfl rfl) (xn zN) (xn (zbn zN u1)) sm) hi hl hn) (zC (zD (zg rfl rfl rfl (z0 (xy rfl (xM rfl rfl hlen rfl) (zJ (zB rfl rfl rfl) zS) rfl lt') (xy rfl (xM rfl rfl hlen rfl) (zJ (zX rfl (zB rfl rfl rfl) (zbn zN u1) im) zS) rfl ll') rfl) rfl) (zC (zD (zce rfl (zoF (zkA (zB rfl rfl rfl) (zB rfl rfl rfl) cd) rfl (zkA (zaf (zB rfl rfl rfl) (xn (zB rfl rfl rfl)) zif sz) (zX rfl (zB rfl rfl rfl) (zbn zN u1) im) rfl)) rfl) yR))))))))))) (NA.of rfl) ?_
    show Out.ret _ = Out.ret (D.bool (decide ((text.length : Int) - pl.length ≥ j) && _))
    rw [hd]; rfl
end
end
section
open PySem.Builtin PySem.Builtin.Str
noncomputable abbrev st (l : List Nat) : Str := ⟨l.toArray⟩
theorem xI (l : List Nat) : (st l).length = l.length := by show l.toArray.size = _; simp
theorem xU (a b : List Nat) : st a ++ st b = st (a ++ b) := by show (⟨a.toArray ++ b.toArray⟩ : Str) = _; simp
theorem zkl {a b : List Nat} : st a = st b ↔ a = b := by
 constructor
 ·intro h; have : a.toArray = b.toArray := congrArg Str.cps h; simpa using this
 ·rintro rfl; rfl
theorem zbV (s : Str) : st s.cps.toList = s := by cases s; simp [st]
theorem zhZ (a b : List Nat) : (st a == st b) = (a == b) := by
 by_cases h : a = b
 ·subst h; simp
 ·have h' : st a ≠ st b := fun q => h (zkl.mp q)
  rw [beq_eq_false_iff_ne.mpr h', beq_eq_false_iff_ne.mpr h]
theorem zmu (l : List Nat) (k : Nat) (h : k < l.length) : Txt.item (st l) (k : Int) = st [l[k]] := by
 unfold Txt.item Txt.charAt
 rw [xI, StrLaws.seqIndex_nonneg (by lia) (by lia)]
 simp [h]
theorem ziF (n : Nat) (i : Int) : clipAt n i ≤ n := by
 have := clipAt_cast n i
 set_option tactic.hygienic true in by_cases h : i < 0
 ·rw [if_pos h] at this; lia
 ·rw [if_neg h] at this; lia
theorem zlw (lo hi : Option Int) (n : Nat) : strSliceIndices lo hi 1 n = strSliceIndices (some ((lo.elim 0 (clipAt n) : Nat) : Int)) (some ((hi.elim n (clipAt n) : Nat) : Int)) 1 n := by
 have key : ∀ i : Int, max 0 (min (if i < 0 then i + (n : Int) else i) n) = max 0 (min (if ((clipAt n i : Nat) : Int) < 0 then ((clipAt n i : Nat) : Int) + n else ((clipAt n i : Nat) : Int)) n) := by
  set_option tactic.hygienic true in intro i
  have h1 := clipAt_cast n i
  have h2 := ziF n i
  rw [← h1, if_neg (by lia)]
  lia
 have h1 : (1 : Int) > 0 := by decide
 have z : max (0 : Int) (min (if (((0 : Nat) : Int)) < 0 then ((0 : Nat) : Int) + n else ((0 : Nat) : Int)) n) = 0 := by rw [if_neg (by omega)]; lia
 have w : max (0 : Int) (min (if ((n : Int)) < 0 then (n : Int) + n else (n : Int)) n) = n := by rw [if_neg (by lia)]; lia
 set_option tactic.hygienic true in cases lo <;> cases hi <;> dsimp only [Option.elim] <;> simp only [strSliceIndices, h1, if_true]
 ·rw [z, w]
 ·rename_i j; rw [z, ← key j]
 ·rename_i i; rw [w, ← key i]
 ·rename_i i j; rw [← key i, ← key j]
theorem zaX (l : List Nat) (lo hi : Option Int) : Txt.slice (st l) lo hi = st (z6 l lo hi) := by
 have e1 : Txt.slice (st l) lo hi = StrLaws.sliceText (st l) (some ((lo.elim 0 (clipAt l.length) : Nat) : Int)) (some ((hi.elim l.length (clipAt l.length) : Nat) : Int)) := by
  unfold Txt.slice StrLaws.sliceText
  rw [xI, zlw lo hi]
 rw [e1]
 have hb : hi.elim l.length (clipAt l.length) ≤ (st l).length := by rw [xI]; cases hi <;> simp [ziF]
 by_cases hab : lo.elim 0 (clipAt l.length) ≤ hi.elim l.length (clipAt l.length)
 ·rw [StrLaws.sliceText_nat (st l) hab hb]
  show st _ = _
  unfold z6
  simp
 ·have hz : hi.elim l.length (clipAt l.length) - lo.elim 0 (clipAt l.length) = 0 := by omega
  unfold z6
  rw [hz, List.take_zero]
  generalize hi.elim l.length (clipAt l.length) = b at *
  generalize lo.elim 0 (clipAt l.length) = a at *
  unfold StrLaws.sliceText
  have : strSliceIndices (some (a : Int)) (some (b : Int)) 1 (st l).length = [] := by
   have h1 : (1 : Int) > 0 := by decide
   simp only [strSliceIndices, sliceRange, h1, if_true]
   have : ¬ (max 0 (min (if (a : Int) < 0 then (a : Int) + ((st l).length : Int) else (a : Int)) ((st l).length : Int)) < max 0 (min (if (b : Int) < 0 then (b : Int) + ((st l).length : Int) else (b : Int)) ((st l).length : Int))) := by
    rw [if_neg (by lia), if_neg (by lia)]
    omega
   rw [if_neg this]
   rfl
  rw [this]
  split
  ·rename_i h
   have q : 0 = (st l).length := by simpa using h
   have : (st l).length = 0 := q.symm
   rw [xI] at this
   rw [List.length_eq_zero_iff] at this
   subst this; rfl
  ·rfl
theorem zek (l : List Nat) (b : Nat) : z6 l none (some (b : Int)) = l.take b := by
 unfold z6
 simp only [Option.elim, clipAt_nat, List.drop_zero, Nat.sub_zero]
 rcases Nat.le_total b l.length with h | h
 ·rw [Nat.min_eq_left h]
 ·rw [Nat.min_eq_right h, List.take_length, List.take_of_length_le h]
theorem zd1 (l : List Nat) (a : Nat) : z6 l (some (a : Int)) none = l.drop a := by
 unfold z6
 simp only [Option.elim, clipAt_nat]
 rw [List.take_of_length_le (by rw [List.length_drop]; lia)]
 rcases Nat.le_total a l.length with h | h
 ·rw [Nat.min_eq_left h]
 ·rw [Nat.min_eq_right h, List.drop_length, List.drop_of_length_le h]
theorem zj4 (l : List Nat) (a b : Nat) : z6 l (some (a : Int)) (some (b : Int)) = (l.drop a).take (b - a) := by
 unfold z6
 simp only [Option.elim, clipAt_nat]
 rcases Nat.le_total a l.length with h | h
 ·rw [Nat.min_eq_left h]
  rcases Nat.le_total b l.length with h' | h'
  ·rw [Nat.min_eq_left h']
  ·rw [Nat.min_eq_right h', List.take_of_length_le (by rw [List.length_drop]; lia), List.take_of_length_le (by rw [List.length_drop]; lia)]
 ·rw [Nat.min_eq_right h, List.drop_length, List.drop_of_length_le h]; simp
theorem zjq (l : List Nat) (k : Nat) (hk : 1 ≤ k) : z6 l (some (-(k : Int))) none = l.drop (l.length - k) := by
 unfold z6
 simp only [Option.elim, clipAt_neg _ _ hk]
 rw [List.take_of_length_le (by rw [List.length_drop]; lia)]
theorem zcZ (l p : List Nat) (i : Nat) :
  (Txt.find3 (st l) (st p) (i : Int) = -1 ∧ ∀ k, i ≤ k → k + p.length ≤ l.length → (l.drop k).take p.length ≠ p) ∨
  ∃ k : Nat, Txt.find3 (st l) (st p) (i : Int) = (k : Int) ∧ i ≤ k ∧ k + p.length ≤ l.length ∧ (l.drop k).take p.length = p ∧ ∀ j, i ≤ j → j < k → (l.drop j).take p.length ≠ p := by
 have fi : fromIndex (st l).length (i : Int) = i := by unfold fromIndex; rw [if_neg (by lia)]; lia
 have at' : ∀ k, StrLaws.At (st l) (st p) (st l).length k ↔ (k + p.length ≤ l.length ∧ (l.drop k).take p.length = p) := by
  intro k
  unfold StrLaws.At
  rw [StrLaws.subAt_eq, xI, xI]
  simp
 unfold Txt.find3
 rw [fi]
 rcases StrLaws.occ_head_from (st l) (st p) i 1 (Nat.le_refl 1) with ⟨h0, hn⟩ | ⟨k, r, h0, hlo, hk, hn⟩
 ·rw [h0]
  exact .inl ⟨rfl, fun k h1 h2 h3 => hn k h1 ((at' k).mpr ⟨h2, h3⟩)⟩
 ·rw [h0]
  refine zk ((at' k).mp hk) fun k1 k2 => ?_
  refine .inr ⟨k, rfl, hlo, k1, k2, fun j h1 h2 h3 => hn j h1 h2 ((at' j).mpr ⟨by lia, h3⟩)⟩
end
section
open PySem.Builtin PySem.Builtin.Str
noncomputable def lsD (ps : List (List Nat)) : List D := ps.map fun p => .str (st p)
noncomputable def xZ (told : List Nat) (ps : List (List Nat)) (s i : Int) (sign e : D) : Rho := [("told", .str (st told)), ("pieces", .own (lsD ps)), ("state", .int s), ("i", .int i), ("sign", sign), ("end", e)]
theorem zoN (l : List Nat) (k : Nat) (h : k < l.length) (hb : l.length ≤ zK) : x7 (.str (st l)) (.int (k : Int)) = some (.str (st [l[k]])) := by
 unfold x7 zaB
 have h1 : decide ((0 : Int) ≤ (k : Int)) = true := by simp
 have h2 : Nat.blt ((k : Int)).toNat (st l).length = true := by simp [Nat.blt_eq, xI, h]
 have h3 : Nat.ble (st l).length zK = true := Nat.ble_eq_true_of_le (by rw [xI]; exact hb)
 simp only [h1, h2, h3]
 rw [zmu l k h]
inductive It where
 | opn | dot | clo
 | cls (c : Nat)
 | chr (c : Nat)
noncomputable def zeL (c : Nat) : List Nat := if c = 123 ∨ c = 125 then [92, c] else [c]
noncomputable def zid (c : Nat) : List Nat := if c = 91 then [91, 92, 91, 93] else [91, c, 93]
noncomputable def zh : It → List Nat
 | .opn => [40, 63, 62, 46, 42, 63]
 | .dot => [46, 42]
 | .clo => [41]
 | .cls c => zid c
 | .chr c => zeL c
section
variable (cf : Cf)
theorem zbM (ps : List (List Nat)) : (lsD ps).length = ps.length := by simp [lsD]
theorem zbz (ps : List (List Nat)) (z : List Nat) : lsD (ps ++ [z]) = lsD ps ++ [.str (st z)] := by simp [lsD]
theorem zir (ps : List (List Nat)) (z : List Nat) (v : D) :
  decide (0 ≤ (-1 : Int) + ((lsD (ps ++ [z])).length : Int)) = true ∧
  (lsD (ps ++ [z]))[((-1 : Int) + ((lsD (ps ++ [z])).length : Int)).toNat]? = some (.str (st z)) ∧
  (lsD (ps ++ [z])).set ((-1 : Int) + ((lsD (ps ++ [z])).length : Int)).toNat v = lsD ps ++ [v] := by
 have hn : ((-1 : Int) + ((lsD (ps ++ [z])).length : Int)).toNat = (lsD ps).length := by rw [zbM, zbM, List.length_append]; simp; lia
 rw [hn]
 refine ⟨?_, ?_, ?_⟩
 ·rw [zbM, List.length_append]
  simp
  lia
 ·rw [zbz]; simp
 ·rw [zbz]; simp
theorem yQ (T : List Nat) (k c : Nat) (h : T[k]? = some c) (hb : T.length ≤ 100000) : x7 (.str (st T)) (.int (k : Int)) = some (.str (st [c])) := by
 have hk : k < T.length := by
  rcases Nat.lt_or_ge k T.length with q | q
  ·exact q
  ·rw [List.getElem?_eq_none q] at h; exact zA h
 rw [zoN T k hk (by have : zK = 1000000 := rfl; lia)]
 rw [List.getElem?_eq_getElem hk] at h
 rw [Option.some.inj h]
theorem zhx {told : List Nat} {ps : List (List Nat)} {s i : Int} {sign e : D} (hs : ∀ z, sign ≠ .app z) (he : ∀ z, e ≠ .app z) : NA [] (xZ told ps s i sign e) := by
 exact NA.cons (fun zz e => D.noConfusion e) (NA.cons (fun zz e => D.noConfusion e) (NA.cons (fun zz e => D.noConfusion e) (NA.cons (fun zz e => D.noConfusion e) (NA.cons (fun z e => absurd e (hs z)) (NA.cons (fun z q => absurd q (he z)) NA.nil)))))
theorem zcK (ps : List (List Nat)) (z : List Nat) (c : Nat) (hps : ps.length ≤ 1000) (hz : z.length ≤ 10000) :
  Nat.ble (lsD (ps ++ [z])).length zK = true ∧ (decide ((-1 : Int) < 0) && decide (0 ≤ (-1 : Int) + ((lsD (ps ++ [z])).length : Int))) = true ∧ (lsD (ps ++ [z]))[((-1 : Int) + ((lsD (ps ++ [z])).length : Int)).toNat]? = some (.str (st z)) ∧
  Nat.ble ((st z).length + (st [c]).length) zK = true ∧ (lsD (ps ++ [z])).set ((-1 : Int) + ((lsD (ps ++ [z])).length : Int)).toNat (.str (st z ++ st [c])) = lsD (ps ++ [z ++ [c]]) := by
 refine xr (zir ps z (.str (st z ++ st [c]))) fun d1 d2 d3 => ?_
 refine ⟨Nat.ble_eq_true_of_le ?_, (by rw [d1]; rfl), d2, Nat.ble_eq_true_of_le ?_, ?_⟩
 ·rw [zbM, List.length_append]; exact Nat.le_trans (Nat.add_le_add_right hps 1) (by decide)
 ·rw [xI, xI]; exact Nat.le_trans (Nat.add_le_add_right hz 1) (by decide)
 ·rw [d3, xU, zbz]
noncomputable def zop (c : Nat) : Bool := !(st [c] == ("(" : Str)) && (!(st [c] == ("." : Str)) && (!(st [c] == (")" : Str)) && (!(Txt.contains ("().*?+{}|^$" : Str) (st [c])) && (!(st [c] == ("[" : Str)) && !(st [c] == ("\\" : Str))))))
theorem zgo {s : Int} (hs : s = 0 ∨ s = 1 ∨ s = 3) : yB .Eq (.int s) (.int 2) = some false := by rcases hs with rfl | rfl | rfl <;> rfl
theorem zd3 {a b : Bool} (h : (a && b) = true) : a = true := (Bool.and_eq_true_iff.mp h).1
theorem yc {a b : Bool} (h : (a && b) = true) : b = true := (Bool.and_eq_true_iff.mp h).2
theorem zcM {a : Bool} (h : (!a) = true) : a = false := (Bool.not_eq_true' a).mp h
theorem zgH (T : List Nat) (i : Nat) (ps : List (List Nat)) (z : List Nat) (c : Nat) (s : Int) (sign e : D) (hs : s = 0 ∨ s = 1 ∨ s = 3) (hc : c = 47 ∨ c = 97 ∨ c = 98 ∨ c = 117) (hsg : ∀ z, sign ≠ .app z) (he : ∀ z, e ≠ .app z)
  (h0 : T[i]? = some c) (hb : T.length ≤ 100000) (hps : ps.length ≤ 1000) (hz : z.length ≤ 10000) :
  exL cf ["pieces"] 40 (zE 24) (xZ T (ps ++ [z]) s i sign e) (zm (zM 24) 4) = some (.next (xZ T (ps ++ [z ++ [c]]) s ((i + 1 : Nat) : Int) (.str (st [c])) e)) := by
 refine zh3 (zcK ps z c hps hz) fun hbl d1 d2 hbz d3 => ?_
 have i0 := yQ T i c h0 hb
 have s2 := zgo hs
 have pc : zop c = true := by rcases hc with rfl | rfl | rfl | rfl <;> decide +kernel
 have e1 := zcM (zd3 pc)
 have e2 := zcM (zd3 (yc pc))
 have e3 := zcM (zd3 (yc (yc pc)))
 have e4 := zcM (zd3 (yc (yc (yc pc))))
 have e5 := zcM (zd3 (yc (yc (yc (yc pc)))))
 have e6 := zcM (yc (yc (yc (yc (yc pc)))))
 refine zj (M := []) (zD (zg rfl rfl rfl (zX rfl (zB rfl rfl rfl) (zB rfl rfl rfl) i0) rfl) (zC (zD (zc (zw (a_F (zG (zB rfl rfl rfl) zP (congrArg some e1)))) (zD (zc (zw (a_F (zG (zB rfl rfl rfl) zP (congrArg some e2)))) (zD (zc (zw (a_F (zG (zB rfl rfl rfl) zP (congrArg some e3)))) (zD (zc (zaw (o_F (zG (zB rfl rfl rfl) zP (congrArg some e4)) (o_F (zG (zB rfl rfl rfl) zN s2) zbx))) (zD (zc (zG (zB rfl rfl rfl) zP (congrArg some e5)) (zD (zc (zG (zB rfl rfl rfl) zP (congrArg some e6)) zO) (zC (zD (zgv rfl rfl hbl (zbn zN rfl) d1 d2 (zX rfl (zB rfl rfl rfl) (zB rfl rfl rfl) i0) hbz) (zC (zD (zbs rfl rfl rfl zN) (zC zO))))))) (zC zO))) (zC zO))) (zC zO))) (zC zO))) (zC zO)))) (zhx hsg he) ?_
 unfold xZ
 rw [← d3]; rfl
end
end
section
open PySem.Builtin PySem.Builtin.Str
theorem zk5 (T : List Nat) (k c : Nat) (h : T[k]? = some c) : Txt.find3 (st T) (st [c]) (k : Int) = (k : Int) := by
 have hk : k < T.length := by
  rcases Nat.lt_or_ge k T.length with q | q
  ·exact q
  ·rw [List.getElem?_eq_none q] at h; exact zA h
 have he : (T.drop k).take 1 = [c] := by
  rw [List.drop_eq_getElem_cons hk]
  rw [List.getElem?_eq_getElem hk] at h
  simp [Option.some.inj h]
 rcases zcZ T [c] k with ⟨_, hn⟩ | ⟨j, hj, hkj, _, _, hn⟩
 ·exact absurd he (hn k (Nat.le_refl _) (by simp; lia))
 ·rcases Nat.lt_or_ge k j with q | q
  ·exact absurd he (hn k (Nat.le_refl _) q)
  ·rw [hj]; have : j = k := by lia
   rw [this]
theorem zjO (T : List Nat) (k c d : Nat) (h0 : T[k]? = some d) (hd : d ≠ c) (h : T[k + 1]? = some c) : Txt.find3 (st T) (st [c]) (k : Int) = ((k + 1 : Nat) : Int) := by
 have hk : k + 1 < T.length := by
  rcases Nat.lt_or_ge (k + 1) T.length with q | q
  ·exact q
  ·rw [List.getElem?_eq_none q] at h; exact zA h
 have he : (T.drop (k + 1)).take 1 = [c] := by
  rw [List.drop_eq_getElem_cons hk]
  rw [List.getElem?_eq_getElem hk] at h
  simp [Option.some.inj h]
 have he0 : (T.drop k).take 1 ≠ [c] := by
  have hk' : k < T.length := by lia
  rw [List.drop_eq_getElem_cons hk']
  rw [List.getElem?_eq_getElem hk'] at h0
  simp [Option.some.inj h0, hd]
 rcases zcZ T [c] k with ⟨_, hn⟩ | ⟨j, hj, hkj, _, hm, hn⟩
 ·exact absurd he (hn (k + 1) (by lia) (by simp; lia))
 ·have j1 : j ≠ k := fun q => by subst q; exact he0 hm
  rcases Nat.lt_or_ge (k + 1) j with q | q
  ·exact absurd he (hn (k + 1) (by lia) q)
  ·rw [hj]; have : j = k + 1 := by lia
   rw [this]
theorem zaC (T : List Nat) (a b : Nat) (hb : T.length ≤ 100000) : xS (.str (st T)) (some (a : Int)) (some (b : Int)) = some (.str (st ((T.drop a).take (b - a)))) := by
 rw [zau _ _ _ (by rw [xI]; have : zK = 1000000 := rfl; lia), zaX, zj4]
section
variable (cf : Cf)
theorem zgB (T : List Nat) (i : Nat) (ps : List (List Nat)) (z : List Nat) (c : Nat) (s : Int) (sign e : D) (hs : s = 0 ∨ s = 1 ∨ s = 3) (hsg : ∀ z, sign ≠ .app z) (he : ∀ z, e ≠ .app z)
  (h0 : T[i]? = some 92) (h1 : T[i + 1]? = some c) (hb : T.length ≤ 100000) (hps : ps.length ≤ 1000) (hz : z.length ≤ 10000) :
  exL cf ["pieces"] 40 (zE 24) (xZ T (ps ++ [z]) s i sign e) (zm (zM 24) 4) = some (.next (xZ T (ps ++ [z ++ [c]]) s ((i + 2 : Nat) : Int) (.str (st [92])) e)) := by
 refine zh3 (zcK ps z c hps hz) fun hbl d1 d2 hbz d3 => ?_
 have i0 := yQ T i 92 h0 hb
 have i1 : x7 (.str (st T)) (.int ((i : Int) + 1)) = some (.str (st [c])) := yQ T (i + 1) c h1 hb
 have s2 := zgo hs
 have e4 : Txt.contains ("().*?+{}|^$" : Str) (st [92]) = false := by decide +kernel
 refine zj (M := []) (zD (zg rfl rfl rfl (zX rfl (zB rfl rfl rfl) (zB rfl rfl rfl) i0) rfl) (zC (zD (zc (zw (a_F (zG (zB rfl rfl rfl) zP rfl))) (zD (zc (zw (a_F (zG (zB rfl rfl rfl) zP rfl))) (zD (zc (zw (a_F (zG (zB rfl rfl rfl) zP rfl))) (zD (zc (zaw (o_F (zG (zB rfl rfl rfl) zP (congrArg some e4)) (o_F (zG (zB rfl rfl rfl) zN s2) zbx))) (zD (zc (zG (zB rfl rfl rfl) zP rfl) (zD (xw (zG (zB rfl rfl rfl) zP rfl) (zD (zbs rfl rfl rfl zN) (zC zO))) (zC (zD (zgv rfl rfl hbl (zbn zN rfl) d1 d2 (zX rfl (zB rfl rfl rfl) (zB rfl rfl rfl) i1) hbz) (zC (zD (zbs rfl rfl rfl zN) (zC zO))))))) (zC zO))) (zC zO))) (zC zO))) (zC zO))) (zC zO)))) (zhx hsg he) ?_
 unfold xZ
 rw [← d3]; rfl
theorem zgz (T : List Nat) (i : Nat) (ps : List (List Nat)) (z : List Nat) (c : Nat) (s : Int) (sign e : D) (hs : s = 0 ∨ s = 1 ∨ s = 3) (hc : c = 42 ∨ c = 63) (hsg : ∀ z, sign ≠ .app z) (he : ∀ z, e ≠ .app z)
  (h0 : T[i]? = some 91) (h1 : T[i + 1]? = some c) (h2 : T[i + 2]? = some 93) (hb : T.length ≤ 100000) (hps : ps.length ≤ 1000) (hz : z.length ≤ 10000) (hsl : (T.drop (i + 1)).take 1 = [c]) :
  exL cf ["pieces"] 40 (zE 24) (xZ T (ps ++ [z]) s i sign e) (zm (zM 24) 4) = some (.next (xZ T (ps ++ [z ++ [c]]) s ((i + 3 : Nat) : Int) (.str (st [91])) (.int ((i + 2 : Nat) : Int)))) := by
 refine zh3 (zcK ps z c hps hz) fun hbl d1 d2 hbz d3 => ?_
 have i0 := yQ T i 91 h0 hb
 have i1 : x7 (.str (st T)) (.int ((i : Int) + 2 - 1)) = some (.str (st [c])) := by
  have : (i : Int) + 2 - 1 = ((i + 1 : Nat) : Int) := by lia
  rw [this]; exact yQ T (i + 1) c h1 hb
 have ff : Txt.find3 (st T) ("]" : Str) ((i : Int) + 2) = (i : Int) + 2 := zk5 T (i + 2) 93 h2
 have mf : zbt "find" (st T) [.str "]", .int ((i : Int) + 2)] = some (.int ((i : Int) + 2)) := by rw [zda, ff]
 have sl : xS (.str (st T)) (some ((i : Int) + 1)) (some ((i : Int) + 2)) = some (.str (st [c])) := by
  have := zaC T (i + 1) (i + 2) hb
  rw [Nat.add_sub_add_left, hsl] at this
  exact this
 have ni : yB .NotIn (.str (st [c])) (.tup [.str "*", .str "?", .str "\\["]) = some false := by rcases hc with rfl | rfl <;> rfl
 have s2 := zgo hs
 have e4 : Txt.contains ("().*?+{}|^$" : Str) (st [91]) = false := by decide +kernel
 refine zj (M := []) (zD (zg rfl rfl rfl (zX rfl (zB rfl rfl rfl) (zB rfl rfl rfl) i0) rfl) (zC (zD (zc (zw (a_F (zG (zB rfl rfl rfl) zP rfl))) (zD (zc (zw (a_F (zG (zB rfl rfl rfl) zP rfl))) (zD (zc (zw (a_F (zG (zB rfl rfl rfl) zP rfl))) (zD (zc (zaw (o_F (zG (zB rfl rfl rfl) zP (congrArg some e4)) (o_F (zG (zB rfl rfl rfl) zN s2) zbx))) (zD (xw (zG (zB rfl rfl rfl) zP rfl) (zD (zg rfl rfl rfl (zb5 rfl (zB rfl rfl rfl) (zJ zP (zJ (z0 (zB rfl rfl rfl) zN rfl) zS)) rfl mf) rfl) (zC (zD (zc (zG (zaf (zB rfl rfl rfl) (xn (z0 (zB rfl rfl rfl) zN rfl)) (xn (zB rfl rfl rfl)) sl) (zaE (zJ zP (zJ zP (zJ zP zS))) rfl) ni) zO) (zC (zD (zgv rfl rfl hbl (zbn zN rfl) d1 d2 (zX rfl (zB rfl rfl rfl) (z0 (zB rfl rfl rfl) zN rfl) i1) hbz) (zC (zD (zg rfl rfl rfl (z0 (zB rfl rfl rfl) zN rfl) rfl) (zC zO))))))))) (zC zO))) (zC zO))) (zC zO))) (zC zO))) (zC zO)))) (zhx hsg he) ?_
 unfold xZ
 rw [← d3]; rfl
theorem zhd (T : List Nat) (i : Nat) (ps : List (List Nat)) (z : List Nat) (s : Int) (sign e : D) (hs : s = 0 ∨ s = 1 ∨ s = 3) (hsg : ∀ z, sign ≠ .app z) (he : ∀ z, e ≠ .app z)
  (h0 : T[i]? = some 91) (h1 : T[i + 2]? = some 91) (h2 : T[i + 3]? = some 93) (hb : T.length ≤ 100000) (hps : ps.length ≤ 1000) (hz : z.length ≤ 10000) (hsl : (T.drop (i + 1)).take 2 = [92, 91]) :
  exL cf ["pieces"] 40 (zE 24) (xZ T (ps ++ [z]) s i sign e) (zm (zM 24) 4) = some (.next (xZ T (ps ++ [z ++ [91]]) s ((i + 4 : Nat) : Int) (.str (st [91])) (.int ((i + 3 : Nat) : Int)))) := by
 refine zh3 (zcK ps z 91 hps hz) fun hbl d1 d2 hbz d3 => ?_
 have i0 := yQ T i 91 h0 hb
 have i1 : x7 (.str (st T)) (.int (((i + 3 : Nat) : Int) - 1)) = some (.str (st [91])) := by
  have : ((i + 3 : Nat) : Int) - 1 = ((i + 2 : Nat) : Int) := by lia
  rw [this]; exact yQ T (i + 2) 91 h1 hb
 have ff : Txt.find3 (st T) ("]" : Str) ((i : Int) + 2) = ((i + 3 : Nat) : Int) := zjO T (i + 2) 93 91 h1 (by decide) h2
 have mf : zbt "find" (st T) [.str "]", .int ((i : Int) + 2)] = some (.int ((i + 3 : Nat) : Int)) := by rw [zda, ff]
 have sl : xS (.str (st T)) (some ((i : Int) + 1)) (some ((i + 3 : Nat) : Int)) = some (.str (st [92, 91])) := by
  have := zaC T (i + 1) (i + 3) hb
  rw [Nat.add_sub_add_left, hsl] at this
  exact this
 have s2 := zgo hs
 have e4 : Txt.contains ("().*?+{}|^$" : Str) (st [91]) = false := by decide +kernel
 refine zj (M := []) (zD (zg rfl rfl rfl (zX rfl (zB rfl rfl rfl) (zB rfl rfl rfl) i0) rfl) (zC (zD (zc (zw (a_F (zG (zB rfl rfl rfl) zP rfl))) (zD (zc (zw (a_F (zG (zB rfl rfl rfl) zP rfl))) (zD (zc (zw (a_F (zG (zB rfl rfl rfl) zP rfl))) (zD (zc (zaw (o_F (zG (zB rfl rfl rfl) zP (congrArg some e4)) (o_F (zG (zB rfl rfl rfl) zN s2) zbx))) (zD (xw (zG (zB rfl rfl rfl) zP rfl) (zD (zg rfl rfl rfl (zb5 rfl (zB rfl rfl rfl) (zJ zP (zJ (z0 (zB rfl rfl rfl) zN rfl) zS)) rfl mf) rfl) (zC (zD (zc (zG (zaf (zB rfl rfl rfl) (xn (z0 (zB rfl rfl rfl) zN rfl)) (xn (zB rfl rfl rfl)) sl) (zaE (zJ zP (zJ zP (zJ zP zS))) rfl) rfl) zO) (zC (zD (zgv rfl rfl hbl (zbn zN rfl) d1 d2 (zX rfl (zB rfl rfl rfl) (z0 (zB rfl rfl rfl) zN rfl) i1) hbz) (zC (zD (zg rfl rfl rfl (z0 (zB rfl rfl rfl) zN rfl) rfl) (zC zO))))))))) (zC zO))) (zC zO))) (zC zO))) (zC zO))) (zC zO)))) (zhx hsg he) ?_
 unfold xZ
 rw [← d3]; rfl
theorem zhP (T : List Nat) (i : Nat) (ps : List (List Nat)) (s : Int) (sign e : D) (hs : s = 0 ∨ s = 2) (hsg : ∀ z, sign ≠ .app z) (he : ∀ z, e ≠ .app z)
  (h0 : T[i]? = some 40) (hb : T.length ≤ 100000) (hps : ps.length ≤ 1000) (hsl : (T.drop i).take 6 = [40, 63, 62, 46, 42, 63]) :
  exL cf ["pieces"] 40 (zE 24) (xZ T ps s i sign e) (zm (zM 24) 4) = some (.next (xZ T (ps ++ [[]]) 1 ((i + 6 : Nat) : Int) (.str (st [40])) e)) := by
 have hbl : Nat.ble (lsD ps).length zK = true := Nat.ble_eq_true_of_le (by rw [zbM]; exact Nat.le_trans hps (by decide))
 have i0 := yQ T i 40 h0 hb
 have sl : xS (.str (st T)) (some (i : Int)) (some ((i : Int) + 6)) = some (.str (st [40, 63, 62, 46, 42, 63])) := by
  have := zaC T i (i + 6) hb
  rw [Nat.add_sub_cancel_left, hsl] at this
  exact this
 have ci : yB .In (.int s) (.tup [.int 0, .int 2]) = some true := by rcases hs with rfl | rfl <;> rfl
 refine zj (M := []) (zD (zg rfl rfl rfl (zX rfl (zB rfl rfl rfl) (zB rfl rfl rfl) i0) rfl) (zC (zD (xw (zw (a_T (zG (zB rfl rfl rfl) zP rfl) (a_T (zG (zaf (zB rfl rfl rfl) (xn (zB rfl rfl rfl)) (xn (z0 (zB rfl rfl rfl) zN rfl)) sl) zP rfl) (a_T (zG (zB rfl rfl rfl) (zaE (zJ zN (zJ zN zS)) rfl) ci) zdA)))) (zD (zab rfl rfl zP rfl hbl) (zC (zD (zg rfl rfl rfl zN rfl) (zC (zD (zbs rfl rfl rfl zN) (zC zO))))))) (zC zO)))) (zhx hsg he) ?_
 unfold xZ
 rw [zbz]; rfl
theorem ziq (T : List Nat) (i : Nat) (ps : List (List Nat)) (s : Int) (sign e : D) (hs : s = 0 ∨ s = 2) (hsg : ∀ z, sign ≠ .app z) (he : ∀ z, e ≠ .app z)
  (h0 : T[i]? = some 46) (hb : T.length ≤ 100000) (hps : ps.length ≤ 1000) (hsl : (T.drop i).take 2 = [46, 42]) :
  exL cf ["pieces"] 40 (zE 24) (xZ T ps s i sign e) (zm (zM 24) 4) = some (.next (xZ T (ps ++ [[]]) 3 ((i + 2 : Nat) : Int) (.str (st [46])) e)) := by
 have hbl : Nat.ble (lsD ps).length zK = true := Nat.ble_eq_true_of_le (by rw [zbM]; exact Nat.le_trans hps (by decide))
 have i0 := yQ T i 46 h0 hb
 have sl : xS (.str (st T)) (some (i : Int)) (some ((i : Int) + 2)) = some (.str (st [46, 42])) := by
  have := zaC T i (i + 2) hb
  rw [Nat.add_sub_cancel_left, hsl] at this
  exact this
 have ci : yB .In (.int s) (.tup [.int 0, .int 2]) = some true := by rcases hs with rfl | rfl <;> rfl
 refine zj (M := []) (zD (zg rfl rfl rfl (zX rfl (zB rfl rfl rfl) (zB rfl rfl rfl) i0) rfl) (zC (zD (zc (zw (a_F (zG (zB rfl rfl rfl) zP rfl))) (zD (xw (zw (a_T (zG (zB rfl rfl rfl) zP rfl) (a_T (zG (zaf (zB rfl rfl rfl) (xn (zB rfl rfl rfl)) (xn (z0 (zB rfl rfl rfl) zN rfl)) sl) zP rfl) (a_T (zG (zB rfl rfl rfl) (zaE (zJ zN (zJ zN zS)) rfl) ci) zdA)))) (zD (zab rfl rfl zP rfl hbl) (zC (zD (zg rfl rfl rfl zN rfl) (zC (zD (zbs rfl rfl rfl zN) (zC zO))))))) (zC zO))) (zC zO)))) (zhx hsg he) ?_
 unfold xZ
 rw [zbz]; rfl
theorem zhM (T : List Nat) (i : Nat) (ps : List (List Nat)) (sign e : D) (hsg : ∀ z, sign ≠ .app z) (he : ∀ z, e ≠ .app z)
  (h0 : T[i]? = some 41) (hb : T.length ≤ 100000) :
  exL cf ["pieces"] 40 (zE 24) (xZ T ps 1 i sign e) (zm (zM 24) 4) = some (.next (xZ T ps 2 ((i + 1 : Nat) : Int) (.str (st [41])) e)) := by
 have i0 := yQ T i 41 h0 hb
 refine zj (M := []) (zD (zg rfl rfl rfl (zX rfl (zB rfl rfl rfl) (zB rfl rfl rfl) i0) rfl) (zC (zD (zc (zw (a_F (zG (zB rfl rfl rfl) zP rfl))) (zD (zc (zw (a_F (zG (zB rfl rfl rfl) zP rfl))) (zD (xw (zw (a_T (zG (zB rfl rfl rfl) zP rfl) (a_T (zG (zB rfl rfl rfl) zN rfl) zdA))) (zD (zg rfl rfl rfl zN rfl) (zC (zD (zbs rfl rfl rfl zN) (zC zO))))) (zC zO))) (zC zO))) (zC zO)))) (zhx hsg he) ?_
 rfl
end
end
section
open PySem.Builtin PySem.Builtin.Str
noncomputable def zag (ps : List (List Nat)) (s : Nat) : It → Option (List (List Nat) × Nat)
 | .opn => if s = 0 ∨ s = 2 then some (ps ++ [[]], 1) else none
 | .dot => if s = 0 ∨ s = 2 then some (ps ++ [[]], 3) else none
 | .clo => if s = 1 then some (ps, 2) else none
 | .cls c => if (s = 0 ∨ s = 1 ∨ s = 3) ∧ (c = 42 ∨ c = 63 ∨ c = 91) then (match ps.getLast? with | some z => some (ps.dropLast ++ [z ++ [c]], s) | none => none) else none
 | .chr c => if (s = 0 ∨ s = 1 ∨ s = 3) ∧ (c = 47 ∨ c = 97 ∨ c = 98 ∨ c = 117 ∨ c = 123 ∨ c = 125) then (match ps.getLast? with | some z => some (ps.dropLast ++ [z ++ [c]], s) | none => none) else none
noncomputable def zaF : List It → List (List Nat) → Nat → Option (List (List Nat) × Nat)
 | [], ps, s => some (ps, s)
 | x :: r, ps, s => match zag ps s x with | some (ps', s') => zaF r ps' s' | none => none
theorem zgg {ps : List (List Nat)} {z : List Nat} (h : ps.getLast? = some z) : ps = ps.dropLast ++ [z] := by
 have hne : ps ≠ [] := fun q => by subst q; exact zA h
 rw [List.getLast?_eq_some_getLast hne] at h
 have := List.dropLast_concat_getLast hne
 rw [Option.some.inj h] at this
 exact this.symm
theorem ye (pre a rest : List Nat) (k : Nat) (h : k < a.length) : (pre ++ a ++ rest)[pre.length + k]? = some a[k] := by
 rw [List.append_assoc, List.getElem?_append_right (by lia)]
 rw [show pre.length + k - pre.length = k by lia, List.getElem?_append_left h]
 simp [h]
theorem zcF (pre a rest : List Nat) : ((pre ++ a ++ rest).drop pre.length).take a.length = a := by
 rw [List.append_assoc, List.drop_left]
 simp
theorem zc4 (pre : List Nat) (x : Nat) (a rest : List Nat) : ((pre ++ (x :: a) ++ rest).drop (pre.length + 1)).take a.length = a := by
 have : pre ++ (x :: a) ++ rest = (pre ++ [x]) ++ a ++ rest := by simp
 rw [this, show pre.length + 1 = (pre ++ [x]).length by simp]
 exact zcF _ _ _
section
variable (cf : Cf)
theorem zkQ (pre rest : List Nat) (ps : List (List Nat)) (s : Nat) (x : It) (ps' : List (List Nat)) (s' : Nat) (sign e : D) (h : zag ps s x = some (ps', s')) (hsg : ∀ z, sign ≠ .app z) (he : ∀ z, e ≠ .app z)
  (hb : (pre ++ zh x ++ rest).length ≤ 100000) (hps : ps.length ≤ 1000) (hz : ∀ z ∈ ps, z.length ≤ 10000) :
  ∃ sign' e', (∀ z, sign' ≠ .app z) ∧ (∀ z, e' ≠ .app z) ∧ exL cf ["pieces"] 40 (zE 24) (xZ (pre ++ zh x ++ rest) ps s pre.length sign e) (zm (zM 24) 4) =
   some (.next (xZ (pre ++ zh x ++ rest) ps' s' ((pre.length + (zh x).length : Nat) : Int) sign' e')) := by
 cases x with
 | opn =>
  dsimp only [zag] at h
  refine eI h fun hs h => ?_
  cases h
  exact ⟨_, e, by simp, he, zhP cf _ pre.length ps s sign e (by lia) hsg he (ye pre (zh .opn) rest 0 (by decide)) hb hps (zcF pre (zh .opn) rest)⟩
 | dot =>
  dsimp only [zag] at h
  refine eI h fun hs h => ?_
  cases h
  exact ⟨_, e, by simp, he, ziq cf _ pre.length ps s sign e (by lia) hsg he (ye pre (zh .dot) rest 0 (by decide)) hb hps (zcF pre (zh .dot) rest)⟩
 | clo =>
  dsimp only [zag] at h
  refine eI h fun hs h => ?_
  cases h
  subst hs
  exact ⟨_, e, by simp, he, zhM cf _ pre.length ps sign e hsg he (ye pre (zh .clo) rest 0 (by decide)) hb⟩
 | cls c =>
  dsimp only [zag] at h
  refine eI h fun hs h => ?_
  injection eS h fun z hl h => ?_
  cases h
  have hsn := zgg hl
  have hzl : z.length ≤ 10000 := hz z (by rw [hsn]; simp)
  have hpl : ps.dropLast.length ≤ 1000 := by rw [List.length_dropLast]; lia
  generalize ps.dropLast = qs at *
  subst hsn
  by_cases h91 : c = 91
  ·subst h91
   exact ⟨_, _, by simp, by simp, zhd cf _ pre.length qs z s sign e (by lia) hsg he (ye pre (zh (.cls 91)) rest 0 (by decide)) (ye pre (zh (.cls 91)) rest 2 (by decide)) (ye pre (zh (.cls 91)) rest 3 (by decide)) hb hpl hzl (by
    have := zcF pre [91, 92, 91, 93] rest
    have d := zc4 pre 91 [92, 91, 93] rest
    have e2 : List.take 2 (List.take 3 (List.drop (pre.length + 1) (pre ++ [91, 92, 91, 93] ++ rest))) = [92, 91] := by
     have q : List.take 3 (List.drop (pre.length + 1) (pre ++ [91, 92, 91, 93] ++ rest)) = [92, 91, 93] := d
     rw [q]; rfl
    rw [List.take_take] at e2
    exact e2)⟩
  ·have hcl : zh (.cls c) = [91, c, 93] := by show zid c = _; unfold zid; rw [if_neg h91]
   have hc : c = 42 ∨ c = 63 := by lia
   rw [hcl] at hb ⊢
   exact ⟨_, _, by simp, by simp, zgz cf _ pre.length qs z c s sign e (by lia) hc hsg he (ye pre [91, c, 93] rest 0 (by simp)) (ye pre [91, c, 93] rest 1 (by simp)) (ye pre [91, c, 93] rest 2 (by simp)) hb hpl hzl (by
    have d := zc4 pre 91 [c, 93] rest
    have e2 : List.take 1 (List.take 2 (List.drop (pre.length + 1) (pre ++ [91, c, 93] ++ rest))) = [c] := by
     have q : List.take 2 (List.drop (pre.length + 1) (pre ++ [91, c, 93] ++ rest)) = [c, 93] := d
     rw [q]; rfl
    rw [List.take_take] at e2
    exact e2)⟩
 | chr c =>
  dsimp only [zag] at h
  refine eI h fun hs h => ?_
  injection eS h fun z hl h => ?_
  cases h
  have hsn := zgg hl
  have hzl : z.length ≤ 10000 := hz z (by rw [hsn]; simp)
  have hpl : ps.dropLast.length ≤ 1000 := by rw [List.length_dropLast]; lia
  generalize ps.dropLast = qs at *
  subst hsn
  by_cases hc : c = 123 ∨ c = 125
  ·have hcl : zh (.chr c) = [92, c] := by show zeL c = _; unfold zeL; rw [if_pos hc]
   rw [hcl] at hb ⊢
   exact ⟨_, e, by simp, he, zgB cf _ pre.length qs z c s sign e (by lia) hsg he (ye pre [92, c] rest 0 (by simp)) (ye pre [92, c] rest 1 (by simp)) hb hpl hzl⟩
  ·have hcl : zh (.chr c) = [c] := by show zeL c = _; unfold zeL; rw [if_neg hc]
   rw [hcl] at hb ⊢
   exact ⟨_, e, by simp, he, zgH cf _ pre.length qs z c s sign e (by lia) (by lia) hsg he (ye pre [c] rest 0 (by simp)) hb hpl hzl⟩
theorem zdt (hlen : cf.Γ "len" = some (.blt "len")) (T : List Nat) (ps : List (List Nat)) (s : Int) (i : Nat) (sign e : D) (hb : T.length ≤ 100000) :
  tsD cf 40 (zE 24) (xZ T ps s i sign e) (xT (zM 24) 4) = some (decide ((i : Int) < (T.length : Int) - 3)) := by
 have l1 : yd cf (.blt "len") [.str (st T)] = some (.int T.length) := xI T ▸ zaz (st T) (by rw [xI]; exact Nat.le_trans hb (by decide))
 exact (zG (zB rfl rfl rfl) (z0 (xy rfl (xM rfl rfl hlen rfl) (zJ (zB rfl rfl rfl) zS) rfl l1) zN rfl) rfl)
theorem zim (x : It) : 0 < (zh x).length := by
 cases x with
 | cls c => show 0 < (zid c).length; unfold zid; split <;> simp
 | chr c => show 0 < (zeL c).length; unfold zeL; split <;> simp
 | _ => simp [zh]
theorem zji {ps ps' : List (List Nat)} {s s' : Nat} {x : It} (h : zag ps s x = some (ps', s')) {N M : Nat} (hN : ps.length ≤ N) (hM : ∀ z ∈ ps, z.length ≤ M) : ps'.length ≤ N + 1 ∧ ∀ z ∈ ps', z.length ≤ M + 1 := by
 have snoc : ∀ (z : List Nat) (c : Nat), ps.getLast? = some z → (ps.dropLast ++ [z ++ [c]]).length ≤ N + 1 ∧ ∀ y ∈ ps.dropLast ++ [z ++ [c]], y.length ≤ M + 1 := by
  intro z c hl
  have hsn := zgg hl
  refine ⟨by rw [List.length_append, List.length_dropLast]; simp; lia, fun y hy => ?_⟩
  rcases List.mem_append.mp hy with q | q
  ·exact Nat.le_succ_of_le (hM y ((List.dropLast_sublist ps).subset q))
  ·rw [List.mem_singleton.mp q]
   have := hM z (by rw [hsn]; simp)
   simp; omega
 have push : ∀ y ∈ ps ++ [[]], y.length ≤ M + 1 := fun y hy => by
  rcases List.mem_append.mp hy with q | q
  ·exact Nat.le_succ_of_le (hM y q)
  ·rw [List.mem_singleton.mp q]; simp
 cases x <;> dsimp only [zag] at h
 ·refine eI h fun zz h => ?_
  cases h; exact ⟨by simp; lia, push⟩
 ·refine eI h fun zz h => ?_
  cases h; exact ⟨by simp; lia, push⟩
 ·refine eI h fun zz h => ?_
  cases h; exact ⟨by lia, fun y hy => Nat.le_succ_of_le (hM y hy)⟩
 ·refine eI h fun zz h => ?_
  split at h
  ·cases h; exact snoc _ _ (by assumption)
  ·cases h
 ·refine eI h fun zz h => ?_
  split at h
  ·cases h; exact snoc _ _ (by assumption)
  ·cases h
theorem zdz (hlen : cf.Γ "len" = some (.blt "len")) (tail : List Nat) (ht : tail.length = 3) : ∀ (its : List It) (pre : List Nat) (ps : List (List Nat)) (s : Nat) (sign e : D) (ps' : List (List Nat)) (s' : Nat) (f : Nat), zaF its ps s = some (ps', s') → (∀ z, sign ≠ .app z) → (∀ z, e ≠ .app z) →
  (pre ++ its.flatMap zh ++ tail).length ≤ 100000 → ps.length + its.length ≤ 1000 → (∀ z ∈ ps, z.length + its.length ≤ 10000) → its.length < f →
  ∃ sign' e', (∀ z, sign' ≠ .app z) ∧ (∀ z, e' ≠ .app z) ∧ whD (fun ρ => tsD cf 40 (zE 24) ρ (xT (zM 24) 4)) (fun ρ => exL cf ["pieces"] 40 (zE 24) ρ (zm (zM 24) 4)) f (xZ (pre ++ its.flatMap zh ++ tail) ps s pre.length sign e) =
   some (.next (xZ (pre ++ its.flatMap zh ++ tail) ps' s' ((pre.length + (its.flatMap zh).length : Nat) : Int) sign' e'))
 | [], pre, ps, s, sign, e, ps', s', f, h, hsg, he, hb, h1, h2, hf => by
  cases h
  obtain ⟨f, rfl⟩ : ∃ g, f = g + 1 := ⟨f - 1, by lia⟩
  refine ⟨sign, e, hsg, he, ?_⟩
  rw [whD, zdt cf hlen _ _ _ _ _ _ hb]
  have : decide ((pre.length : Int) < (((pre ++ [].flatMap zh ++ tail).length : Nat) : Int) - 3) = false := by simp [ht]
  rw [this]
  simp
 | x :: r, pre, ps, s, sign, e, ps', s', f, h, hsg, he, hb, h1, h2, hf => by
  obtain ⟨f, rfl⟩ : ∃ g, f = g + 1 := ⟨f - 1, by lia⟩
  unfold zaF at h
  set_option tactic.hygienic true in split at h
  ·rename_i q t hst
   have eT : pre ++ (x :: r).flatMap zh ++ tail = pre ++ zh x ++ (r.flatMap zh ++ tail) := by simp
   have eT2 : pre ++ (x :: r).flatMap zh ++ tail = (pre ++ zh x) ++ r.flatMap zh ++ tail := by simp
   obtain ⟨g1, g2⟩ := zji hst (N := ps.length) (M := 10000 - (r.length + 1)) (Nat.le_refl _) (fun z hz => by have := h2 z hz; simp at this; lia)
   obtain ⟨sg, e1, a1, a2, hst'⟩ := zkQ cf pre (r.flatMap zh ++ tail) ps s x q t sign e hst hsg he (by rw [← eT]; exact hb) (by lia) (fun z hz => by have := h2 z hz; lia)
   obtain ⟨sg', e', b1, b2, hl⟩ := zdz hlen tail ht r (pre ++ zh x) q t sg e1 ps' s' f h a1 a2 (by rw [← eT2]; exact hb) (by simp at h1; lia) (fun z hz => by have := g2 z hz; simp at h1 hf; have := h2; lia) (by simp at hf; omega)
   refine ⟨sg', e', b1, b2, ?_⟩
   rw [whD, zdt cf hlen _ _ _ _ _ _ hb]
   have hlt : decide ((pre.length : Int) < (((pre ++ (x :: r).flatMap zh ++ tail).length : Nat) : Int) - 3) = true := by
    have := zim x
    rw [decide_eq_true_eq, eT, List.length_append, List.length_append, List.length_append, ht]
    lia
   rw [hlt]
   dsimp only
   rw [eT, hst']
   dsimp only
   rw [← eT, eT2]
   rw [List.length_append] at hl
   rw [hl]
   simp [Nat.add_assoc]
  ·exact zA h
end
end
section
open PySem.Builtin PySem.Builtin.Str
noncomputable def xz (its : List It) : List Nat := [40, 63, 115, 58] ++ its.flatMap zh ++ [41, 92, 90]
section
variable (cf : Cf)
theorem zil (hlen : cf.Γ "len" = some (.blt "len")) (its : List It) (ps : List (List Nat)) (s : Nat) (hr : zaF its [[]] 0 = some (ps, s)) (hs : s = 0 ∨ s = 3) (hb : (xz its).length ≤ 100000) (hn : its.length ≤ 900) :
  exL cf ["pieces"] 46 (zE 24) (yF (zE 24) ["told"] [.str (st (xz its))]) (zM 24) = some (.ret (.lst (lsD ps))) := by
 obtain ⟨sg, e', a1, a2, hl0⟩ := zdz cf hlen [41, 92, 90] rfl its [40, 63, 115, 58] [[]] 0 .unb .unb ps s xu hr (by simp) (by simp) hb (by simp; lia) (by simp; lia) (by have : xu = 1000000 := rfl; lia)
 have hl : whS cf 40 (zE 24) (xZ (xz its) [[]] (0 : Nat) (4 : Nat) .unb .unb) ["pieces"] (xT (zM 24) 4) (zm (zM 24) 4) = some (.next (xZ (xz its) ps s ((4 + (its.flatMap zh).length : Nat) : Int) sg e')) := hl0
 have hb' : (st (xz its)).length ≤ zK := by rw [xI]; have : zK = 1000000 := rfl; lia
 have l1 := zaz _ hb'
 have s1 : xS (.str (st (xz its))) none (some 4) = some (.str (st [40, 63, 115, 58])) := by
  rw [zau _ _ _ hb', zaX]
  have : z6 (xz its) none (some ((4 : Nat) : Int)) = [40, 63, 115, 58] := by
   rw [zek]
   unfold xz
   simp
  exact congrArg (fun l => some (D.str (st l))) this
 have s2 : xS (.str (st (xz its))) (some (-3)) none = some (.str (st [41, 92, 90])) := by
  rw [zau _ _ _ hb', zaX]
  have : z6 (xz its) (some (-((3 : Nat) : Int))) none = [41, 92, 90] := by
   rw [zjq _ _ (by decide)]
   unfold xz
   rw [List.length_append, show ([41, 92, 90] : List Nat).length = 3 from rfl, Nat.add_sub_cancel, List.drop_left]
  exact congrArg (fun l => some (D.str (st l))) this
 have e1 : (st [40, 63, 115, 58] != ("(?s:" : Str)) = false := by decide
 have e2 : (st [41, 92, 90] != (")\\Z" : Str)) = false := by decide
 have u1 : unD .USub (.int 3) = some (.int (-3)) := rfl
 have hn : NAo [] (.next (xZ (xz its) ps s ((4 + (its.flatMap zh).length : Nat) : Int) sg e')) := zhx a1 a2
 have ci : yB .In (.int (s : Int)) (.tup [.int 0, .int 3]) = some true := by rcases hs with rfl | rfl <;> rfl
 show exL cf ["pieces"] 46 (zE 24) ([("told", .str (st (xz its))), ("pieces", .unb), ("state", .unb), ("i", .unb), ("sign", .unb), ("end", .unb)] : Rho) (zM 24) = _
 refine zj (M := []) (zD (zc (zaw (o_F (zG (zaf (zB rfl rfl rfl) zif (xn zN) s1) zP (congrArg some e1)) (o_F (zG (zaf (zB rfl rfl rfl) (xn (zbn zN u1)) zif s2) zP (congrArg some e2)) zbx))) zO) (zC (zD (zdj rfl rfl (zJ zP zS) rfl (zaY rfl)) (zC (zD (zg rfl rfl rfl zN rfl) (zC (zD (zg rfl rfl rfl zN rfl) (zC (zD (zai hl hn) (zC (zD (zmW (zG (zB rfl rfl rfl) (zaE (zJ zN (zJ zN zS)) rfl) ci) rfl rfl) yR))))))))))) (NA.of rfl) ?_
 rfl
end
end
section
open PySem.Builtin PySem.Builtin.Str
theorem k12 : zE 12 = ([("inp", .local), ("STAR", .local), ("res", .local), ("add", .local), ("i", .local), ("n", .local), ("fixed", .local), ("len", .globalImplicit)] : Kn) := by rfl
noncomputable def yp : List Stmt := zm (zM 12) 4
noncomputable def xe (P : List D) (S : Addr) (R : List D) (i n : Int) (fx : D) : Rho := [("inp", .lst P), ("STAR", .opq S), ("res", .own R), ("add", .app "res"), ("i", .int i), ("n", .int n), ("fixed", fx)]
theorem zaZ {P : List D} {i : Nat} {d : D} (h : P[i]? = some d) (hb : P.length ≤ 100000) : x7 (.lst P) (.int (i : Int)) = some d := by
 have hi : i < P.length := by
  rcases Nat.lt_or_ge i P.length with q | q
  ·exact q
  ·rw [List.getElem?_eq_none q] at h; exact zA h
 rw [zcD hi (by have : zK = 1000000 := rfl; lia)]
 rw [List.getElem?_eq_getElem hi] at h
 exact h
theorem zkb (x : Str) (S : Addr) : yB .IsNot (.str x) (.opq S) = some true := rfl
theorem zi1 (S : Addr) : yB .Is (.opq S) (.opq S) = some true := by
 show gd (Nat.beq S S) _ = _
 rw [Nat.beq_refl S]; rfl
theorem zhT (S : Addr) : yB .IsNot (.opq S) (.opq S) = some false := by
 show zmi (gd (Nat.beq S S) _) = _
 rw [Nat.beq_refl S]; rfl
theorem zhi {P : List D} {S : Addr} {R : List D} {i n : Int} {fx : D} (hfx : ∀ z, fx ≠ .app z) : NA ["res"] (xe P S R i n fx) := by
 exact NA.cons (fun zz e => D.noConfusion e) (NA.cons (fun zz e => D.noConfusion e) (NA.cons (fun zz e => D.noConfusion e) (NA.cons (fun z e => by cases e; rfl) (NA.cons (fun zz e => D.noConfusion e) (NA.cons (fun zz e => D.noConfusion e) (NA.cons (fun z e => absurd e (hfx z)) NA.nil))))))
section
variable (cf : Cf)
theorem zeB {α : Type} {P : List α} {i : Nat} {d : α} (h : P[i]? = some d) : i < P.length := by
 rcases Nat.lt_or_ge i P.length with q | q
 ·exact q
 ·rw [List.getElem?_eq_none q] at h; exact zA h
theorem zbL (f : Nat) (hf : f = 55 ∨ f = 47) (t : Expr) (ht : t = xT (zM 12) 3 ∨ t = xT yp 5) (P : List D) (S : Addr) (R : List D) (i : Nat) (fx : D) (hb : P.length ≤ 100000) (d : D) (hd : d = .opq S ∨ ∃ x, d = .str x) (h : P[i]? = some d) :
  tsD cf f (zE 12) (xe P S R i P.length fx) t = some (match d with | .opq _ => false | _ => true) := by
 have i0 := zaZ h hb
 have hlt : decide ((i : Int) < (P.length : Int)) = true := decide_eq_true (Int.ofNat_lt.mpr (zeB h))
 have hi := zeB h
 rcases hd with rfl | ⟨x, rfl⟩
 ·have cn := zhT S
  rcases hf with rfl | rfl <;> rcases ht with rfl | rfl
  ·exact (zw (a_T (zG (zB rfl rfl rfl) (zB rfl rfl rfl) (congrArg some hlt)) (a_F (zG (zX rfl (zB rfl rfl rfl) (zB rfl rfl rfl) i0) (zB rfl rfl rfl) cn))))
  ·exact (zw (a_T (zG (zB rfl rfl rfl) (zB rfl rfl rfl) (congrArg some hlt)) (a_F (zG (zX rfl (zB rfl rfl rfl) (zB rfl rfl rfl) i0) (zB rfl rfl rfl) cn))))
  ·exact (zw (a_T (zG (zB rfl rfl rfl) (zB rfl rfl rfl) (congrArg some hlt)) (a_F (zG (zX rfl (zB rfl rfl rfl) (zB rfl rfl rfl) i0) (zB rfl rfl rfl) cn))))
  ·exact (zw (a_T (zG (zB rfl rfl rfl) (zB rfl rfl rfl) (congrArg some hlt)) (a_F (zG (zX rfl (zB rfl rfl rfl) (zB rfl rfl rfl) i0) (zB rfl rfl rfl) cn))))
 ·rcases hf with rfl | rfl <;> rcases ht with rfl | rfl
  ·exact (zw (a_T (zG (zB rfl rfl rfl) (zB rfl rfl rfl) (congrArg some hlt)) (a_T (zG (zX rfl (zB rfl rfl rfl) (zB rfl rfl rfl) i0) (zB rfl rfl rfl) rfl) zdA)))
  ·exact (zw (a_T (zG (zB rfl rfl rfl) (zB rfl rfl rfl) (congrArg some hlt)) (a_T (zG (zX rfl (zB rfl rfl rfl) (zB rfl rfl rfl) i0) (zB rfl rfl rfl) rfl) zdA)))
  ·exact (zw (a_T (zG (zB rfl rfl rfl) (zB rfl rfl rfl) (congrArg some hlt)) (a_T (zG (zX rfl (zB rfl rfl rfl) (zB rfl rfl rfl) i0) (zB rfl rfl rfl) rfl) zdA)))
  ·exact (zw (a_T (zG (zB rfl rfl rfl) (zB rfl rfl rfl) (congrArg some hlt)) (a_T (zG (zX rfl (zB rfl rfl rfl) (zB rfl rfl rfl) i0) (zB rfl rfl rfl) rfl) zdA)))
theorem zb9 (f : Nat) (hf : f = 55 ∨ f = 47) (t : Expr) (ht : t = xT (zM 12) 3 ∨ t = xT yp 5) (P : List D) (S : Addr) (R : List D) (i : Nat) (fx : D) (h : i = P.length) :
  tsD cf f (zE 12) (xe P S R i P.length fx) t = some false := by
 have hlt : decide ((i : Int) < (P.length : Int)) = false := decide_eq_false (h ▸ Int.lt_irrefl _)
 rcases hf with rfl | rfl <;> rcases ht with rfl | rfl
 ·exact (zw (a_F (zG (zB rfl rfl rfl) (zB rfl rfl rfl) (congrArg some hlt))))
 ·exact (zw (a_F (zG (zB rfl rfl rfl) (zB rfl rfl rfl) (congrArg some hlt))))
 ·exact (zw (a_F (zG (zB rfl rfl rfl) (zB rfl rfl rfl) (congrArg some hlt))))
 ·exact (zw (a_F (zG (zB rfl rfl rfl) (zB rfl rfl rfl) (congrArg some hlt))))
theorem zii (P : List D) (S : Addr) (R : List D) (i : Nat) (n : Int) (fx : D) (hfx : ∀ z, fx ≠ .app z) (hb : P.length ≤ 100000) (hR : R.length ≤ 100000) (x : Str) (h : P[i]? = some (.str x)) :
  exL cf ["res", "fixed"] 55 (zE 12) (xe P S R i n fx) (zm (zM 12) 3) = some (.next (xe P S (R ++ [.str x]) ((i + 1 : Nat) : Int) n fx)) := by
 have i0 := zaZ h hb
 have hbl : Nat.ble R.length zK = true := Nat.ble_eq_true_of_le (Nat.le_trans hR (by decide))
 refine zj (M := ["res"]) (zD (zb8 rfl rfl rfl (zX rfl (zB rfl rfl rfl) (zB rfl rfl rfl) i0) rfl hbl) (zC (zD (zbs rfl rfl rfl zN) (zC zO)))) (zhi hfx) ?_
 rfl
theorem zeb (P : List D) (S : Addr) (fx : D) (hfx : ∀ z, fx ≠ .app z) (rest : List D) (hr : rest = [] ∨ ∃ r, rest = .opq S :: r) : ∀ (xs : List Str) (pre : List D) (R : List D) (f : Nat), P = pre ++ xs.map .str ++ rest → P.length ≤ 100000 → R.length + xs.length ≤ 100000 → xs.length < f →
  whD (fun ρ => tsD cf 55 (zE 12) ρ (xT (zM 12) 3)) (fun ρ => exL cf ["res", "fixed"] 55 (zE 12) ρ (zm (zM 12) 3)) f (xe P S R pre.length P.length fx) = some (.next (xe P S (R ++ xs.map .str) ((pre.length + xs.length : Nat) : Int) P.length fx))
 | [], pre, R, f, hP, hb, _, hf => by
  obtain ⟨f, rfl⟩ : ∃ g, f = g + 1 := ⟨f - 1, by lia⟩
  rw [whD]
  rcases hr with rfl | ⟨r, rfl⟩
  ·rw [zb9 cf 55 (.inl rfl) _ (.inl rfl) P S R pre.length fx (by subst hP; simp)]
   simp
  ·rw [zbL cf 55 (.inl rfl) _ (.inl rfl) P S R pre.length fx hb (.opq S) (.inl rfl) (by subst hP; simp)]
   simp
 | x :: xs, pre, R, f, hP, hb, hR, hf => by
  obtain ⟨f, rfl⟩ : ∃ g, f = g + 1 := ⟨f - 1, by lia⟩
  have hx : P[pre.length]? = some (.str x) := by subst hP; simp
  rw [whD, zbL cf 55 (.inl rfl) _ (.inl rfl) P S R pre.length fx hb (.str x) (.inr ⟨x, rfl⟩) hx]
  dsimp only
  rw [zii cf P S R pre.length P.length fx hfx hb (by simp at hR; lia) x hx]
  dsimp only
  have := zeb P S fx hfx rest hr xs (pre ++ [.str x]) (R ++ [.str x]) f (by rw [hP]; simp) hb (by simp at *; lia) (by simp at hf; lia)
  rw [List.length_append] at this
  rw [show (([D.str x] : List D).length) = 1 from rfl] at this
  have e : pre.length + 1 + xs.length = pre.length + (x :: xs).length := by simp; lia
  rw [this, e]
  simp
end
end
section
open PySem.Builtin PySem.Builtin.Str
noncomputable def jS (xs : List Str) : Str := Txt.join ("" : Str) xs
noncomputable def gS (x : Str) : Str := [("(?>.*?" : Str), x, (")" : Str)].foldl (· ++ ·) Str.empty
noncomputable def zci (rest : List D) (J : Str) : List D := match rest with | [] => [.str (st [46, 42]), .str J] | _ => [.str (gS J)]
section
variable (cf : Cf)
theorem zhE (P : List D) (S : Addr) (R F : List D) (i : Nat) (n : Int) (hb : P.length ≤ 100000) (hF : F.length ≤ 100000) (x : Str) (h : P[i]? = some (.str x)) :
  exL cf ["res", "fixed"] 47 (zE 12) (xe P S R i n (.own F)) (zm yp 5) = some (.next (xe P S R ((i + 1 : Nat) : Int) n (.own (F ++ [.str x])))) := by
 have i0 := zaZ h hb
 have hbl : Nat.ble F.length zK = true := Nat.ble_eq_true_of_le (by have : zK = 1000000 := rfl; lia)
 refine zj (M := ["res"]) (zD (zab rfl rfl (zX rfl (zB rfl rfl rfl) (zB rfl rfl rfl) i0) rfl hbl) (zC (zD (zbs rfl rfl rfl zN) (zC zO)))) (zhi (fun zz e => D.noConfusion e)) ?_
 rfl
theorem zee (P : List D) (S : Addr) (R : List D) (rest : List D) (hr : rest = [] ∨ ∃ r, rest = .opq S :: r) : ∀ (xs : List Str) (pre : List D) (F : List D) (f : Nat), P = pre ++ xs.map .str ++ rest → P.length ≤ 100000 → F.length + xs.length ≤ 100000 → xs.length < f →
  whD (fun ρ => tsD cf 47 (zE 12) ρ (xT yp 5)) (fun ρ => exL cf ["res", "fixed"] 47 (zE 12) ρ (zm yp 5)) f (xe P S R pre.length P.length (.own F)) = some (.next (xe P S R ((pre.length + xs.length : Nat) : Int) P.length (.own (F ++ xs.map .str))))
 | [], pre, F, f, hP, hb, _, hf => by
  obtain ⟨f, rfl⟩ : ∃ g, f = g + 1 := ⟨f - 1, by lia⟩
  rw [whD]
  rcases hr with rfl | ⟨r, rfl⟩
  ·rw [zb9 cf 47 (.inr rfl) _ (.inr rfl) P S R pre.length (.own F) (by subst hP; simp)]
   simp
  ·rw [zbL cf 47 (.inr rfl) _ (.inr rfl) P S R pre.length (.own F) hb (.opq S) (.inl rfl) (by subst hP; simp)]
   simp
 | x :: xs, pre, F, f, hP, hb, hR, hf => by
  obtain ⟨f, rfl⟩ : ∃ g, f = g + 1 := ⟨f - 1, by lia⟩
  have hx : P[pre.length]? = some (.str x) := by subst hP; simp
  rw [whD, zbL cf 47 (.inr rfl) _ (.inr rfl) P S R pre.length (.own F) hb (.str x) (.inr ⟨x, rfl⟩) hx]
  dsimp only
  rw [zhE cf P S R F pre.length P.length hb (by simp at hR; lia) x hx]
  dsimp only
  have := zee P S R rest hr xs (pre ++ [.str x]) (F ++ [.str x]) f (by rw [hP]; simp) hb (by simp at *; lia) (by simp at hf; omega)
  rw [List.length_append] at this
  rw [show (([D.str x] : List D).length) = 1 from rfl] at this
  have e : pre.length + 1 + xs.length = pre.length + (x :: xs).length := by simp; lia
  rw [this, e]
  simp
theorem zgU (P : List D) (S : Addr) (R : List D) (i : Nat) (fx : D) (hfx : ∀ z, fx ≠ .app z) (hb : P.length ≤ 100000) (hR : R.length ≤ 100000) (h : P[i]? = some (.opq S)) (hn : i + 1 = P.length) :
  exL cf ["res", "fixed"] 54 (zE 12) (xe P S R i P.length fx) yp = some (.brk (xe P S (R ++ [.str (st [46, 42])]) ((i + 1 : Nat) : Int) P.length fx)) := by
 have i0 := zaZ h hb
 have hbl : Nat.ble R.length zK = true := Nat.ble_eq_true_of_le (by have : zK = 1000000 := rfl; lia)
 have heq : ((i : Int) + 1 == (P.length : Int)) = true := beq_iff_eq.mpr (by rw [← hn]; rfl)
 have st1 := zi1 S
 refine zj (M := ["res"]) (zD (zat (zG (zX rfl (zB rfl rfl rfl) (zB rfl rfl rfl) i0) (zB rfl rfl rfl) st1)) (zC (zD (zbs rfl rfl rfl zN) (zC (zD (xw (zG (zB rfl rfl rfl) (zB rfl rfl rfl) (congrArg some heq)) (zD (zb8 rfl rfl rfl zP rfl hbl) (zC (zD zl6 zlC)))) zlC))))) (zhi hfx) ?_
 rfl
theorem zg2 (P : List D) (S : Addr) (R : List D) (pre rest : List D) (x : Str) (xs : List Str) (fx : D) (hfx : ∀ z, fx ≠ .app z) (hb : P.length ≤ 100000) (hR : R.length ≤ 90000) (hP0 : P = pre ++ (.opq S :: (x :: xs).map .str) ++ rest) (hr : rest = [] ∨ ∃ r, rest = .opq S :: r)
  (hj : z3 (x :: xs) ≤ 100000) :
  exL cf ["res", "fixed"] 54 (zE 12) (xe P S R pre.length P.length fx) yp =
   some (.next (xe P S (R ++ zci rest (jS (x :: xs))) ((pre.length + 1 + (x :: xs).length : Nat) : Int) P.length (.str (jS (x :: xs))))) := by
 have bd : zK = 1000000 := rfl
 have h0 : P[pre.length]? = some (.opq S) := by subst hP0; simp
 have h1 : P[pre.length + 1]? = some (.str x) := by
  subst hP0
  have : pre ++ (.opq S :: (x :: xs).map D.str) ++ rest = (pre ++ [.opq S]) ++ (.str x :: (xs.map D.str ++ rest)) := by simp
  rw [this, List.getElem?_append_right (by simp)]
  simp
 have i0 := zaZ h0 hb
 have i1 : x7 (.lst P) (.int ((pre.length : Int) + 1)) = some (.str x) := zaZ h1 hb
 have hlP : pre.length + 1 + (x :: xs).length + rest.length = P.length := by subst hP0; simp; lia
 have heq : ((pre.length : Int) + 1 == (P.length : Int)) = false := by simp at *; lia
 have hl : whS cf 47 (zE 12) (xe P S R ((pre.length : Int) + 1) P.length (.own [])) ["res", "fixed"] (xT yp 5) (zm yp 5) = some (.next (xe P S R ((pre.length + 1 + (x :: xs).length : Nat) : Int) P.length (.own ((x :: xs).map .str)))) := by
  have := zee cf P S R rest hr (x :: xs) (pre ++ [.opq S]) [] xu (by rw [hP0]; simp) hb (by simp at *; lia) (by have : xu = 1000000 := rfl; simp at *; lia)
  rw [List.length_append] at this
  rw [show (([D.opq S] : List D).length) = 1 from rfl, List.nil_append] at this
  exact this
 have jo : za3 "" (.own ((x :: xs).map .str)) = some (.str (jS (x :: xs))) := zg6 "" (x :: xs) (by show z3 (x :: xs) + (x :: xs).length * 0 ≤ _; lia)
 have hbl : Nat.ble R.length zK = true := Nat.ble_eq_true_of_le (by lia)
 have hbl2 : Nat.ble (R.length + 1) zK = true := Nat.ble_eq_true_of_le (by lia)
 have hc : List.contains (["res", "fixed"] : List Str) "fixed" = true := by rfl
 have jl : (jS (x :: xs)).length ≤ 100000 := by
  have := StrLaws.join_length_le ("" : Str) (x :: xs)
  unfold jS Txt.join
  rw [StrLaws.glued_eq_join]
  have e0 : ("" : Str).length = 0 := rfl
  rw [e0] at this
  have e1 : ((x :: xs).map (·.length)).sum = z3 (x :: xs) := rfl
  lia
 have ls : Nat.ble (z3 [("(?>.*?" : Str), jS (x :: xs), (")" : Str)]) zK = true := Nat.ble_eq_true_of_le (by
  show 6 + ((jS (x :: xs)).length + (1 + 0)) ≤ _
  lia)
 have gse : [("(?>.*?" : Str), jS (x :: xs), (")" : Str)].foldl (· ++ ·) Str.empty = gS (jS (x :: xs)) := rfl
 clear hP0
 have e1 : Nat.ble (R ++ [D.str (st [46, 42])]).length zK = true := by rw [List.length_append]; exact hbl2
 have st1 := zi1 S
 have mj : zbt "join" "" [.own ((x :: xs).map .str)] = some (.str (jS (x :: xs))) := jo
 generalize jS (x :: xs) = J at *
 generalize (x :: xs).map D.str = XS at *
 have hn : NAo ["res"] (.next (xe P S R ((pre.length + 1 + (x :: xs).length : Nat) : Int) P.length (.own XS))) := zhi (fun zz e => D.noConfusion e)
 generalize hq : ((pre.length + 1 + (x :: xs).length : Nat) : Int) = q at *
 rcases hr with rfl | ⟨r, rfl⟩
 ·have heq2 : (q == (P.length : Int)) = true := beq_iff_eq.mpr (by rw [← hq, ← hlP]; rfl)
  refine zj (M := ["res"]) (zD (zat (zG (zX rfl (zB rfl rfl rfl) (zB rfl rfl rfl) i0) (zB rfl rfl rfl) st1)) (zC (zD (zbs rfl rfl rfl zN) (zC (zD (zc (zG (zB rfl rfl rfl) (zB rfl rfl rfl) (congrArg some heq)) zO) (zC (zD (zat (zG (zX rfl (zB rfl rfl rfl) (zB rfl rfl rfl) i1) (zB rfl rfl rfl) rfl)) (zC (zD (zdj rfl hc zS rfl (ziX rfl)) (zC (zD (zai hl hn) (zC (zD (zg rfl rfl rfl (zb5 rfl zP (zJ (zB rfl rfl rfl) zS) rfl mj) rfl) (zC (zD (xw (zG (zB rfl rfl rfl) (zB rfl rfl rfl) (congrArg some heq2)) (zD (zb8 rfl rfl rfl zP rfl hbl) (zC (zD (zb8 rfl rfl rfl (zB rfl rfl rfl) rfl e1) (zC zO))))) (zC zO)))))))))))))))) (zhi hfx) ?_
  show _ = Out.next (xe P S (R ++ ([.str (st [46, 42])] ++ [.str J])) q P.length (.str J))
  rw [← List.append_assoc]; rfl
 ·have heq2 : (q == (P.length : Int)) = false := beq_eq_false_iff_ne.mpr (fun z => by rw [← hq, ← hlP] at z; have := Int.ofNat.inj z; simp at this)
  refine zj (M := ["res"]) (zD (zat (zG (zX rfl (zB rfl rfl rfl) (zB rfl rfl rfl) i0) (zB rfl rfl rfl) st1)) (zC (zD (zbs rfl rfl rfl zN) (zC (zD (zc (zG (zB rfl rfl rfl) (zB rfl rfl rfl) (congrArg some heq)) zO) (zC (zD (zat (zG (zX rfl (zB rfl rfl rfl) (zB rfl rfl rfl) i1) (zB rfl rfl rfl) rfl)) (zC (zD (zdj rfl hc zS rfl (ziX rfl)) (zC (zD (zai hl hn) (zC (zD (zg rfl rfl rfl (zb5 rfl zP (zJ (zB rfl rfl rfl) zS) rfl mj) rfl) (zC (zD (zc (zG (zB rfl rfl rfl) (zB rfl rfl rfl) (congrArg some heq2)) (zD (zb8 rfl rfl rfl (zgu (zbw (zgi (zB rfl rfl rfl) (zbw zgk))) ls gse) rfl hbl) (zC zO))) (zC zO)))))))))))))))) (zhi hfx) ?_
  rfl
noncomputable def yW : List (List Str) → List Str
 | [] => []
 | c :: r => (match r with | [] => (match c with | [] => [st [46, 42]] | _ => [st [46, 42], jS c]) | _ => [gS (jS c)]) ++ yW r
noncomputable def zdX : List (List Str) → Prop
 | [] => True
 | c :: r => (r ≠ [] → c ≠ []) ∧ zdX r
noncomputable def xB (S : Addr) (cs : List (List Str)) : List D := cs.flatMap fun c => .opq S :: c.map .str
theorem zeS (P : List D) (S : Addr) (R : List D) (i : Nat) (fx : D) :
  tsD cf 54 (zE 12) (xe P S R i P.length fx) (xT (zM 12) 4) = some (decide ((i : Int) < (P.length : Int))) := by
 exact (zG (zB rfl rfl rfl) (zB rfl rfl rfl) rfl)
theorem zeE (P : List D) (S : Addr) (hb : P.length ≤ 50000) : ∀ (cs : List (List Str)) (pre R : List D) (fx : D) (f : Nat), P = pre ++ xB S cs → zdX cs → (∀ z, fx ≠ .app z) → R.length + 2 * cs.length ≤ 90000 → (∀ c ∈ cs, z3 c ≤ 100000) → cs.length < f →
  ∃ fx', (∀ z, fx' ≠ .app z) ∧ whD (fun ρ => tsD cf 54 (zE 12) ρ (xT (zM 12) 4)) (fun ρ => exL cf ["res", "fixed"] 54 (zE 12) ρ yp) f (xe P S R pre.length P.length fx) = some (.next (xe P S (R ++ (yW cs).map .str) P.length P.length fx'))
 | [], pre, R, fx, f, hP, _, hfx, _, _, hf => by
  obtain ⟨f, rfl⟩ : ∃ g, f = g + 1 := ⟨f - 1, by lia⟩
  have e : pre.length = P.length := by rw [hP]; simp [xB]
  refine ⟨fx, hfx, ?_⟩
  rw [whD, zeS, e]
  have : decide ((P.length : Int) < (P.length : Int)) = false := by simp
  rw [this]
  simp [yW]
 | c :: r, pre, R, fx, f, hP, hfull, hfx, hR, hL, hf => by
  obtain ⟨f, rfl⟩ : ∃ g, f = g + 1 := ⟨f - 1, by lia⟩
  have hlen : pre.length + 1 + c.length + (xB S r).length = P.length := by rw [hP]; simp [xB]; lia
  rw [whD, zeS]
  have hlt : decide ((pre.length : Int) < (P.length : Int)) = true := by simp; lia
  rw [hlt]
  dsimp only
  cases c with
  | nil =>
   have hr : r = [] := by
    by_cases q : r = []
    ·exact q
    ·exact absurd rfl (hfull.1 q)
   subst hr
   have h0 : P[pre.length]? = some (.opq S) := by rw [hP]; simp [xB]
   have hn : pre.length + 1 = P.length := by simp [xB] at hlen; omega
   refine ⟨fx, hfx, ?_⟩
   rw [zgU cf P S R pre.length fx hfx (by lia) (by lia) h0 hn]
   dsimp only
   rw [hn]
   simp [yW]
  | cons x xs =>
   have hrest : xB S r = [] ∨ ∃ t, xB S r = .opq S :: t := by
    cases r with
    | nil => exact .inl rfl
    | cons a b => exact .inr ⟨_, rfl⟩
   have hP' : P = pre ++ (.opq S :: (x :: xs).map .str) ++ xB S r := by rw [hP]; simp [xB]
   rw [zg2 cf P S R pre (xB S r) x xs fx hfx (by lia) (by lia) hP' hrest (hL _ (.head _))]
   dsimp only
   have ladd : (zci (xB S r) (jS (x :: xs))).length ≤ 2 := by
    rcases hrest with q | ⟨t, q⟩ <;> rw [q] <;> simp [zci]
   obtain ⟨fx', g1, g2⟩ := zeE P S hb r (pre ++ (.opq S :: (x :: xs).map .str)) (R ++ zci (xB S r) (jS (x :: xs))) (.str (jS (x :: xs))) f hP' hfull.2 (by simp) (by simp at *; lia) (fun c hc => hL c (.tail _ hc)) (by simp at hf; omega)
   refine ⟨fx', g1, ?_⟩
   have e1 : (pre ++ (D.opq S :: (x :: xs).map D.str)).length = pre.length + 1 + (x :: xs).length := by simp; lia
   rw [e1] at g2
   rw [g2]
   have e2 : (yW ((x :: xs) :: r)).map D.str = zci (xB S r) (jS (x :: xs)) ++ (yW r).map D.str := by
    cases r with
    | nil => simp [yW, xB, zci]
    | cons a b => simp [yW, xB, zci]
   rw [e2, List.append_assoc]
end
end
section
open PySem.Builtin PySem.Builtin.Str
noncomputable def zi0 (x : Str) : Str := [("(?s:" : Str), x, (")\\Z" : Str)].foldl (· ++ ·) Str.empty
section
variable (cf : Cf)
theorem zle (xs : List Str) : (jS xs).length ≤ z3 xs := by
 have := StrLaws.join_length_le ("" : Str) xs
 unfold jS Txt.join
 rw [StrLaws.glued_eq_join]
 have e0 : ("" : Str).length = 0 := rfl
 rw [e0] at this
 have e1 : (xs.map (·.length)).sum = z3 xs := rfl
 lia
theorem zlj (hlen : cf.Γ "len" = some (.blt "len")) (S : Addr) (c0 : List Str) (cs : List (List Str)) (hb : (c0.map D.str ++ xB S cs).length ≤ 50000) (hfull : zdX cs) (hc : c0.length + 2 * cs.length ≤ 80000) (hL : ∀ c ∈ cs, z3 c ≤ 100000) (hJ : z3 (c0 ++ yW cs) ≤ 500000) :
  exL cf ["res", "fixed"] 60 (zE 12) (yF (zE 12) ["inp", "STAR"] [.lst (c0.map .str ++ xB S cs), .opq S]) (zM 12) = some (.ret (.str (zi0 (jS (c0 ++ yW cs))))) := by
 have bd : zK = 1000000 := rfl
 have hrest : xB S cs = [] ∨ ∃ t, xB S cs = .opq S :: t := by
  cases cs with
  | nil => exact .inl rfl
  | cons a b => exact .inr ⟨_, rfl⟩
 have hl1 := zeb cf (c0.map .str ++ xB S cs) S .unb (by simp) (xB S cs) hrest c0 [] [] xu rfl (by lia) (by simp; lia) (by have : xu = 1000000 := rfl; lia)
 obtain ⟨fx', g1, hl2⟩ := zeE cf (c0.map .str ++ xB S cs) S hb cs (c0.map .str) (c0.map .str) .unb xu rfl hfull (by simp) (by simp; lia) hL (by have : xu = 1000000 := rfl; lia)
 have ll := zcy (c0.map .str ++ xB S cs) (by lia)
 have e0 : (([] : List D).length + c0.length : Nat) = c0.length := by simp
 rw [e0, List.nil_append] at hl1
 have e1 : (c0.map D.str).length = c0.length := by simp
 rw [e1] at hl2
 have e2 : c0.map D.str ++ (yW cs).map D.str = (c0 ++ yW cs).map D.str := by simp
 rw [e2] at hl2
 have jo : za3 "" (.own ((c0 ++ yW cs).map .str)) = some (.str (jS (c0 ++ yW cs))) := zg6 "" _ (by show z3 _ + _ * 0 ≤ _; lia)
 have jl := zle (c0 ++ yW cs)
 have ls : Nat.ble (z3 [("(?s:" : Str), jS (c0 ++ yW cs), (")\\Z" : Str)]) zK = true := Nat.ble_eq_true_of_le (by
  show 4 + ((jS (c0 ++ yW cs)).length + (3 + 0)) ≤ _
  lia)
 have wse : [("(?s:" : Str), jS (c0 ++ yW cs), (")\\Z" : Str)].foldl (· ++ ·) Str.empty = zi0 (jS (c0 ++ yW cs)) := rfl
 have hl1' : whS cf 55 (zE 12) (xe (c0.map D.str ++ xB S cs) S [] 0 ((c0.map D.str ++ xB S cs).length : Nat) .unb) ["res", "fixed"] (xT (zM 12) 3) (zm (zM 12) 3) = some (.next (xe (c0.map D.str ++ xB S cs) S (c0.map D.str) (c0.length : Nat) ((c0.map D.str ++ xB S cs).length : Nat) .unb)) := hl1
 have hl2' : whS cf 54 (zE 12) (xe (c0.map D.str ++ xB S cs) S (c0.map D.str) (c0.length : Nat) ((c0.map D.str ++ xB S cs).length : Nat) .unb) ["res", "fixed"] (xT (zM 12) 4) (zm (zM 12) 4) = some (.next (xe (c0.map D.str ++ xB S cs) S ((c0 ++ yW cs).map D.str) ((c0.map D.str ++ xB S cs).length : Nat) ((c0.map D.str ++ xB S cs).length : Nat) fx')) := hl2
 clear hl1 hl2
 have mj : zbt "join" "" [.own ((c0 ++ yW cs).map .str)] = some (.str (jS (c0 ++ yW cs))) := jo
 have n1 : NAo ["res"] (.next (xe (c0.map D.str ++ xB S cs) S (c0.map D.str) (c0.length : Nat) ((c0.map D.str ++ xB S cs).length : Nat) .unb)) := zhi (fun zz e => D.noConfusion e)
 have n2 : NAo ["res"] (.next (xe (c0.map D.str ++ xB S cs) S ((c0 ++ yW cs).map D.str) ((c0.map D.str ++ xB S cs).length : Nat) ((c0.map D.str ++ xB S cs).length : Nat) fx')) := zhi g1
 generalize c0.map D.str ++ xB S cs = P at *
 generalize (c0 ++ yW cs).map D.str = XS at *
 generalize jS (c0 ++ yW cs) = J at *
 generalize c0.map D.str = R0 at *
 have lc : yd cf (.blt "len") [.lst P] = some (.int P.length) := ll
 have heq : ((P.length : Int) == (P.length : Int)) = true := beq_iff_eq.mpr rfl
 have hr : yF (zE 12) ["inp", "STAR"] [.lst P, .opq S] = ([("inp", .lst P), ("STAR", .opq S), ("res", .unb), ("add", .unb), ("i", .unb), ("n", .unb), ("fixed", .unb)] : Rho) := by rw [k12]; rfl
 rw [hr]
 show exL cf ["res", "fixed"] 60 (zE 12) ([("inp", .lst P), ("STAR", .opq S), ("res", .unb), ("add", .unb), ("i", .unb), ("n", .unb), ("fixed", .unb)] : Rho) (zM 12) = _
 refine zj (M := ["res"]) (zD (zdj rfl rfl zS rfl (zaY rfl)) (zC (zD (zlF rfl rfl rfl rfl rfl) (zC (zD (znw rfl rfl rfl zN (xy rfl (xM rfl rfl hlen rfl) (zJ (zB rfl rfl rfl) zS) rfl lc) rfl rfl) (zC (zD (zai hl1' n1) (zC (zD (zai hl2' n2) (zC (zD (zat (zG (zB rfl rfl rfl) (zB rfl rfl rfl) (congrArg some heq))) (zC (zD (zn7 rfl rfl (zb5 rfl zP (zJ (zB rfl rfl rfl) zS) rfl mj) rfl) (zC (zD (zce rfl (zgu (zbw (zgi (zB rfl rfl rfl) (zbw zgk))) ls wse) rfl) yR))))))))))))))) (NA.of rfl) ?_
 rfl
end
end
section
open PySem.Builtin PySem.Builtin.Str
theorem k11 : zE 11 = ([("pat", .local), ("STAR", .local), ("QUESTION_MARK", .local), ("res", .local), ("add", .local), ("i", .local), ("n", .local), ("c", .local), ("j", .local), ("stuff", .local), ("chunks", .local), ("k", .local), ("chunk", .local), ("len", .globalImplicit), ("range", .globalImplicit), ("_twin_re_1", .globalImplicit), ("escape", .globalImplicit)] : Kn) := by rfl
noncomputable def xo (T : List Nat) (S : Addr) (R : List D) (i n : Int) (c j sf : D) : Rho := [("pat", .str (st T)), ("STAR", .opq S), ("QUESTION_MARK", .str "."), ("res", .own R), ("add", .app "res"), ("i", .int i), ("n", .int n), ("c", c), ("j", j), ("stuff", sf), ("chunks", .unb), ("k", .unb), ("chunk", .unb)]
noncomputable def orOf (l : List Stmt) (i : Nat) : List Stmt := match l[i]? with | some (.If _ _ o _) => o | _ => []
noncomputable def ifOf (l : List Stmt) (i : Nat) : List Stmt := match l[i]? with | some (.If _ b _ _) => b | _ => []
noncomputable def trB : List Stmt := ifOf (orOf (orOf (zm (zM 11) 3) 2) 0) 0
theorem zg3 {T S R i n c j sf} (hc : ∀ z, c ≠ .app z) (hj : ∀ z, j ≠ .app z) (hsf : ∀ z, sf ≠ .app z) : NA ["res"] (xo T S R i n c j sf) := by
 exact NA.cons (fun zz e => D.noConfusion e) (NA.cons (fun zz e => D.noConfusion e) (NA.cons (fun zz e => D.noConfusion e) (NA.cons (fun zz e => D.noConfusion e) (NA.cons (fun z e => by cases e; rfl) (NA.cons (fun zz e => D.noConfusion e) (NA.cons (fun zz e => D.noConfusion e) (NA.cons (fun z e => absurd e (hc z)) (NA.cons (fun z e => absurd e (hj z)) (NA.cons (fun z e => absurd e (hsf z)) (NA.cons (fun zz e => D.noConfusion e) (NA.cons (fun zz e => D.noConfusion e) (NA.cons (fun zz e => D.noConfusion e) NA.nil))))))))))))
section
variable (cf : Cf)
theorem zna (T : List Nat) (S : Addr) (R : List D) (i : Nat) (n : Int) (c j sf : D) (hc : ∀ z, c ≠ .app z) (hj : ∀ z, j ≠ .app z) (hsf : ∀ z, sf ≠ .app z) (h0 : T[i]? = some 42) (hb : T.length ≤ 100000) (hR : R.length ≤ 100000) (hlast : R = [] ∨ ∃ R' x, R = R' ++ [.str x]) :
  exL cf ["res"] 55 (zE 11) (xo T S R i n c j sf) (zm (zM 11) 3) = some (.next (xo T S (R ++ [.opq S]) ((i + 1 : Nat) : Int) n (.str (st [42])) j sf)) := by
 have bd : zK = 1000000 := rfl
 have i0 := yQ T i 42 h0 hb
 have e1 : (st [42] == ("*" : Str)) = true := by decide
 have hbl : Nat.ble R.length zK = true := Nat.ble_eq_true_of_le (by lia)
 rcases hlast with rfl | ⟨R', x, rfl⟩
 ·have tr : zan (.own []) = some false := rfl
  refine zj (M := ["res"]) (zD (zg rfl rfl rfl (zX rfl (zB rfl rfl rfl) (zB rfl rfl rfl) i0) rfl) (zC (zD (zg rfl rfl rfl (z0 (zB rfl rfl rfl) zN rfl) rfl) (zC (zD (xw (zG (zB rfl rfl rfl) zP (congrArg some e1)) (zD (xw (zaw (o_T (zn2 (zbK (zB rfl rfl rfl) tr)))) (zD (zb8 rfl rfl rfl (zB rfl rfl rfl) rfl hbl) (zC zO))) (zC zO))) (zC zO)))))) (zg3 hc hj hsf) ?_
  rfl
 ·have tr : zan (.own (R' ++ [.str x])) = some true := by
   unfold zan
   dsimp only
   rw [hbl]
   simp [zcg]
  have il : x7 (.own (R' ++ [.str x])) (.int (-1)) = some (.str x) := by
   unfold x7 zaB
   have h1 : decide ((0 : Int) ≤ (-1 : Int)) = false := by decide
   have h2 : decide ((0 : Int) ≤ -1 + ((R' ++ [D.str x]).length : Int)) = true := by simp; lia
   have h4 : (-1 + ((R' ++ [D.str x]).length : Int)).toNat = R'.length := by simp; lia
   simp only [h1, h2, hbl, h4]
   simp
  have cn := zkb x S
  generalize R' ++ [D.str x] = R at *
  refine zj (M := ["res"]) (zD (zg rfl rfl rfl (zX rfl (zB rfl rfl rfl) (zB rfl rfl rfl) i0) rfl) (zC (zD (zg rfl rfl rfl (z0 (zB rfl rfl rfl) zN rfl) rfl) (zC (zD (xw (zG (zB rfl rfl rfl) zP cn) (zD (xw (zaw (o_F (zh9 (zbK (zB rfl rfl rfl) tr)) (o_T (zG (zX rfl (zB rfl rfl rfl) (zbn zN rfl) il) (zB rfl rfl rfl) cn)))) (zD (zb8 rfl rfl rfl (zB rfl rfl rfl) rfl hbl) (zC zO))) (zC zO))) (zC zO)))))) (zg3 hc hj hsf) ?_
  rfl
theorem zoZ (hesc : cf.Γ "escape" = some (.opq 83)) (esc : Nat → Str) (T : List Nat) (S : Addr) (R : List D) (i : Nat) (n : Int) (k : Nat) (c j sf : D) (hphi : cf.Φ 83 [.str (st [k])] = some (.str (esc k))) (hk : k = 47 ∨ k = 97 ∨ k = 98 ∨ k = 117 ∨ k = 123 ∨ k = 125) (hc : ∀ z, c ≠ .app z) (hj : ∀ z, j ≠ .app z) (hsf : ∀ z, sf ≠ .app z) (h0 : T[i]? = some k) (hb : T.length ≤ 100000) (hR : R.length ≤ 100000) :
  exL cf ["res"] 55 (zE 11) (xo T S R i n c j sf) (zm (zM 11) 3) = some (.next (xo T S (R ++ [.str (esc k)]) ((i + 1 : Nat) : Int) n (.str (st [k])) j sf)) := by
 have bd : zK = 1000000 := rfl
 have i0 := yQ T i k h0 hb
 have e0 : (!(st [k] == ("*" : Str)) && (!(st [k] == ("?" : Str)) && !(st [k] == ("[" : Str)))) = true := by rcases hk with rfl | rfl | rfl | rfl | rfl | rfl <;> rfl
 have e1 := zcM (zd3 e0)
 have e2 := zcM (zd3 (yc e0))
 have e3 := zcM (yc (yc e0))
 have hbl : Nat.ble R.length zK = true := Nat.ble_eq_true_of_le (by lia)
 have cl : yd cf (.opq 83) [.str (st [k])] = some (.str (esc k)) := hphi
 refine zj (M := ["res"]) (zD (zg rfl rfl rfl (zX rfl (zB rfl rfl rfl) (zB rfl rfl rfl) i0) rfl) (zC (zD (zg rfl rfl rfl (z0 (zB rfl rfl rfl) zN rfl) rfl) (zC (zD (zc (zG (zB rfl rfl rfl) zP (congrArg some e1)) (zD (zc (zG (zB rfl rfl rfl) zP (congrArg some e2)) (zD (zc (zG (zB rfl rfl rfl) zP (congrArg some e3)) (zD (zb8 rfl rfl rfl (xy rfl (xM rfl rfl hesc rfl) (zJ (zB rfl rfl rfl) zS) rfl cl) rfl hbl) (zC zO))) (zC zO))) (zC zO))) (zC zO)))))) (zg3 hc hj hsf) ?_
 rfl
theorem zj0 (x y z : Str) (h : (occurrences x y 0 x.length (x.length + 1)).isEmpty = true) : zbt "replace" x [.str y, .str z] = some (.str x) := by
 unfold zbt
 have h1 : ¬ ((("replace" : Str) == ("join" : Str)) = true) := by decide
 have h2 : ¬ ((("replace" : Str) == ("find" : Str)) = true) := by decide
 have h3 : (("replace" : Str) == ("replace" : Str)) = true := by decide
 rw [if_neg h1, if_neg h2, if_pos h3]
 show gd _ _ = _
 rw [h]
 rfl
noncomputable def yj (k : Nat) : List Nat := if k = 91 then [92, 91] else [k]
theorem zgX (T : List Nat) (S : Addr) (R : List D) (i n : Int) (c sf : D) (j k : Nat) (h : T[j]? = some k) (hb : T.length ≤ 100000) (hj : (j : Int) < n) (b : Bool) (hk : (st [k] != ("]" : Str)) = b) :
  tsD cf 42 (zE 11) (xo T S R i n c (.int (j : Int)) sf) (xT trB 3) = some b := by
 have i0 := yQ T j k h hb
 have hlt : decide ((j : Int) < n) = true := decide_eq_true hj
 cases b
 ·exact (zw (a_T (zG (zB rfl rfl rfl) (zB rfl rfl rfl) (congrArg some hlt)) (a_F (zG (zX rfl (zB rfl rfl rfl) (zB rfl rfl rfl) i0) zP (congrArg some hk)))))
 ·exact (zw (a_T (zG (zB rfl rfl rfl) (zB rfl rfl rfl) (congrArg some hlt)) (a_T (zG (zX rfl (zB rfl rfl rfl) (zB rfl rfl rfl) i0) zP (congrArg some hk)) zdA)))
theorem zkI (T : List Nat) (S : Addr) (R : List D) (i n : Int) (c sf : D) (j : Nat) (hc : ∀ z, c ≠ .app z) (hsf : ∀ z, sf ≠ .app z) :
  exL cf ["res"] 42 (zE 11) (xo T S R i n c (.int (j : Int)) sf) (zm trB 3) = some (.next (xo T S R i n c (.int ((j + 1 : Nat) : Int)) sf)) := by
 refine zj (M := ["res"]) (zD (zg rfl rfl rfl (z0 (zB rfl rfl rfl) zN rfl) rfl) (zC zO)) (zg3 hc (fun zz e => D.noConfusion e) hsf) ?_
 rfl
theorem zlb (T : List Nat) (S : Addr) (R : List D) (i n : Int) (c sf : D) (j k : Nat) (hc : ∀ z, c ≠ .app z) (hsf : ∀ z, sf ≠ .app z) (h0 : T[j]? = some k) (h1 : T[j + 1]? = some 93) (hb : T.length ≤ 100000) (hn : ((j + 1 : Nat) : Int) < n) (hk : k = 42 ∨ k = 63 ∨ k = 91) :
  whS cf 42 (zE 11) (xo T S R i n c (.int (j : Int)) sf) ["res"] (xT trB 3) (zm trB 3) = some (.next (xo T S R i n c (.int ((j + 1 : Nat) : Int)) sf)) := by
 unfold whS
 rw [show xu = 999998 + 1 + 1 from rfl, whD, zgX cf T S R i n c sf j k h0 hb (by lia) true (by rcases hk with rfl | rfl | rfl <;> decide)]
 rw [zkI cf T S R i n c sf j hc hsf]
 dsimp only
 rw [whD, zgX cf T S R i n c sf (j + 1) 93 h1 hb hn false (by decide)]
theorem zom (k : Nat) (hook : ∀ (K : Kn) (ρ : Rho) fp apos ps bd sc lp sp pos, (apos.endLine == pos.line) = true → zft ps sc = true → x5 K = some ((Value.ref 89, ("_translate.<locals>." : Str)) : Value × Str) → K.lookup ("_twin_re_1" : Str) = some .globalImplicit → List.lookup ("stuff" : Str) ρ = some (D.str (st [k])) → cf.H K ρ (.Call (.Attribute (.Name "_twin_re_1" fp) "sub" apos) [.Lambda ps bd sc lp, .Name "stuff" sp] [] pos) = some (.str (st [k]))) (hg : cf.Γ "_twin_re_1" = none) (T : List Nat) (S : Addr) (R : List D) (i : Nat) (n : Int) (c j sf : D) (hk : k = 42 ∨ k = 63 ∨ k = 91) (hc : ∀ z, c ≠ .app z) (hj : ∀ z, j ≠ .app z) (hsf : ∀ z, sf ≠ .app z)
  (h0 : T[i]? = some 91) (h1 : T[i + 1]? = some k) (h2 : T[i + 2]? = some 93) (hsl : (T.drop (i + 1)).take 1 = [k]) (hb : T.length ≤ 100000) (hR : R.length ≤ 100000) (hn : ((i + 2 : Nat) : Int) < n) :
  exL cf ["res"] 55 (zE 11) (xo T S R i n c j sf) (zm (zM 11) 3) = some (.next (xo T S (R ++ [.str (st ([91] ++ yj k ++ [93]))]) ((i + 3 : Nat) : Int) n (.str (st [91])) (.int ((i + 2 : Nat) : Int)) (.str (st (yj k))))) := by
 have bd : zK = 1000000 := rfl
 have i0 := yQ T i 91 h0 hb
 have i1 : x7 (.str (st T)) (.int ((i : Int) + 1)) = some (.str (st [k])) := yQ T (i + 1) k h1 hb
 have hl := zlb cf T S R ((i : Int) + 1) n (.str (st [91])) sf (i + 1) k (by simp) hsf h1 h2 hb (by lia) hk
 have hbl : Nat.ble R.length zK = true := Nat.ble_eq_true_of_le (by lia)
 have sl : xS (.str (st T)) (some ((i : Int) + 1)) (some ((i + 1 + 1 : Nat) : Int)) = some (.str (st [k])) := by
  have := zaC T (i + 1) (i + 2) hb
  have e : i + 2 - (i + 1) = 1 := by lia
  rw [e, hsl] at this
  exact this
 have lt1 : decide ((i : Int) + 1 < n) = true := by simp; lia
 have ge1 : decide (((i + 1 + 1 : Nat) : Int) ≥ n) = false := by simp; lia
 have e1 : (st [91] == ("*" : Str)) = false := by decide
 have e2 : (st [91] == ("?" : Str)) = false := by decide
 have e3 : (st [91] == ("[" : Str)) = true := by decide
 have k1 : (st [k] == ("!" : Str)) = false := by rcases hk with rfl | rfl | rfl <;> decide
 have k2 : (st [k] == ("]" : Str)) = false := by rcases hk with rfl | rfl | rfl <;> decide
 have kc : Txt.contains (st [k]) ("-" : Str) = false := by rcases hk with rfl | rfl | rfl <;> decide +kernel
 have k3 : yB .NotIn (.str "-") (.str (st [k])) = some true := by
  show (match some (Txt.contains (st [k]) ("-" : Str)) with | some c => some (!c) | none => none) = _
  rw [kc]; rfl
 have ko : (occurrences (st [k]) ("\\" : Str) 0 (st [k]).length ((st [k]).length + 1)).isEmpty = true := by rcases hk with rfl | rfl | rfl <;> decide +kernel
 have mr : zbt "replace" (st [k]) [.str "\\", .str "\\\\"] = some (.str (st [k])) := zj0 _ _ _ ko
 have tr : zan (.str (st [k])) = some true := rfl
 have ix : x7 (.str (st [k])) (.int 0) = some (.str (st [k])) := rfl
 have ss : ∀ l : List Nat, [("[" : Str), st l, ("]" : Str)].foldl (· ++ ·) Str.empty = st ([91] ++ l ++ [93]) := by
  intro l
  show ((Str.empty ++ st [91]) ++ st l) ++ st [93] = _
  rw [show Str.empty = st [] from rfl, xU, xU, xU]
  rfl
 have hn : NAo ["res"] (.next (xo T S R ((i : Int) + 1) n (.str (st [91])) (.int ((i + 1 + 1 : Nat) : Int)) sf)) := zg3 (fun zz e => D.noConfusion e) (fun zz e => D.noConfusion e) hsf
 have j1 : (((i + 1 : Nat) : Int)) = (i : Int) + 1 := rfl
 rw [j1] at hl
 generalize hq : ((i + 1 + 1 : Nat) : Int) = q at *
 have fin : (.next (xo T S (R ++ [.str (st ([91] ++ yj k ++ [93]))]) (q + 1) n (.str (st [91])) (.int q) (.str (st (yj k)))) : Out) = .next (xo T S (R ++ [.str (st ([91] ++ yj k ++ [93]))]) ((i + 3 : Nat) : Int) n (.str (st [91])) (.int q) (.str (st (yj k)))) := by
  rw [← hq]; rfl
 rw [← fin]
 have hkh : ∀ ρ : Rho, List.lookup ("stuff" : Str) ρ = some (D.str (st [k])) → ∀ fp apos ps bd sc lp sp pos, (apos.endLine == pos.line) = true → zft ps sc = true → cf.H (zE 11) ρ (.Call (.Attribute (.Name "_twin_re_1" fp) "sub" apos) [.Lambda ps bd sc lp, .Name "stuff" sp] [] pos) = some (.str (st [k])) := fun ρ h fp apos ps bd sc lp sp pos h1 h2 => hook _ _ _ _ _ _ _ _ _ _ h1 h2 rfl rfl h
 clear hook
 have key : yB .In (.str (st [k])) (.tup [.str "^", .str "["]) = some false → yj k = [k] → exL cf ["res"] 55 (zE 11) (xo T S R i n c j sf) (zm (zM 11) 3) = some (.next (xo T S (R ++ [.str (st ([91] ++ yj k ++ [93]))]) (q + 1) n (.str (st [91])) (.int q) (.str (st (yj k))))) := fun ci sk => by
  rw [sk]
  have sj := ss [k]
  refine zj (M := ["res"]) (zD (zg rfl rfl rfl (zX rfl (zB rfl rfl rfl) (zB rfl rfl rfl) i0) rfl) (zC (zD (zg rfl rfl rfl (z0 (zB rfl rfl rfl) zN rfl) rfl) (zC (zD (zc (zG (zB rfl rfl rfl) zP (by first | exact ci | exact congrArg some k1 | exact congrArg some k2 | rfl)) (zD (zc (zG (zB rfl rfl rfl) zP (by first | exact ci | exact congrArg some k1 | exact congrArg some k2 | rfl)) (zD (xw (zG (zB rfl rfl rfl) zP (congrArg some e3)) (zD (zg rfl rfl rfl (zB rfl rfl rfl) rfl) (zC (zD (zc (zw (a_T (zG (zB rfl rfl rfl) (zB rfl rfl rfl) (congrArg some lt1)) (a_F (zG (zX rfl (zB rfl rfl rfl) (zB rfl rfl rfl) i1) zP (by first | exact ci | exact congrArg some k1 | exact congrArg some k2 | rfl))))) zO) (zC (zD (zc (zw (a_T (zG (zB rfl rfl rfl) (zB rfl rfl rfl) (congrArg some lt1)) (a_F (zG (zX rfl (zB rfl rfl rfl) (zB rfl rfl rfl) i1) zP (by first | exact ci | exact congrArg some k1 | exact congrArg some k2 | rfl))))) zO) (zC (zD (zai hl hn) (zC (zD (zc (zG (zB rfl rfl rfl) (zB rfl rfl rfl) (congrArg some ge1)) (zD (zg rfl rfl rfl (zaf (zB rfl rfl rfl) (xn (zB rfl rfl rfl)) (xn (zB rfl rfl rfl)) sl) rfl) (zC (zD (xw (zG zP (zB rfl rfl rfl) k3) (zD (zg rfl rfl rfl (zb5 rfl (zB rfl rfl rfl) (zJ zP (zJ zP zS)) rfl mr) rfl) (zC zO))) (zC (zD (zg rfl rfl rfl (zlH rfl hg rfl (hkh _ rfl _ _ _ _ _ _ _ _ e3 rfl)) rfl) (zC (zD (zg rfl rfl rfl (z0 (zB rfl rfl rfl) zN rfl) rfl) (zC (zD (zc (zh9 (zbK (zB rfl rfl rfl) tr)) (zD (zc (zG (zB rfl rfl rfl) zP (by first | exact ci | exact congrArg some k1 | exact congrArg some k2 | rfl)) (zD (zc (zG (zX rfl (zB rfl rfl rfl) zN ix) zP (by first | exact ci | exact congrArg some k1 | exact congrArg some k2 | rfl)) (zD (zc (zG (zX rfl (zB rfl rfl rfl) zN ix) (zaE (zJ zP (zJ zP zS)) rfl) (by first | exact ci | exact congrArg some k1 | exact congrArg some k2 | rfl)) zO) (zC zO))) (zC (zD (zb8 rfl rfl rfl (zgu (zbw (zgi (zB rfl rfl rfl) (zbw zgk))) rfl sj) rfl hbl) (zC zO))))) (zC zO))) (zC zO))))))))))) (zC zO))))))))))) (zC zO))) (zC zO))) (zC zO)))))) (zg3 hc hj hsf) ?_
  rfl
 rcases hk with rfl | rfl | rfl
 ·exact key rfl rfl
 ·exact key rfl rfl
 ·have ci : yB .In (.str (st [91])) (.tup [.str "^", .str "["]) = some true := rfl
  have ad : yu .Add (.str "\\") (.str (st [91])) = some (.str (st [92, 91])) := rfl
  have sj := ss [92, 91]
  refine zj (M := ["res"]) (zD (zg rfl rfl rfl (zX rfl (zB rfl rfl rfl) (zB rfl rfl rfl) i0) rfl) (zC (zD (zg rfl rfl rfl (z0 (zB rfl rfl rfl) zN rfl) rfl) (zC (zD (zc (zG (zB rfl rfl rfl) zP (congrArg some e1)) (zD (zc (zG (zB rfl rfl rfl) zP (congrArg some e2)) (zD (xw (zG (zB rfl rfl rfl) zP ci) (zD (zg rfl rfl rfl (zB rfl rfl rfl) rfl) (zC (zD (zc (zw (a_T (zG (zB rfl rfl rfl) (zB rfl rfl rfl) (congrArg some lt1)) (a_F (zG (zX rfl (zB rfl rfl rfl) (zB rfl rfl rfl) i1) zP (congrArg some k1))))) zO) (zC (zD (zc (zw (a_T (zG (zB rfl rfl rfl) (zB rfl rfl rfl) (congrArg some lt1)) (a_F (zG (zX rfl (zB rfl rfl rfl) (zB rfl rfl rfl) i1) zP (congrArg some k2))))) zO) (zC (zD (zai hl hn) (zC (zD (zc (zG (zB rfl rfl rfl) (zB rfl rfl rfl) (congrArg some ge1)) (zD (zg rfl rfl rfl (zaf (zB rfl rfl rfl) (xn (zB rfl rfl rfl)) (xn (zB rfl rfl rfl)) sl) rfl) (zC (zD (xw (zG zP (zB rfl rfl rfl) k3) (zD (zg rfl rfl rfl (zb5 rfl (zB rfl rfl rfl) (zJ zP (zJ zP zS)) rfl mr) rfl) (zC zO))) (zC (zD (zg rfl rfl rfl (zlH rfl hg rfl (hkh _ rfl _ _ _ _ _ _ _ _ e3 rfl)) rfl) (zC (zD (zg rfl rfl rfl (z0 (zB rfl rfl rfl) zN rfl) rfl) (zC (zD (zc (zh9 (zbK (zB rfl rfl rfl) tr)) (zD (zc (zG (zB rfl rfl rfl) zP (congrArg some k1)) (zD (zc (zG (zX rfl (zB rfl rfl rfl) zN ix) zP (congrArg some k1)) (zD (xw (zG (zX rfl (zB rfl rfl rfl) zN ix) (zaE (zJ zP (zJ zP zS)) rfl) ci) (zD (zg rfl rfl rfl (z0 zP (zB rfl rfl rfl) ad) rfl) (zC zO))) (zC zO))) (zC (zD (zb8 rfl rfl rfl (zgu (zbw (zgi (zB rfl rfl rfl) (zbw zgk))) rfl sj) rfl hbl) (zC zO))))) (zC zO))) (zC zO))))))))))) (zC zO))))))))))) (zC zO))) (zC zO))) (zC zO)))))) (zg3 hc hj hsf) ?_
  rfl
end
end
section
open PySem.Builtin PySem.Builtin.Str
inductive Tk where
 | star
 | lit (c : Nat)
 | cls (c : Nat)
noncomputable def zf : Tk → List Nat
 | .star => [42]
 | .lit c => [c]
 | .cls c => [91, c, 93]
noncomputable def ze7 (c : Nat) : Str := st (zeL c)
noncomputable def yw (S : Addr) : Tk → D
 | .star => .opq S
 | .lit c => .str (ze7 c)
 | .cls c => .str (st ([91] ++ yj c ++ [93]))
noncomputable def zaR : Tk → Prop
 | .star => True
 | .lit c => c = 47 ∨ c = 97 ∨ c = 98 ∨ c = 117 ∨ c = 123 ∨ c = 125
 | .cls c => c = 42 ∨ c = 63 ∨ c = 91
noncomputable def yv : Bool → List Tk → Prop
 | _, [] => True
 | b, .star :: r => b = false ∧ yv true r
 | _, .lit _ :: r => yv false r
 | _, .cls _ :: r => yv false r
structure zn6 (cf : Cf) : Prop where
 len : cf.Γ "len" = some (.blt "len")
 esc : cf.Γ "escape" = some (.opq 83)
 re : cf.Γ "_twin_re_1" = none
 phi : ∀ c, (c = 47 ∨ c = 97 ∨ c = 98 ∨ c = 117 ∨ c = 123 ∨ c = 125) → cf.Φ 83 [.str (st [c])] = some (.str (ze7 c))
 hook : ∀ k, (k = 42 ∨ k = 63 ∨ k = 91) → ∀ (K : Kn) (ρ : Rho) fp apos ps bd sc lp sp pos, (apos.endLine == pos.line) = true → zft ps sc = true → x5 K = some ((Value.ref 89, ("_translate.<locals>." : Str)) : Value × Str) → K.lookup ("_twin_re_1" : Str) = some .globalImplicit → List.lookup ("stuff" : Str) ρ = some (D.str (st [k])) → cf.H K ρ (.Call (.Attribute (.Name "_twin_re_1" fp) "sub" apos) [.Lambda ps bd sc lp, .Name "stuff" sp] [] pos) = some (.str (st [k]))
section
variable (cf : Cf)
theorem zi9 (T : List Nat) (S : Addr) (R : List D) (i n : Int) (c j sf : D) :
  tsD cf 55 (zE 11) (xo T S R i n c j sf) (xT (zM 11) 3) = some (decide (i < n)) := by
 exact (zG (zB rfl rfl rfl) (zB rfl rfl rfl) rfl)
theorem ziS (tc : zn6 cf) (S : Addr) : ∀ (toks : List Tk) (T pre : List Nat) (R : List D) (c j sf : D) (f : Nat), T = pre ++ toks.flatMap zf → (∀ t ∈ toks, zaR t) → (∃ b, yv b toks ∧ (b = false → R = [] ∨ ∃ R' x, R = R' ++ [.str x])) → (∀ z, c ≠ .app z) → (∀ z, j ≠ .app z) → (∀ z, sf ≠ .app z) →
  T.length ≤ 100000 → R.length + toks.length ≤ 90000 → toks.length < f →
  ∃ c' j' sf', (∀ z, c' ≠ .app z) ∧ (∀ z, j' ≠ .app z) ∧ (∀ z, sf' ≠ .app z) ∧ whD (fun ρ => tsD cf 55 (zE 11) ρ (xT (zM 11) 3)) (fun ρ => exL cf ["res"] 55 (zE 11) ρ (zm (zM 11) 3)) f (xo T S R pre.length T.length c j sf) =
   some (.next (xo T S (R ++ toks.map (yw S)) T.length T.length c' j' sf'))
 | [], T, pre, R, c, j, sf, f, hT, _, _, hc, hj, hsf, hb, hR, hf => by
  obtain ⟨f, rfl⟩ : ∃ g, f = g + 1 := ⟨f - 1, by lia⟩
  have e : pre.length = T.length := by rw [hT]; simp
  refine ⟨c, j, sf, hc, hj, hsf, ?_⟩
  rw [whD, zi9, e]
  have : decide ((T.length : Int) < (T.length : Int)) = false := by simp
  rw [this]
  simp
 | t :: r, T, pre, R, c, j, sf, f, hT, hok, hno, hc, hj, hsf, hb, hR, hf => by
  obtain ⟨f, rfl⟩ : ∃ g, f = g + 1 := ⟨f - 1, by lia⟩
  have hT2 : T = pre ++ zf t ++ r.flatMap zf := by rw [hT]; simp
  have hlen : pre.length + (zf t).length + (r.flatMap zf).length = T.length := by rw [hT2]; simp; lia
  have hpos : 0 < (zf t).length := by cases t <;> simp [zf]
  have hlt : decide ((pre.length : Int) < (T.length : Int)) = true := by simp; lia
  have hat : ∀ q (hq : q < (zf t).length), T[pre.length + q]? = some (zf t)[q] := fun q hq => by rw [hT2]; exact ye pre (zf t) _ q hq
  refine zQ hno fun b hn hlast => ?_
  have step : ∃ c' j' sf', (∀ z, c' ≠ .app z) ∧ (∀ z, j' ≠ .app z) ∧ (∀ z, sf' ≠ .app z) ∧ exL cf ["res"] 55 (zE 11) (xo T S R pre.length T.length c j sf) (zm (zM 11) 3) =
    some (.next (xo T S (R ++ [yw S t]) ((pre.length + (zf t).length : Nat) : Int) T.length c' j' sf')) := by
   cases t with
   | star => exact ⟨_, _, _, by simp, hj, hsf, zna cf T S R pre.length T.length c j sf hc hj hsf (hat 0 (by simp [zf])) hb (by lia) (hlast hn.1)⟩
   | lit k => exact ⟨_, _, _, by simp, hj, hsf, zoZ cf tc.esc ze7 T S R pre.length T.length k c j sf (tc.phi k (hok _ (.head _))) (hok _ (.head _)) hc hj hsf (hat 0 (by simp [zf])) hb (by lia)⟩
   | cls k =>
    have hsl : (T.drop (pre.length + 1)).take 1 = [k] := by
     have d := zc4 pre 91 [k, 93] (r.flatMap zf)
     have hT3 : T = pre ++ [91, k, 93] ++ r.flatMap zf := hT2
     rw [← hT3] at d
     have e2 : List.take 1 (List.take 2 (List.drop (pre.length + 1) T)) = [k] := by
      have q : List.take 2 (List.drop (pre.length + 1) T) = [k, 93] := d
      rw [q]; rfl
     rw [List.take_take] at e2
     exact e2
    have hl3 : (zf (.cls k)).length = 3 := rfl
    exact ⟨_, _, _, by simp, by simp, by simp, zom cf k (tc.hook k (hok _ (.head _))) tc.re T S R pre.length T.length c j sf (hok _ (.head _)) hc hj hsf (hat 0 (by simp [zf])) (hat 1 (by simp [zf])) (hat 2 (by simp [zf])) hsl hb (by lia) (by lia)⟩
  refine za4 step fun c1 j1 s1 a1 a2 a3 hst => ?_
  have hno' : ∃ b', yv b' r ∧ (b' = false → R ++ [yw S t] = [] ∨ ∃ R' x, R ++ [yw S t] = R' ++ [.str x]) := by
   cases t with
   | star => exact ⟨true, hn.2, fun q => by cases q⟩
   | lit k => exact ⟨false, hn, fun zz => .inr ⟨R, _, rfl⟩⟩
   | cls k => exact ⟨false, hn, fun zz => .inr ⟨R, _, rfl⟩⟩
  obtain ⟨c2, j2, s2, b1, b2, b3, hl⟩ := ziS tc S r T (pre ++ zf t) (R ++ [yw S t]) c1 j1 s1 f hT2 (fun q hq => hok q (.tail _ hq)) hno' a1 a2 a3 hb (by simp at *; lia) (by simp at hf; omega)
  refine ⟨c2, j2, s2, b1, b2, b3, ?_⟩
  rw [whD, zi9, hlt]
  dsimp only
  rw [hst]
  dsimp only
  rw [List.length_append] at hl
  rw [hl]
  simp
theorem zol (tc : zn6 cf) (S : Addr) (toks : List Tk) (hok : ∀ t ∈ toks, zaR t) (hno : yv false toks) (hb : (toks.flatMap zf).length ≤ 100000) (hn : toks.length ≤ 80000) :
  exL cf ["res"] 60 (zE 11) (yF (zE 11) ["pat", "STAR", "QUESTION_MARK"] [.str (st (toks.flatMap zf)), .opq S, .str "."]) (zM 11) = some (.ret (.lst (toks.map (yw S)))) := by
 have bd : zK = 1000000 := rfl
 obtain ⟨c', j', sf', a1, a2, a3, hl0⟩ := ziS cf tc S toks (toks.flatMap zf) [] [] .unb .unb .unb xu rfl hok ⟨false, hno, fun zz => .inl rfl⟩ (by simp) (by simp) (by simp) hb (by simp; lia) (by have : xu = 1000000 := rfl; lia)
 have hl : whS cf 55 (zE 11) (xo (toks.flatMap zf) S [] 0 (toks.flatMap zf).length .unb .unb .unb) ["res"] (xT (zM 11) 3) (zm (zM 11) 3) = some (.next (xo (toks.flatMap zf) S (toks.map (yw S)) (toks.flatMap zf).length (toks.flatMap zf).length c' j' sf')) := hl0
 clear hl0
 have ll := zaz (st (toks.flatMap zf)) (by rw [xI]; lia)
 rw [xI] at ll
 have hlen := tc.len
 have hn : NAo ["res"] (.next (xo (toks.flatMap zf) S (toks.map (yw S)) (toks.flatMap zf).length (toks.flatMap zf).length c' j' sf')) := zg3 a1 a2 a3
 generalize toks.flatMap zf = T at *
 generalize toks.map (yw S) = P at *
 have lc : yd cf (.blt "len") [.str (st T)] = some (.int T.length) := ll
 have heq : ((T.length : Int) == (T.length : Int)) = true := beq_iff_eq.mpr rfl
 have hr : yF (zE 11) ["pat", "STAR", "QUESTION_MARK"] [.str (st T), .opq S, .str "."] = ([("pat", .str (st T)), ("STAR", .opq S), ("QUESTION_MARK", .str "."), ("res", .unb), ("add", .unb), ("i", .unb), ("n", .unb), ("c", .unb), ("j", .unb), ("stuff", .unb), ("chunks", .unb), ("k", .unb), ("chunk", .unb)] : Rho) := by rw [k11]; rfl
 rw [hr]
 refine zj (M := ["res"]) (zD (zdj rfl rfl zS rfl (zaY rfl)) (zC (zD (zlF rfl rfl rfl rfl rfl) (zC (zD (znw rfl rfl rfl zN (xy rfl (xM rfl rfl hlen rfl) (zJ (zB rfl rfl rfl) zS) rfl lc) rfl rfl) (zC (zD (zai hl hn) (zC (zD (zat (zG (zB rfl rfl rfl) (zB rfl rfl rfl) (congrArg some heq))) (zC (zD (ziy rfl rfl) yR))))))))))) (NA.of rfl) ?_
 rfl
end
end
section
open PySem.Builtin PySem.Builtin.Str
inductive Gl : List (List Nat) → List Nat → Prop
 | one (p : List Nat) : Gl [p] p
 | cons (p g : List Nat) {r : List (List Nat)} {t : List Nat} : r ≠ [] → Gl r t → Gl (p :: r) (p ++ g ++ t)
noncomputable def zgK (x : List Nat) (ps : List (List Nat)) (i : Nat) : Prop := ∃ g t, x.drop i = g ++ t ∧ Gl ps t
theorem zgK.less {x : List Nat} {ps : List (List Nat)} {i j : Nat} (h : zgK x ps j) (hij : i ≤ j) : zgK x ps i := by
 refine xl h fun g t e q => ?_
 refine ⟨(x.drop i).take (j - i) ++ g, t, ?_, q⟩
 have : x.drop j = (x.drop i).drop (j - i) := by rw [List.drop_drop]; congr 1; lia
 rw [this] at e
 rw [List.append_assoc, ← e, List.take_append_drop]
theorem zkr (x last : List Nat) (i : Nat) (hi : i ≤ x.length) : zgK x [last] i ↔ (i + last.length ≤ x.length ∧ x.drop (x.length - last.length) = last) := by
 constructor
 ·rintro ⟨g, t, e, q⟩
  cases q with
  | one =>
   have hl := congrArg List.length e
   rw [List.length_drop, List.length_append] at hl
   refine ⟨by lia, ?_⟩
   have : x.drop (x.length - last.length) = (x.drop i).drop g.length := by rw [List.drop_drop]; congr 1; lia
   rw [this, e, List.drop_left]
  | cons _ _ hr _ => exact absurd rfl hr
 ·rintro ⟨h1, h2⟩
  refine ⟨(x.drop i).take (x.length - last.length - i), last, ?_, .one last⟩
  have : x.drop (x.length - last.length) = (x.drop i).drop (x.length - last.length - i) := by rw [List.drop_drop]; congr 1; lia
  rw [this] at h2
  have q := (List.take_append_drop (x.length - last.length - i) (x.drop i)).symm
  rw [h2] at q
  exact q
theorem zjX (x p : List Nat) (r : List (List Nat)) (hr : r ≠ []) (i : Nat) (hi : i ≤ x.length) : zgK x (p :: r) i ↔ ∃ k, i ≤ k ∧ k + p.length ≤ x.length ∧ (x.drop k).take p.length = p ∧ zgK x r (k + p.length) := by
 constructor
 ·rintro ⟨g, t, e, q⟩
  set_option tactic.hygienic true in cases q with
  | one => exact absurd rfl hr
  | cons _ g' hr' q' =>
   rename_i t'
   have hl := congrArg List.length e
   simp only [List.length_drop, List.length_append] at hl
   have hk : x.drop (i + g.length) = p ++ (g' ++ t') := by
    rw [← List.drop_drop, e, List.drop_left, List.append_assoc]
   refine ⟨i + g.length, by lia, by lia, by rw [hk, List.take_left], g', t', ?_, q'⟩
   rw [← List.drop_drop, hk, List.drop_left]
 ·rintro ⟨k, h1, h2, h3, g, t, e, q⟩
  refine ⟨(x.drop i).take (k - i), p ++ g ++ t, ?_, .cons p g hr q⟩
  have hk : x.drop k = p ++ (g ++ t) := by
   rw [← e, ← List.drop_drop]
   conv => lhs; rw [← List.take_append_drop p.length (x.drop k)]
   rw [h3]
  have : x.drop k = (x.drop i).drop (k - i) := by rw [List.drop_drop]; congr 1; lia
  rw [List.append_assoc, ← hk, this, List.take_append_drop]
theorem zeo (x last : List Nat) : ∀ (mids : List (List Nat)) (i : Nat), i ≤ x.length →
  (zgK x (mids ++ [last]) i ↔ ∃ j : Nat, zaj (st x) (mids.map st) i = some (j : Int) ∧ j + last.length ≤ x.length ∧ x.drop (x.length - last.length) = last) ∧
  (∀ z, zaj (st x) (mids.map st) i = some z → ∃ j : Nat, z = j)
 | [], i, hi => by
  refine ⟨?_, fun z hz => ⟨i, (Option.some.inj hz).symm⟩⟩
  rw [List.nil_append, zkr x last i hi]
  constructor
  ·rintro ⟨h1, h2⟩; exact ⟨i, rfl, h1, h2⟩
  ·rintro ⟨j, h0, h1, h2⟩
   have : (i : Int) = (j : Int) := Option.some.inj h0
   have : i = j := by lia
   subst this; exact ⟨h1, h2⟩
 | p :: r, i, hi => by
  have hne : r ++ [last] ≠ [] := by simp
  rw [List.cons_append, zjX x p (r ++ [last]) hne i hi, List.map_cons, zaj]
  rcases zcZ x p i with ⟨hf, hn⟩ | ⟨k, hf, hik, hkl, hm, hn⟩
  ·rw [hf, if_pos (by decide)]
   refine ⟨⟨?_, ?_⟩, fun z hz => by exact zA hz⟩
   ·rintro ⟨k, h1, h2, h3, _⟩; exact absurd h3 (hn k h1 h2)
   ·rintro ⟨j, h0, _⟩; exact zA h0
  ·rw [hf, if_neg (by lia)]
   have e : (k : Int) + ((st p).length : Int) = ((k + p.length : Nat) : Int) := by rw [xI]; lia
   rw [e]
   refine zk (zeo x last r (k + p.length) hkl) fun ih ih2 => ?_
   refine ⟨?_, ih2⟩
   rw [← ih]
   constructor
   ·rintro ⟨k', h1, h2, h3, h4⟩
    refine h4.less ?_
    rcases Nat.lt_or_ge k' k with q | q
    ·exact absurd h3 (hn k' h1 q)
    ·lia
   ·intro h; exact ⟨k, hik, hkl, hm, h⟩
theorem zmc (p0 : List Nat) (mids : List (List Nat)) (last : List Nat) : zcn ((p0 :: (mids ++ [last])).map st) = mids.map st := by
 unfold zcn
 rw [← zd9]
 congr 1
 unfold z6
 have h1 : clipAt (p0 :: (mids ++ [last])).length (1 : Int) = 1 := by
  have := clipAt_nat (p0 :: (mids ++ [last])).length 1
  rw [show ((1 : Nat) : Int) = 1 from rfl] at this
  rw [this]; simp
 have h2 : clipAt (p0 :: (mids ++ [last])).length (-1 : Int) = (p0 :: (mids ++ [last])).length - 1 := clipAt_neg _ 1 (Nat.le_refl 1)
 simp only [Option.elim, h1, h2]
 simp
theorem zly (p0 : List Nat) (mids : List (List Nat)) (last x : List Nat) : zaa ((p0 :: (mids ++ [last])).map st) (st x) = true ↔ Gl (p0 :: (mids ++ [last])) x := by
 have hne : mids ++ [last] ≠ [] := by simp
 have g : ∀ R : List (List Nat), R ≠ [] → (Gl (p0 :: R) x ↔ (x.take p0.length = p0 ∧ zgK x R p0.length)) := by
  intro R hne
  constructor
  ·intro h
   cases h with
   | one => exact absurd rfl hne
   | cons _ g hr q =>
    rw [List.append_assoc]
    exact ⟨List.take_left, g, _, List.drop_left, q⟩
  ·rintro ⟨h1, g, t, e, q⟩
   have : x = p0 ++ g ++ t := by
    rw [List.append_assoc, ← e]
    conv => lhs; rw [← List.take_append_drop p0.length x]
    rw [h1]
   rw [this]
   exact .cons p0 g hne q
 have g0 := g _ hne
 rw [g0]
 unfold zaa
 rw [zmc]
 have e0 : (((p0 :: (mids ++ [last])).map st)[0]?.getD Str.empty) = st p0 := rfl
 have e1 : (((p0 :: (mids ++ [last])).map st).getLast?.getD Str.empty) = st last := by
  rw [← List.cons_append, List.map_append, List.map_cons (l := []), List.map_nil, List.getLast?_concat]; rfl
 rw [e0, e1, xI, xI, xI, zaX, zek, zhZ]
 by_cases h1 : x.take p0.length = p0
 ·have hb : (x.take p0.length == p0) = true := by simp [h1]
  rw [if_pos hb]
  have hp : p0.length ≤ x.length := by
   have := congrArg List.length h1
   rw [List.length_take] at this; lia
  refine zk (zeo x last mids p0.length hp) fun ih ih2 => ?_
  rw [ih]
  cases hm : zaj (st x) (mids.map st) p0.length with
  | none => simp
  | some z =>
   refine zU (ih2 z hm) fun j zz1 => ?_; subst zz1
   rw [Bool.and_eq_true, decide_eq_true_eq]
   constructor
   ·rintro ⟨a, b⟩
    refine ⟨h1, j, rfl, by lia, ?_⟩
    have e : (x.length : Int) - (last.length : Int) = ((x.length - last.length : Nat) : Int) := by lia
    rw [e, zaX, zd1, zhZ] at b
    simpa using b
   ·rintro ⟨_, j', hj, a, b⟩
    have : (j : Int) = (j' : Int) := Option.some.inj hj
    refine ⟨by lia, ?_⟩
    have e : (x.length : Int) - (last.length : Int) = ((x.length - last.length : Nat) : Int) := by lia
    rw [e, zaX, zd1, zhZ, b]
    simp
 ·have hb : ¬ ((x.take p0.length == p0) = true) := by simp [h1]
  rw [if_neg hb]
  simp [h1]
end
section
open PySem.Builtin PySem.Builtin.Str
noncomputable def yh : Tk → Nat | .star => 0 | .lit c => c | .cls c => c
noncomputable def yT : Tk → Str | .star => Str.empty | .lit c => ze7 c | .cls c => st ([91] ++ yj c ++ [93])
noncomputable def zbW : Tk → It | .star => .dot | .lit c => .chr c | .cls c => .cls c
noncomputable def zbF : Tk → Bool | .star => true | _ => false
noncomputable def chunks : List Tk → List Tk × List (List Tk)
 | [] => ([], [])
 | .star :: r => ([], (chunks r).1 :: (chunks r).2)
 | .lit c :: r => (.lit c :: (chunks r).1, (chunks r).2)
 | .cls c :: r => (.cls c :: (chunks r).1, (chunks r).2)
noncomputable def zy (toks : List Tk) : List (List Nat) := (chunks toks).1.map yh :: (chunks toks).2.map (·.map yh)
noncomputable def zal : List (List Tk) → List It
 | [] => []
 | c :: r => (match r with | [] => .dot :: c.map zbW | _ => .opn :: (c.map zbW ++ [.clo])) ++ zal r
noncomputable def y0 (toks : List Tk) : List It := (chunks toks).1.map zbW ++ zal (chunks toks).2
theorem zbg (S : Addr) : ∀ (toks : List Tk), toks.map (yw S) = ((chunks toks).1.map yT).map .str ++ xB S ((chunks toks).2.map (·.map yT))
 | [] => rfl
 | .star :: r => by
  rw [List.map_cons, zbg S r, chunks]
  simp [xB, yw]
 | .lit c :: r => by
  rw [List.map_cons, zbg S r, chunks]
  simp [yw, yT]
 | .cls c :: r => by
  rw [List.map_cons, zbg S r, chunks]
  simp [yw, yT]
theorem zaW : ∀ (toks : List Tk), (∀ t ∈ toks, zaR t) → (∀ t ∈ (chunks toks).1, zaR t ∧ zbF t = false) ∧ ∀ c ∈ (chunks toks).2, ∀ t ∈ c, zaR t ∧ zbF t = false
 | [], _ => ⟨(fun t h => by cases h), (fun c h => by cases h)⟩
 | .star :: r, h => by
  refine zk (zaW r fun t ht => h t (.tail _ ht)) fun a b => ?_
  exact ⟨fun t ht => (by cases ht), fun c hc => (List.mem_cons.mp hc).elim (fun q => q ▸ a) (b c)⟩
 | .lit k :: r, h => by
  refine zk (zaW r fun t ht => h t (.tail _ ht)) fun a b => ?_
  exact ⟨fun t ht => (List.mem_cons.mp ht).elim (fun q => q ▸ ⟨h _ (.head _), rfl⟩) (a t), b⟩
 | .cls k :: r, h => by
  refine zk (zaW r fun t ht => h t (.tail _ ht)) fun a b => ?_
  exact ⟨fun t ht => (List.mem_cons.mp ht).elim (fun q => q ▸ ⟨h _ (.head _), rfl⟩) (a t), b⟩
theorem zaI : ∀ (toks : List Tk) (b : Bool), yv b toks → zdX ((chunks toks).2.map (·.map yT)) ∧ (b = true → (chunks toks).2 ≠ [] → (chunks toks).1 ≠ [])
 | [], b, _ => ⟨trivial, fun zz h => absurd rfl h⟩
 | .star :: r, b, h => by
  refine zk (zaI r true h.2) fun a c => ?_
  refine ⟨⟨fun hne => ?_, a⟩, fun hb => ?_⟩
  ·have h1 : (chunks r).2 ≠ [] := fun q => hne (by rw [q]; rfl)
   have h2 := c rfl h1
   intro q
   exact h2 (List.map_eq_nil_iff.mp q)
  ·rw [h.1] at hb; cases hb
 | .lit k :: r, b, h => ⟨(zaI r false h).1, fun zz zz q => by cases q⟩
 | .cls k :: r, b, h => ⟨(zaI r false h).1, fun zz zz q => by cases q⟩
theorem zdV : ∀ (xs : List Str), jS xs = st (xs.flatMap fun x => x.cps.toList) := by
 have key : ∀ (xs : List Str), Str.join ("" : Str) xs = st (xs.flatMap fun x => x.cps.toList) := by
  intro xs
  induction xs with
  | nil => rfl
  | cons x xs ih =>
   cases xs with
   | nil =>
    show x = _
    simp [zbV]
   | cons y ys =>
    show x ++ ("" : Str) ++ Str.join ("" : Str) (y :: ys) = _
    rw [ih, show (("" : Str)) = st [] from rfl]
    conv => lhs; rw [← zbV x]
    rw [xU, xU]
    simp
 intro xs
 unfold jS Txt.join
 rw [StrLaws.glued_eq_join]
 exact key xs
theorem zin (t : Tk) (h : zbF t = false) (hk : zaR t) : (yT t).cps.toList = zh (zbW t) := by
 cases t with
 | star => cases h
 | lit c => simp [yT, ze7, zbW, zh]
 | cls c =>
  have hk' : c = 42 ∨ c = 63 ∨ c = 91 := hk
  rcases hk' with rfl | rfl | rfl <;> rfl
theorem zcf (c : List Tk) (h : ∀ t ∈ c, zaR t ∧ zbF t = false) : (c.map yT).flatMap (fun x => x.cps.toList) = (c.map zbW).flatMap zh := by
 induction c with
 | nil => rfl
 | cons t c ih =>
  rw [List.map_cons, List.map_cons, List.flatMap_cons, List.flatMap_cons, ih fun q hq => h q (.tail _ hq), zin t (h t (.head _)).2 (h t (.head _)).1]
theorem zpt (l : List Nat) : gS (st l) = st ([40, 63, 62, 46, 42, 63] ++ l ++ [41]) := by
 show ((Str.empty ++ st [40, 63, 62, 46, 42, 63]) ++ st l) ++ st [41] = _
 rw [show Str.empty = st [] from rfl, xU, xU, xU]
 rfl
theorem zlh (l : List Nat) : zi0 (st l) = st ([40, 63, 115, 58] ++ l ++ [41, 92, 90]) := by
 show ((Str.empty ++ st [40, 63, 115, 58]) ++ st l) ++ st [41, 92, 90] = _
 rw [show Str.empty = st [] from rfl, xU, xU, xU]
 rfl
theorem zgy : ∀ (cs : List (List Tk)), (∀ c ∈ cs, ∀ t ∈ c, zaR t ∧ zbF t = false) → (yW (cs.map (·.map yT))).flatMap (fun x => x.cps.toList) = (zal cs).flatMap zh
 | [], _ => rfl
 | [c], h => by
  have hc := zcf c (h c (.head _))
  cases c with
  | nil => rfl
  | cons t c =>
   show ((st [46, 42]).cps.toList ++ ((jS ((t :: c).map yT)).cps.toList ++ [])) = (List.flatMap zh ((.dot :: (t :: c).map zbW) ++ []))
   rw [zdV, hc]
   simp [zh]
 | c :: a :: b, h => by
  have ih := zgy (a :: b) fun q hq => h q (.tail _ hq)
  have hc := zcf c (h c (.head _))
  show ((gS (jS (c.map yT))).cps.toList ++ (yW ((a :: b).map (·.map yT))).flatMap (fun x => x.cps.toList)) = List.flatMap zh ((.opn :: (c.map zbW ++ [.clo])) ++ zal (a :: b))
  rw [zdV, zpt, hc, ih, List.flatMap_append]
  simp [zh]
theorem zml (toks : List Tk) (h : ∀ t ∈ toks, zaR t) : zi0 (jS ((chunks toks).1.map yT ++ yW ((chunks toks).2.map (·.map yT)))) = st (xz (y0 toks)) := by
 refine zk (zaW toks h) fun a b => ?_
 rw [zdV, zlh, List.flatMap_append, zcf _ a, zgy _ b]
 unfold xz y0
 rw [List.flatMap_append]
theorem zcB : ∀ (a b : List It) (ps : List (List Nat)) (s : Nat), zaF (a ++ b) ps s = (match zaF a ps s with | some (q, t) => zaF b q t | none => none)
 | [], _, _, _ => rfl
 | x :: a, b, ps, s => by
  rw [List.cons_append, zaF, zaF]
  cases zag ps s x with
  | none => rfl
  | some q => exact zcB a b q.1 q.2
theorem zbk : ∀ (c : List Tk), (∀ t ∈ c, zaR t ∧ zbF t = false) → ∀ (ps : List (List Nat)) (z : List Nat) (s : Nat), s = 0 ∨ s = 1 ∨ s = 3 → zaF (c.map zbW) (ps ++ [z]) s = some (ps ++ [z ++ c.map yh], s)
 | [], _, ps, z, s, _ => by simp [zaF]
 | t :: c, h, ps, z, s, hs => by
  have h0 := h t (.head _)
  have ih := zbk c (fun q hq => h q (.tail _ hq)) ps (z ++ [yh t]) s hs
  rw [List.map_cons, zaF]
  have hl : (ps ++ [z]).getLast? = some z := List.getLast?_concat
  have hst : zag (ps ++ [z]) s (zbW t) = some (ps ++ [z ++ [yh t]], s) := by
   cases t with
   | star => exact absurd h0.2 (by simp [zbF])
   | lit k =>
    have hk : k = 47 ∨ k = 97 ∨ k = 98 ∨ k = 117 ∨ k = 123 ∨ k = 125 := h0.1
    dsimp only [zbW, zag]
    rw [if_pos ⟨hs, hk⟩, hl]
    simp [yh]
   | cls k =>
    have hk : k = 42 ∨ k = 63 ∨ k = 91 := h0.1
    dsimp only [zbW, zag]
    rw [if_pos ⟨hs, hk⟩, hl]
    simp [yh]
  rw [hst]
  dsimp only
  rw [ih]
  simp
theorem zfZ : ∀ (cs : List (List Tk)), (∀ c ∈ cs, ∀ t ∈ c, zaR t ∧ zbF t = false) → ∀ (ps : List (List Nat)) (s : Nat), s = 0 ∨ s = 2 → ∃ s', zaF (zal cs) ps s = some (ps ++ cs.map (·.map yh), s') ∧ (cs = [] → s' = s) ∧ (cs ≠ [] → s' = 3)
 | [], _, ps, s, _ => ⟨s, by simp [zal, zaF], fun zz => rfl, fun q => absurd rfl q⟩
 | [c], h, ps, s, hs => by
  have hc := zbk c (h c (.head _)) ps []
  have h1 : zaF (.dot :: c.map zbW) ps s = some (ps ++ [c.map yh], 3) := by
   rw [zaF]
   dsimp only [zag]
   rw [if_pos hs]
   dsimp only
   rw [hc 3 (.inr (.inr rfl))]
   simp
  refine ⟨3, ?_, (fun q => by cases q), fun zz => rfl⟩
  show zaF ((.dot :: c.map zbW) ++ []) ps s = _
  rw [List.append_nil, h1]
  simp
 | c :: a :: b, h, ps, s, hs => by
  have hc := zbk c (h c (.head _)) ps []
  have h1 : zaF (.opn :: (c.map zbW ++ [.clo])) ps s = some (ps ++ [c.map yh], 2) := by
   rw [zaF]
   dsimp only [zag]
   rw [if_pos hs]
   dsimp only
   rw [zcB, hc 1 (.inr (.inl rfl))]
   simp [zaF, zag]
  refine x2 (zfZ (a :: b) (fun q hq => h q (.tail _ hq)) (ps ++ [c.map yh]) 2 (.inr rfl)) fun s' g1 g2 g3 => ?_
  refine ⟨3, ?_, (fun q => by cases q), fun zz => rfl⟩
  show zaF ((.opn :: (c.map zbW ++ [.clo])) ++ zal (a :: b)) ps s = _
  rw [zcB, h1]
  dsimp only
  rw [g1, g3 (by simp)]
  simp
theorem zmx (toks : List Tk) (h : ∀ t ∈ toks, zaR t) : ∃ s, zaF (y0 toks) [[]] 0 = some (zy toks, s) ∧ (s = 0 ∨ s = 3) := by
 refine zk (zaW toks h) fun a b => ?_
 have h1 := zbk (chunks toks).1 a [] [] 0 (.inl rfl)
 refine x2 (zfZ (chunks toks).2 b [(chunks toks).1.map yh] 0 (.inl rfl)) fun s' g1 g2 g3 => ?_
 refine ⟨s', ?_, ?_⟩
 ·unfold y0
  rw [zcB]
  rw [List.nil_append, List.nil_append] at h1
  rw [h1]
  exact g1
 ·by_cases q : (chunks toks).2 = []
  ·exact .inl (g2 q)
  ·exact .inr (g3 q)
end
noncomputable def Tn (P : Nat → Prop) : List Tk → List Nat → Prop
 | [], x => x = []
 | .lit c :: r, x => ∃ t, x = c :: t ∧ Tn P r t
 | .cls c :: r, x => ∃ t, x = c :: t ∧ Tn P r t
 | .star :: r, x => ∃ g t, x = g ++ t ∧ (∀ c ∈ g, ¬ P c) ∧ Tn P r t
noncomputable def nop (zz : Nat) : Prop := False
noncomputable abbrev Tm := Tn nop
theorem zi5 (c : Nat) (p : List Nat) (ps : List (List Nat)) (x : List Nat) : Gl ((c :: p) :: ps) x ↔ ∃ t, x = c :: t ∧ Gl (p :: ps) t := by
 constructor
 ·intro h
  cases h with
  | one => exact ⟨p, rfl, .one p⟩
  | cons _ g hr q => exact ⟨_, rfl, .cons p g hr q⟩
 ·rintro ⟨t, rfl, h⟩
  cases h with
  | one => exact .one (c :: p)
  | cons _ g hr q => exact .cons (c :: p) g hr q
theorem zoH (p : List Nat) (ps : List (List Nat)) (x : List Nat) : Gl ([] :: p :: ps) x ↔ ∃ g t, x = g ++ t ∧ Gl (p :: ps) t := by
 constructor
 ·intro h
  cases h with
  | cons _ g hr q => exact ⟨g, _, rfl, q⟩
 ·rintro ⟨g, t, rfl, h⟩
  exact .cons [] g (by simp) h
theorem ziH : ∀ (toks : List Tk) (x : List Nat), Gl (zy toks) x ↔ Tm toks x
 | [], x => by
  constructor
  ·intro h
   have h' : Gl [[]] x := h
   cases h' with
   | one => exact rfl
   | cons zz zz hr zz => exact absurd rfl hr
  ·intro h; rw [show x = [] from h]; exact .one []
 | .lit c :: r, x => (zi5 _ _ _ x).trans (exists_congr fun t => and_congr_right fun zz => ziH r t)
 | .cls c :: r, x => (zi5 _ _ _ x).trans (exists_congr fun t => and_congr_right fun zz => ziH r t)
 | .star :: r, x => (zoH _ _ x).trans (exists_congr fun g => exists_congr fun t => and_congr_right fun zz => (ziH r t).trans ⟨fun h => ⟨fun zz zz h => h, h⟩, fun h => h.2⟩)
noncomputable def zx : List Tk → List Nat
 | [] => []
 | .star :: r => zx r
 | .lit c :: r => c :: zx r
 | .cls c :: r => c :: zx r
theorem zct {P : Nat → Prop} (d : Nat) : ∀ {toks : List Tk} {x : List Nat}, Tn P toks x → (zx toks).count d ≤ x.count d
 | [], _, _ => Nat.zero_le _
 | .lit c :: r, _, h => by
  refine zQ h fun t zz1 q => ?_; subst zz1
  show List.count d (c :: zx r) ≤ _
  rw [List.count_cons, List.count_cons]
  exact Nat.add_le_add_right (zct d q) _
 | .cls c :: r, _, h => by
  refine zQ h fun t zz1 q => ?_; subst zz1
  show List.count d (c :: zx r) ≤ _
  rw [List.count_cons, List.count_cons]
  exact Nat.add_le_add_right (zct d q) _
 | .star :: r, _, h => by
  refine xf h fun g t zz2 zz q => ?_; subst zz2
  rw [List.count_append]
  exact Nat.le_trans (zct (toks := r) d q) (Nat.le_add_left _ _)
noncomputable def yO (c : Nat) : Prop := c = 123 ∨ c = 125 ∨ c = 47
theorem ziQ : ∀ {toks : List Tk} {x : List Nat}, Tm toks x → (∀ d, yO d → (zx toks).count d = x.count d) → Tn yO toks x
 | [], _, h, _ => h
 | .lit c :: r, _, h, hc => by
  refine zQ h fun t zz1 q => ?_; subst zz1
  refine ⟨t, rfl, ziQ q fun d hd => ?_⟩
  have this : List.count d (c :: zx r) = _ := hc d hd
  rw [List.count_cons, List.count_cons] at this
  exact Nat.add_right_cancel this
 | .cls c :: r, _, h, hc => by
  refine zQ h fun t zz1 q => ?_; subst zz1
  refine ⟨t, rfl, ziQ q fun d hd => ?_⟩
  have this : List.count d (c :: zx r) = _ := hc d hd
  rw [List.count_cons, List.count_cons] at this
  exact Nat.add_right_cancel this
 | .star :: r, _, h, hc => by
  refine xf h fun g t zz2 zz q => ?_; subst zz2
  have key : ∀ d, yO d → g.count d = 0 ∧ (zx r).count d = List.count d t := fun d hd => by
   have h1 : List.count d (zx r) = _ := hc d hd
   have h2 := zct d q
   rw [List.count_append] at h1
   have h3 : List.count d g = 0 := Nat.le_zero.mp (Nat.le_of_add_le_add_right (Nat.le_trans (Nat.le_of_eq h1.symm) (Nat.le_trans h2 (Nat.le_of_eq (Nat.zero_add _).symm))))
   exact ⟨h3, by rw [h1, h3, Nat.zero_add]⟩
  exact ⟨g, t, rfl, fun c hcg hd => List.count_eq_zero.mp (key c hd).1 hcg, ziQ q fun d hd => (key d hd).2⟩
theorem zhh {P : Nat → Prop} (d : Nat) (hd : P d) (Q : List Tk) : ∀ (A : List Tk) (u v : List Nat), d ∉ zx A → d ∉ u → Tn P (A ++ .lit d :: Q) (u ++ d :: v) → Tn P A u ∧ Tn P Q v := by
 have one : ∀ {c : Nat} {u v t : List Nat}, u ++ d :: v = c :: t → (u = [] ∧ d = c ∧ v = t) ∨ ∃ w, u = c :: w ∧ w ++ d :: v = t := fun {c u v t} e => by
  cases u with
  | nil => exact .inl ⟨rfl, (List.cons.inj e).1, (List.cons.inj e).2⟩
  | cons a w => exact .inr ⟨w, by rw [(List.cons.inj e).1], (List.cons.inj e).2⟩
 intro A
 induction A with
 | nil =>
  intro u v hA hu h
  refine zQ h fun t e h => ?_
  rcases one e with ⟨rfl, _, rfl⟩ | ⟨w, rfl, _⟩
  ·exact ⟨rfl, h⟩
  ·exact absurd (.head _) hu
 | cons a A ih =>
  intro u v hA hu h
  have step : ∀ c, zx (a :: A) = c :: zx A → (∃ t, u ++ d :: v = c :: t ∧ Tn P (A ++ .lit d :: Q) t) → ∃ w, u = c :: w ∧ Tn P A w ∧ Tn P Q v := fun c hc h => by
   refine zQ h fun t e h => ?_
   rw [hc] at hA
   rcases one e with ⟨_, e, _⟩ | ⟨w, e1, e2⟩
   ·exact absurd (e ▸ .head _) hA
   ·rw [e1] at hu
    exact ⟨w, e1, ih w v (fun z => hA (.tail _ z)) (fun z => hu (.tail _ z)) (e2 ▸ h)⟩
  cases a with
  | lit c => exact (step c rfl h).elim fun w q => ⟨⟨w, q.1, q.2.1⟩, q.2.2⟩
  | cls c => exact (step c rfl h).elim fun w q => ⟨⟨w, q.1, q.2.1⟩, q.2.2⟩
  | star =>
   refine xf h fun g t hx hg q => ?_
   have hpre : ∃ u', u = g ++ u' ∧ t = u' ++ d :: v := by
    rcases List.append_eq_append_iff.mp hx with ⟨w, h1, h2⟩ | ⟨w, h1, h2⟩
    ·cases w with
     | nil => exact ⟨[], by rw [h1, List.append_nil, List.append_nil], h2.symm⟩
     | cons b w => exact absurd ((List.cons.inj h2).1 ▸ hd) (hg b (by rw [h1]; exact List.mem_append_right _ (.head _)))
    ·exact ⟨w, h1, h2⟩
   refine zQ hpre fun u' zz1 zz2 => ?_; subst zz1; subst zz2
   refine zk (ih u' v hA (fun z => hu (List.mem_append_right _ z)) q) fun a1 a2 => ?_
   exact ⟨⟨g, u', rfl, hg, a1⟩, a2⟩
noncomputable def zll (c : Nat) : Prop := c = 97 ∨ c = 98 ∨ c = 117 ∨ c = 42 ∨ c = 63 ∨ c = 91
noncomputable def zcw (c : Nat) : Tk := if c = 42 ∨ c = 63 ∨ c = 91 then .cls c else .lit c
noncomputable def yr : Option Str → List Tk
 | none => [.star]
 | some x => x.cps.toList.map zcw
noncomputable def xk (s : Sp) : List Tk := .lit 123 :: (yr s.1 ++ .lit 125 :: yr s.2)
noncomputable def z4 : List Sp → List Tk
 | [] => []
 | s :: r => (match r with | [] => xk s | _ => xk s ++ .lit 47 :: z4 r)
noncomputable def zaK (n : Str × Str) : List Nat := 123 :: (n.1.cps.toList ++ 125 :: n.2.cps.toList)
noncomputable def xL : List (Str × Str) → List Nat
 | [] => []
 | n :: r => (match r with | [] => zaK n | _ => zaK n ++ 47 :: xL r)
noncomputable def zb4 (x : Str) : Prop := ∀ c ∈ x.cps.toList, zll c
noncomputable def zdN (s : Sp) : Prop := (∀ x, s.1 = some x → zb4 x) ∧ (∀ x, s.2 = some x → zb4 x)
noncomputable def zgS (n : Str × Str) : Prop := zb4 n.1 ∧ zb4 n.2
noncomputable def zfn (n : Str × Str) (s : Sp) : Prop := (s.1 = none ∨ s.1 = some n.1) ∧ (s.2 = none ∨ s.2 = some n.2)
noncomputable def zaJ : List (Str × Str) → List Sp → Prop
 | n :: ns, s :: ss => zfn n s ∧ zaJ ns ss
 | [], [] => True
 | _, _ => False
theorem zer {c : Nat} (h : zll c) : ¬ yO c := by unfold zll at h; unfold yO; lia
theorem yf : ∀ (a b : List Tk), zx (a ++ b) = zx a ++ zx b
 | [], _ => rfl
 | .star :: a, b => by rw [List.cons_append, zx, zx, yf a b]
 | .lit c :: a, b => by rw [List.cons_append, zx, zx, yf a b, List.cons_append]
 | .cls c :: a, b => by rw [List.cons_append, zx, zx, yf a b, List.cons_append]
theorem zc5 : ∀ (l : List Nat), zx (l.map zcw) = l
 | [] => rfl
 | c :: l => by
  rw [List.map_cons]
  unfold zcw
  split
  ·rw [zx]; exact congrArg _ (zc5 l)
  ·rw [zx]; exact congrArg _ (zc5 l)
theorem zcO {p : Option Str} (h : ∀ x, p = some x → zb4 x) (d : Nat) (hd : yO d) : d ∉ zx (yr p) := by
 cases p with
 | none => simp [yr, zx]
 | some x =>
  unfold yr
  rw [zc5]
  exact fun q => zer (h x rfl d q) hd
theorem zeC {x : Str} (h : zb4 x) (d : Nat) (hd : yO d) : d ∉ x.cps.toList := fun q => zer (h d q) hd
theorem znO {P : Nat → Prop} : ∀ (l u : List Nat), Tn P (l.map zcw) u → u = l
 | [], u, h => h
 | c :: l, u, h => by
  have e : ∃ t, u = c :: t ∧ Tn P (l.map zcw) t := by
   rw [List.map_cons] at h
   unfold zcw at h
   split at h <;> exact h
  refine zQ e fun t zz1 q => ?_; subst zz1
  rw [znO l _ q]
theorem znN : ∀ (l : List Nat), Tm (l.map zcw) l
 | [] => rfl
 | c :: l => by
  rw [List.map_cons]
  unfold zcw
  split <;> exact ⟨_, rfl, znN l⟩
theorem zea : ∀ {a b : List Tk} {u v : List Nat}, Tm a u → Tm b v → Tm (a ++ b) (u ++ v)
 | [], _, _, _, q, h => by rw [show _ = [] from q]; exact h
 | .lit c :: a, _, _, _, q, h => by
  refine zQ q fun t zz1 q' => ?_; subst zz1
  exact ⟨_, rfl, zea q' h⟩
 | .cls c :: a, _, _, _, q, h => by
  refine zQ q fun t zz1 q' => ?_; subst zz1
  exact ⟨_, rfl, zea q' h⟩
 | .star :: a, _, _, _, q, h => by
  refine xf q fun g t zz2 hg q' => ?_; subst zz2
  exact ⟨g, _, by rw [List.append_assoc], hg, zea q' h⟩
theorem zi2 {P : Nat → Prop} {p : Option Str} {x : Str} (h : Tn P (yr p) x.cps.toList) : p = none ∨ p = some x := by
 cases p with
 | none => exact .inl rfl
 | some y =>
  have := znO _ _ h
  right
  have e : x = y := by rw [← zbV x, ← zbV y, this]
  rw [e]
theorem ziZ {p : Option Str} {x : Str} (h : p = none ∨ p = some x) : Tm (yr p) x.cps.toList := by
 rcases h with rfl | rfl
 ·exact ⟨x.cps.toList, [], (List.append_nil _).symm, fun zz zz h => h, rfl⟩
 ·exact znN _
theorem ziB {s : Sp} {n : Str × Str} (hs : zdN s) (hn : zgS n) (h : Tn yO (xk s) (zaK n)) : zfn n s := by
 unfold xk zaK at h
 refine zQ h fun t e q => ?_
 refine zk (zhh 125 (.inr (.inl rfl)) (yr s.2) (yr s.1) _ _ (zcO hs.1 125 (.inr (.inl rfl))) (zeC hn.1 125 (.inr (.inl rfl))) ((List.cons.inj e).2 ▸ q)) fun a b => ?_
 exact ⟨zi2 a, zi2 b⟩
theorem ziW {s : Sp} {n : Str × Str} (h : zfn n s) : Tm (xk s) (zaK n) :=
 ⟨_, rfl, zea (ziZ h.1) ⟨_, rfl, ziZ h.2⟩⟩
theorem zju {s : Sp} (hs : zdN s) : 47 ∉ zx (xk s) := by
 unfold xk
 rw [zx, yf, zx]
 intro q
 rcases List.mem_cons.mp q with q | q
 ·cases q
 ·rcases List.mem_append.mp q with q | q
  ·exact zcO hs.1 47 (.inr (.inr rfl)) q
  ·rcases List.mem_cons.mp q with q | q
   ·cases q
   ·exact zcO hs.2 47 (.inr (.inr rfl)) q
theorem zjD {n : Str × Str} (hn : zgS n) : 47 ∉ zaK n := by
 unfold zaK
 intro q
 rcases List.mem_cons.mp q with q | q
 ·cases q
 ·rcases List.mem_append.mp q with q | q
  ·exact zeC hn.1 47 (.inr (.inr rfl)) q
  ·rcases List.mem_cons.mp q with q | q
   ·cases q
   ·exact zeC hn.2 47 (.inr (.inr rfl)) q
theorem ziT : ∀ (ss : List Sp) (ns : List (Str × Str)), ns.length = ss.length → (∀ s ∈ ss, zdN s) → (∀ n ∈ ns, zgS n) → Tn yO (z4 ss) (xL ns) → zaJ ns ss
 | [], [], _, _, _, _ => trivial
 | [], n :: ns, hl, _, _, _ => by cases hl
 | s :: ss, [], hl, _, _, _ => by cases hl
 | [s], [n], _, hs, hn, h => ⟨ziB (hs s (.head _)) (hn n (.head _)) h, trivial⟩
 | [s], n :: m :: ns, hl, _, _, _ => by simp at hl
 | s :: t :: ss, [n], hl, _, _, _ => by simp at hl
 | s :: t :: ss, n :: m :: ns, hl, hs, hn, h => by
  have h' : Tn yO (xk s ++ .lit 47 :: z4 (t :: ss)) (zaK n ++ 47 :: xL (m :: ns)) := h
  refine zk (zhh 47 (.inr (.inr rfl)) _ _ _ _ (zju (hs s (.head _))) (zjD (hn n (.head _))) h') fun a b => ?_
  exact ⟨ziB (hs s (.head _)) (hn n (.head _)) a, ziT (t :: ss) (m :: ns) (by simpa using hl) (fun q hq => hs q (.tail _ hq)) (fun q hq => hn q (.tail _ hq)) b⟩
theorem ziM : ∀ (ss : List Sp) (ns : List (Str × Str)), zaJ ns ss → Tm (z4 ss) (xL ns)
 | [], [], _ => rfl
 | [], n :: ns, h => h.elim
 | s :: ss, [], h => h.elim
 | [s], [n], h => ziW h.1
 | [s], n :: m :: ns, h => h.2.elim
 | s :: t :: ss, [n], h => h.2.elim
 | s :: t :: ss, n :: m :: ns, h => zea (ziW h.1) ⟨_, rfl, ziM (t :: ss) (m :: ns) h.2⟩
theorem zeP {s : Sp} {n : Str × Str} (hs : zdN s) (hn : zgS n) (d : Nat) (hd : yO d) : (zx (xk s)).count d = (zaK n).count d := by
 unfold xk zaK
 rw [zx, yf, zx, List.count_cons, List.count_cons, List.count_append, List.count_append, List.count_cons, List.count_cons,
  List.count_eq_zero.mpr (zcO hs.1 d hd), List.count_eq_zero.mpr (zcO hs.2 d hd), List.count_eq_zero.mpr (zeC hn.1 d hd), List.count_eq_zero.mpr (zeC hn.2 d hd)]
theorem zen : ∀ (ss : List Sp) (ns : List (Str × Str)), ns.length = ss.length → (∀ s ∈ ss, zdN s) → (∀ n ∈ ns, zgS n) → ∀ d, yO d → (zx (z4 ss)).count d = (xL ns).count d
 | [], [], _, _, _, _, _ => rfl
 | [], n :: ns, hl, _, _, _, _ => by cases hl
 | s :: ss, [], hl, _, _, _, _ => by cases hl
 | [s], [n], _, hs, hn, d, hd => zeP (hs s (.head _)) (hn n (.head _)) d hd
 | [s], n :: m :: ns, hl, _, _, _, _ => by simp at hl
 | s :: t :: ss, [n], hl, _, _, _, _ => by simp at hl
 | s :: t :: ss, n :: m :: ns, hl, hs, hn, d, hd => by
  have e1 : z4 (s :: t :: ss) = xk s ++ .lit 47 :: z4 (t :: ss) := rfl
  have e2 : xL (n :: m :: ns) = zaK n ++ 47 :: xL (m :: ns) := rfl
  rw [e1, e2, yf, zx, List.count_append, List.count_append, List.count_cons, List.count_cons, zeP (hs s (.head _)) (hn n (.head _)) d hd, zen (t :: ss) (m :: ns) (by simpa using hl) (fun q hq => hs q (.tail _ hq)) (fun q hq => hn q (.tail _ hq)) d hd]
theorem zjo (ss : List Sp) (ns : List (Str × Str)) (hl : ns.length = ss.length) (hs : ∀ s ∈ ss, zdN s) (hn : ∀ n ∈ ns, zgS n) : Gl (zy (z4 ss)) (xL ns) ↔ zaJ ns ss := by
 rw [ziH]
 exact ⟨fun h => ziT ss ns hl hs hn (ziQ h (zen ss ns hl hs hn)), fun h => ziM ss ns h⟩
section
open PySem.Builtin PySem.Builtin.Str
theorem zed (xs : List Str) : Txt.join ("/" : Str) xs = Str.join ("/" : Str) xs := by exact StrLaws.glued_eq_join _ _
theorem zn0 {c : Nat} (h : zll c) : qch c = st (zf (zcw c)) := by
 rcases h with rfl | rfl | rfl | rfl | rfl | rfl <;> (unfold qch; first | (rw [if_pos (by decide +kernel)]; rfl) | (rw [if_neg (by decide +kernel)]; rfl))
theorem zjT {x : Str} (h : zb4 x) : y8 x = st ((x.cps.toList.map zcw).flatMap zf) := by
 have e : y8 x = jS (x.cps.toList.map qch) := rfl
 rw [e, zdV]
 congr 1
 unfold zb4 at h
 generalize x.cps.toList = l at h
 induction l with
 | nil => rfl
 | cons c l ih =>
  rw [List.map_cons, List.map_cons, List.flatMap_cons, List.flatMap_cons, ih fun q hq => h q (.tail _ hq), zn0 (h c (.head _))]
theorem zhn {p : Option Str} (h : ∀ x, p = some x → zb4 x) : xh true p = st ((yr p).flatMap zf) := by
 cases p with
 | none => rfl
 | some x => exact zjT (h x rfl)
theorem zg0 {s : Sp} (h : zdN s) : xm true s = st ((xk s).flatMap zf) := by
 unfold xm xk
 rw [zhn h.1, zhn h.2]
 show (((st [123]) ++ _) ++ (st [125])) ++ _ = _
 rw [xU, xU, xU]
 simp [zf]
theorem zjp : ∀ (ss : List Sp), (∀ s ∈ ss, zdN s) → Txt.join ("/" : Str) (ss.map (xm true)) = st ((z4 ss).flatMap zf) := by
 intro ss h
 rw [zed]
 induction ss with
 | nil => rfl
 | cons s r ih =>
  cases r with
  | nil => exact zg0 (h s (.head _))
  | cons t r =>
   show xm true s ++ ("/" : Str) ++ Str.join ("/" : Str) ((t :: r).map (xm true)) = _
   rw [ih fun q hq => h q (.tail _ hq), zg0 (h s (.head _))]
   show (st _ ++ st [47]) ++ st _ = _
   rw [xU, xU]
   have : z4 (s :: t :: r) = xk s ++ .lit 47 :: z4 (t :: r) := rfl
   rw [this]
   simp [zf]
theorem zmJ {c : Nat} (h : zll c) : zaR (zcw c) := by
 rcases h with rfl | rfl | rfl | rfl | rfl | rfl <;> simp [zcw, zaR]
theorem zi4 {p : Option Str} (h : ∀ x, p = some x → zb4 x) : ∀ t ∈ yr p, zaR t := by
 cases p with
 | none => intro t ht; simp [yr] at ht; subst ht; trivial
 | some x =>
  intro t ht
  refine zQ (List.mem_map.mp ht) fun c hc zz2 => ?_; subst zz2
  exact zmJ (h x rfl c hc)
theorem ziO {s : Sp} (h : zdN s) : ∀ t ∈ xk s, zaR t := by
 intro t ht
 rcases List.mem_cons.mp ht with rfl | ht
 ·simp [zaR]
 ·rcases List.mem_append.mp ht with ht | ht
  ·exact zi4 h.1 t ht
  ·rcases List.mem_cons.mp ht with rfl | ht
   ·simp [zaR]
   ·exact zi4 h.2 t ht
theorem zi8 : ∀ (ss : List Sp), (∀ s ∈ ss, zdN s) → ∀ t ∈ z4 ss, zaR t
 | [], _, t, ht => by cases ht
 | [s], h, t, ht => ziO (h s (.head _)) t ht
 | s :: u :: r, h, t, ht => by
  have e : z4 (s :: u :: r) = xk s ++ .lit 47 :: z4 (u :: r) := rfl
  rw [e] at ht
  rcases List.mem_append.mp ht with ht | ht
  ·exact ziO (h s (.head _)) t ht
  ·rcases List.mem_cons.mp ht with rfl | ht
   ·simp [zaR]
   ·exact zi8 (u :: r) (fun q hq => h q (.tail _ hq)) t ht
theorem zeF : ∀ (l : List Nat) (b : Bool) (r : List Tk), (∀ b', yv b' r) → yv b (l.map zcw ++ r)
 | [], b, r, h => h b
 | c :: l, b, r, h => by
  rw [List.map_cons, List.cons_append]
  unfold zcw
  split
  ·exact zeF l false r h
  ·exact zeF l false r h
theorem zd5 (p : Option Str) (r : List Tk) (h : ∀ b', yv b' r) : yv false (yr p ++ r) := by
 cases p with
 | none => exact ⟨rfl, h true⟩
 | some x => exact zeF _ _ r h
theorem zeZ (s : Sp) (r : List Tk) (h : ∀ b', yv b' r) (b : Bool) : yv b (xk s ++ r) := by
 unfold xk
 rw [List.cons_append]
 show yv false _
 rw [List.append_assoc]
 refine zd5 s.1 _ fun b' => ?_
 rw [List.cons_append]
 show yv false _
 exact zd5 s.2 r h
theorem ze5 : ∀ (ss : List Sp) (b : Bool), yv b (z4 ss)
 | [], _ => trivial
 | [s], b => by
  have := zeZ s [] (fun zz => trivial) b
  rw [List.append_nil] at this
  exact this
 | s :: u :: r, b => by
  have e : z4 (s :: u :: r) = xk s ++ .lit 47 :: z4 (u :: r) := rfl
  rw [e]
  exact zeZ s (.lit 47 :: z4 (u :: r)) (fun b' => ze5 (u :: r) false) b
theorem zeh {ss : List Sp} (hne : ss ≠ []) (hstar : ∀ s ∈ ss, s.1 = none ∨ s.2 = none) : (chunks (z4 ss)).2 ≠ [] := by
 have key : ∀ (l : List Tk), Tk.star ∈ l → (chunks l).2 ≠ [] := by
  intro l
  induction l with
  | nil => intro h; cases h
  | cons t l ih =>
   intro h
   cases t with
   | star => intro q; cases q
   | lit c => exact ih (by simpa using h)
   | cls c => exact ih (by simpa using h)
 have stepstar : ∀ s : Sp, (s.1 = none ∨ s.2 = none) → Tk.star ∈ xk s := by
  intro s h
  unfold xk
  rcases h with h | h <;> rw [h] <;> simp [yr]
 cases ss with
 | nil => exact absurd rfl hne
 | cons s r =>
  have hs := stepstar s (hstar s (.head _))
  refine key _ ?_
  cases r with
  | nil => exact hs
  | cons t r => exact List.mem_append_left _ hs
theorem zcz {toks : List Tk} (h : (chunks toks).2 ≠ []) : ∃ p0 mids last, zy toks = p0 :: (mids ++ [last]) := by
 unfold zy
 have hne : (chunks toks).2.map (·.map yh) ≠ [] := fun q => h (List.map_eq_nil_iff.mp q)
 exact ⟨_, _, _, by rw [List.dropLast_concat_getLast hne]⟩
noncomputable def zae (n : Str × Str) : Str := ((("{" : Str) ++ n.1) ++ ("}" : Str)) ++ n.2
theorem zhk (n : Str × Str) : zae n = st (zaK n) := by
 unfold zae zaK
 conv => lhs; rw [← zbV n.1, ← zbV n.2]
 show (((st [123]) ++ _) ++ (st [125])) ++ _ = _
 rw [xU, xU, xU]
 simp
theorem zgP : ∀ (ns : List (Str × Str)), Txt.join ("/" : Str) (ns.map zae) = st (xL ns) := by
 intro ns
 rw [zed]
 induction ns with
 | nil => rfl
 | cons s r ih =>
  cases r with
  | nil => exact zhk s
  | cons t r =>
   show zae s ++ ("/" : Str) ++ Str.join ("/" : Str) ((t :: r).map zae) = _
   rw [ih, zhk]
   show (st _ ++ st [47]) ++ st _ = _
   rw [xU, xU]
   have : xL (s :: t :: r) = zaK s ++ 47 :: xL (t :: r) := rfl
   rw [this]
   simp
theorem ziw (ss : List Sp) (ns : List (Str × Str)) (hne : ss ≠ []) (hstar : ∀ s ∈ ss, s.1 = none ∨ s.2 = none) (hl : ns.length = ss.length) (hs : ∀ s ∈ ss, zdN s) (hn : ∀ n ∈ ns, zgS n) :
  zaa ((zy (z4 ss)).map st) (st (xL ns)) = true ↔ zaJ ns ss := by
 refine zoE (zcz (zeh hne hstar)) fun p0 mids last e => ?_
 rw [← zjo ss ns hl hs hn, e, zly]
end
section
open PySem.Builtin PySem.Builtin.Str
section
variable {prog : Program} {w : World} {A : Around} {E : Value → Shared → Prop} {s : Shared} {d : Addr} {f : Int → Option Value}
theorem zf0 {c : Nat} {x : Str} {t : Tok} {Q : Mapped → Shared → Prop} (hm : s.heap.MapOf (intKind prog w) d f) (hf : f c = some (.str x t)) (h : ∀ tk, Q (.text x) { s with toks := tk }) :
  wpAny (model prog w) A (tableLookup (.ref d) c) Q E s := by
 refine wpAny_bind (wpAny_attempt (wpAny_bind (wpAny_mkInt ?_)))
 refine wpAny_getItem_of (intKind_is prog w c _) hm hf ?_
 refine wpAny_bind (wpAny_of_eq (a := none) (by first | rfl | kernel_rfl) ?_)
 refine wpAny_bind (wpAny_of_eq (a := some x) (by first | rfl | kernel_rfl) ?_)
 exact wpAny_pure (h _)
theorem zjm {c : Nat} {Q : Mapped → Shared → Prop} (hd : (d == sysModules) = false) (hh : A.handled = none) (hm : s.heap.MapOf (intKind prog w) d f) (hf : f c = none) (h : ∀ h' tk, (∀ b o, s.heap.get? b = some o → h'.get? b = some o) → Q .keep { s with heap := h', toks := tk }) :
  wpAny (model prog w) A (tableLookup (.ref d) c) Q E s := by
 refine wpAny_bind (wpAny_attempt (wpAny_bind (wpAny_mkInt ?_)))
 refine wpAny_getItem_missing_of (s := { s with toks := s.toks + 1 }) (intKind_is prog w c _) hd hh hm hf fun h' e hx => ?_
 refine xf hx.there fun ob t he hcls hdt => ?_
 have hsub : isSubtype (.type "KeyError") (.type "LookupError") = pure true := by rw [isSubtype_type]; kernel_rfl
 refine wpAny_bind (wpAny_isInstance (T := "KeyError") (b := true) ⟨_, he, hcls⟩ hsub ?_)
 rw [if_pos rfl]
 exact wpAny_bind (wpAny_rule (wpAny_pure (h _ _ hx.keeps)))
end
end
section
open PySem.Builtin PySem.Builtin.Str
section
variable {prog : Program} {w : World} {A : Around} {E : Value → Shared → Prop} {s : Shared} {d : Addr} {f : Int → Option Value}
theorem zjH {β : Type} (c : Nat) (b : β) (g : Nat → β → Sem (ForInStep β)) : forIn (#[c] : Array Nat) b g = (do match ← g c b with | .done b => pure b | .yield b => pure b) := by
 rw [← Array.forIn_toList]
 simp only [List.forIn_cons, List.forIn_nil]
 refine congrArg (g c b >>= ·) (funext fun x => ?_)
 cases x <;> rfl
theorem zfm {x : Str} {Q : Fin → Shared → Prop} (hx : x.length ≤ sizeLine) (h : ∀ t tk, Q (.done (.ret (.str x t))) { s with toks := tk }) : wpAny (model prog w) A (retStr x) Q E s := by
 unfold retStr
 refine wpAny_bind (wpAny_mkStr ?_ hx)
 exact wpAny_pure (h _ _)
theorem zk6 {β : Type} {c : Nat} {b : β} {g : Nat → β → Sem (ForInStep β)} {Q : β → Shared → Prop} {E : Value → Shared → Prop} {A : Around} {s : Shared} (h : wpAny (model prog w) A (g c b) (fun r s => match r with | .done b => Q b s | .yield b => Q b s) E s) : wpAny (model prog w) A (forIn (#[c] : Array Nat) b g) Q E s := by
 rw [zjH]
 refine wpAny_bind (wpAny_mono h (fun r s' q => ?_) fun zz zz e => e)
 cases r <;> exact wpAny_pure q
theorem znu {α : Type} {c : Prop} [i : Decidable c] {x y : Sem α} {Q : α → Shared → Prop} {E : Value → Shared → Prop} {A : Around} {s : Shared} (hc : c) (h : wpAny (model prog w) A x Q E s) : wpAny (model prog w) A (if c then x else y) Q E s := by
 rw [if_pos hc]; exact h
theorem zcm {α : Type} {c : Prop} [i : Decidable c] {x y : Sem α} {Q : α → Shared → Prop} {E : Value → Shared → Prop} {A : Around} {s : Shared} (hc : ¬ c) (h : wpAny (model prog w) A y Q E s) : wpAny (model prog w) A (if c then x else y) Q E s := by
 rw [if_neg hc]; exact h
theorem zeT {c : Nat} {t : Tok} {Q : Value → Shared → Prop} (hc : c < 128) (hd : (d == sysModules) = false) (hh : A.handled = none) (hm : s.heap.MapOf (intKind prog w) d f) (hf : f c = none)
  (h : ∀ h' tk t', (∀ b o, s.heap.get? b = some o → h'.get? b = some o) → Q (.str ⟨#[c]⟩ t') { s with heap := h', toks := tk }) :
  wpAny (model prog w) A (call (.builtin "str.translate") [.str ⟨#[c]⟩ t, .ref d]) Q E s := by
 refine wpAny_call (codeAny_call_builtin F.slot_str_translate.plain F.entry_str_translate (F.slot_str_translate.check _ _ _ _ _ _ _ _ (typeIs_str _ _ _) (F.args_str_translate_2 _ _) ?_))
 refine wpAny_bind (wpAny_of_eq (a := (Value.str ⟨#[c]⟩ t, ⟨#[c]⟩, Value.ref d)) (by rfl) ?_)
 have hfast : ((#[c] : Array Nat).all fun x => decide (x < 128)) = true := by simp [hc]
 refine zcm (by intro h; cases h) (wpAny_bind (zk6 (zcm (by intro h; cases h) (znu hfast (wpAny_bind (zjm hd hh hm hf fun h' tk k => ?_))))))
 refine wpAny_bind (wpAny_pure (wpAny_pure ?_))
 exact zcm (by intro h; cases h) (zfm (by show (1:Nat) ≤ sizeLine; decide) fun t' tk' => h h' tk' t' k)
theorem ze0 {c : Nat} {t u : Tok} {a b : Nat} {Q : Value → Shared → Prop} (hc : c < 128) (hm : s.heap.MapOf (intKind prog w) d f) (hf : f c = some (.str (⟨#[a, b]⟩ : Str) u))
  (h : ∀ tk t', Q (.str ⟨#[a, b]⟩ t') { s with toks := tk }) :
  wpAny (model prog w) A (call (.builtin "str.translate") [.str ⟨#[c]⟩ t, .ref d]) Q E s := by
 refine wpAny_call (codeAny_call_builtin F.slot_str_translate.plain F.entry_str_translate (F.slot_str_translate.check _ _ _ _ _ _ _ _ (typeIs_str _ _ _) (F.args_str_translate_2 _ _) ?_))
 refine wpAny_bind (wpAny_of_eq (a := (Value.str ⟨#[c]⟩ t, ⟨#[c]⟩, Value.ref d)) (by rfl) ?_)
 have hfast : ((#[c] : Array Nat).all fun x => decide (x < 128)) = true := by simp [hc]
 refine zcm (by intro h; cases h) (wpAny_bind (zk6 (zcm (by intro h; cases h) (znu hfast (wpAny_bind (zf0 hm hf fun tk => ?_))))))
 refine wpAny_bind (wpAny_pure (wpAny_bind (wpAny_rule ?_)))
 refine zcm (by intro h; cases h) (wpAny_bind (zf0 (hm : Heap.MapOf (intKind prog w) _ d f) hf fun tk' => ?_))
 refine wpAny_pure ?_
 exact zcm (by intro h; cases h) (zfm (by show (2:Nat) ≤ sizeLine; decide) fun t' tk'' => h tk'' t')
end
end
section
section
variable {G : Gd} {k n : Nat} {cf : Cf} {A : Around} {X : List Addr} {s : Shared} {env : Env} {K : Kn} {ρ : Rho}
theorem zfK (ok : zZ G cf k) (c : Cxt G k A X s env K ρ) {f : Str} {p pos : Pos} {a : Expr} {as : List Expr} {id : String} {ds : List D} (hf : evD cf n K ρ (.Name f p) = some (.blt id)) (ha : evL cf n K ρ (a :: as) = some ds) {Q E}
  (h : ∀ s₁ vs, Gr G s s₁ → zad (Rv G.C X s₁.heap) ds vs → wpAny (model G.prog G.w) A (call (.builtin id) vs) Q E s₁) : wpAny (model G.prog G.w) A (eval (.Call (.Name f p) (a :: as) [] pos) env) Q E s := by
 refine PyProof.Rows.Call_ (zn1 ok (n := n) hf c fun s₁ g₁ => ?_)
 have c₁ := c.gr g₁
 have pl := (zao ha pos env).2
 have st := y4 ha env
 rw [st] at pl
 refine callWith_builtin1 (wpAny_mono ((zt ok n).ls _ _ _ _ ha A X s₁ env pos c₁ _) (fun vs s₂ h₂ => h s₂ vs (g₁.trans h₂.1) h₂.2) fun zz zz e => e) st (by simpa [backTo] using pl)
theorem zfF (ok : zZ G cf k) (c : Cxt G k A X s env K ρ) {f : Str} {p pos : Pos} {a : Expr} {as : List Expr} {id : String} {ds : List D} (hf : evD cf n K ρ (.Name f p) = some (.typ id)) (ha : evL cf n K ρ (a :: as) = some ds) {Q E}
  (h : ∀ s₁ vs, Gr G s s₁ → zad (Rv G.C X s₁.heap) ds vs → wpAny (model G.prog G.w) A (call (.type id) vs) Q E s₁) : wpAny (model G.prog G.w) A (eval (.Call (.Name f p) (a :: as) [] pos) env) Q E s := by
 refine PyProof.Rows.Call_ (zhQ ok (n := n) hf c fun s₁ g₁ => ?_)
 have c₁ := c.gr g₁
 have pl := (zao ha pos env).2
 have st := y4 ha env
 rw [st] at pl
 refine PyProof.Rows.callWith_type1 (wpAny_mono ((zt ok n).ls _ _ _ _ ha A X s₁ env pos c₁ _) (fun vs s₂ h₂ => h s₂ vs (g₁.trans h₂.1) h₂.2) fun zz zz e => e) st (by simpa [backTo] using pl)
theorem zfN (ok : zZ G cf k) (c : Cxt G k A X s env K ρ) {f : Str} {p pos : Pos} {a : Expr} {as : List Expr} {b : Addr} {o : Obj} {fd : FuncData} {ds : List D} (hf : evD cf n K ρ (.Name f p) = some (.opq b)) (ho : G.hb.get? b = some o) (hd : o.data = .func fd) (ha : evL cf n K ρ (a :: as) = some ds) {Q E}
  (h : ∀ s₁ vs, Gr G s s₁ → zad (Rv G.C X s₁.heap) ds vs → wpAny (model G.prog G.w) A (call (.ref b) vs) Q E s₁) : wpAny (model G.prog G.w) A (eval (.Call (.Name f p) (a :: as) [] pos) env) Q E s := by
 refine PyProof.Rows.Call_ (zaO ok (n := n) hf c fun s₁ g₁ => ?_)
 have c₁ := c.gr g₁
 have st := y4 ha env
 refine callWith_def (o := o) (fd := fd) hd (wpAny_mono ((zt ok n).ls _ _ _ _ ha A X s₁ env pos c₁ _) (fun vs s₂ h₂ => ⟨(c₁.gr h₂.1).cx.hb _ _ ho, h s₂ vs (g₁.trans h₂.1) h₂.2⟩) fun zz zz e => e) st
noncomputable def FnC (G : Gd) (k : Nat) (a : Addr) (ds : List D) (d : D) : Prop := ∀ A X s vs, zby k A → Cx G s.heap → XOk G X s.heap → RdL G.C X s.heap ds vs →
  ∀ E, wpAny (model G.prog G.w) A (call (.ref a) vs) (fun v s' => Gr G s s' ∧ Rd G.C X s'.heap d v) E s
theorem zby.le {k k' : Nat} {A : Around} (h : k ≤ k') (r : zby k' A) : zby k A := ⟨r.hh, by have := r.depth; lia, by have := r.units; lia⟩
theorem FnC.le {k k' : Nat} {a : Addr} {ds : List D} {d : D} (h : k ≤ k') (f : FnC G k a ds d) : FnC G k' a ds d := fun A X s vs r => f A X s vs (r.le h)
theorem zcT {a : Addr} {o : Obj} {fd : FuncData} {body : List Stmt} {K : Kn} {ps : List Str} (fr : zn G a o fd body K ps) {ds : List D} {d : D} (hlen : ds.length = ps.length)
  (h : ∀ A X Y s env, StC G k A X Y s env K (yF K ps ds) → ∀ E, wpAny (model G.prog G.w) A (execs body env) (x4 G k A X env K Y s (.ret d)) E s) : FnC G (k + 1) a ds d := by
 intro A X s vs room cx xok r E
 refine wpAny_call (zg4 fr room cx xok r hlen fun env Y s₁ g fresh c => ?_)
 refine wpAny_mono (h _ X Y s₁ env c _) (fun f s' p => ?_) fun zz zz e => e
 obtain ⟨Y', t, v, rfl, rd⟩ := p
 exact ⟨⟨fun b o hT e => t.grb.heap b o hT (fun q => by rw [fresh b q] at e; exact zA e) (g.heap b o hT e), fun z => t.grb.ti (g.ti z), t.grb.os.trans g.os, fun z => t.grb.bare (g.bare z)⟩, rd⟩
end
theorem zaU {x : Str} (h : zR x = true) : ¬ (((x == ("__debug__" : Str)) || (x == ("__classdict__" : Str))) = true) := fun q => by
 unfold zR at h
 rw [q] at h; exact Bool.noConfusion h
theorem zH {cf : Cf} {n : Nat} {K : Kn} {ρ : Rho} {x : Str} {p : Pos} {d : D} (hx : zR x = true) (hl : ρ.lookup x = some d) (hp : d.pure = true) : evD cf (n + 1) K ρ (.Name x p) = some d := by
 show yb cf K ρ x = _
 unfold yb
 rw [if_neg (zaU hx), hl]
 cases d <;> first | rfl | exact Bool.noConfusion (show false = true from hp)
theorem zV {cf : Cf} {n : Nat} {K : Kn} {ρ : Rho} {x : Str} {p : Pos} {d : D} (hx : zR x = true) (hl : ρ.lookup x = none) (hk : K.lookup x = some .globalImplicit) (hg : cf.Γ x = some d) : evD cf (n + 1) K ρ (.Name x p) = some d := by
 show yb cf K ρ x = _
 unfold yb
 rw [if_neg (zaU hx), hl, hk]
 exact hg
theorem za {cf : Cf} {n : Nat} {K : Kn} {ρ : Rho} : evL cf (n + 1) K ρ [] = some [] := rfl
theorem zL {cf : Cf} {n : Nat} {K : Kn} {ρ : Rho} {e : Expr} {es : List Expr} {d : D} {ds : List D} (h : evD cf n K ρ e = some d) (hs : evL cf n K ρ es = some ds) : evL cf (n + 1) K ρ (e :: es) = some (d :: ds) := by
 show (match evD cf n K ρ e with | some d => (match evL cf n K ρ es with | some ds => some (d :: ds) | none => none) | none => none) = _
 rw [h, hs]
theorem zjz {G : Gd} {k n : Nat} {cf : Cf} {A : Around} {X : List Addr} {s : Shared} {env : Env} {K : Kn} {ρ : Rho} (ok : zZ G cf k) (c : Cxt G k A X s env K ρ) {o a : Expr} {name : Str} {id : String} {apos pos : Pos} {as : List Expr} {x : Str} {ds : List D} (hc : zgC o = true) (hp : (apos.endLine == pos.line) = true) (hl : as.length ≤ 20)
  (ho : evD cf n K ρ o = some (.str x)) (ha : evL cf n K ρ (a :: as) = some ds) (sl : Slot "str" name id) (ty : typeOf (.builtin id) = pure (.type "method_descriptor")) {Q E}
  (h : ∀ s₁ vs t, Gr G s s₁ → zad (Rv G.C X s₁.heap) ds vs → wpAny (model G.prog G.w) A (call (.builtin id) (.str x t :: vs)) Q E s₁) : wpAny (model G.prog G.w) A (eval (.Call (.Attribute o name apos) (a :: as) [] pos) env) Q E s := by
 have st := y4 ha env
 have pl := zao ha pos env
 have I := zt ok n
 refine wpAny_Call_method_lateS (zfV hc _ _ _) ?_ hp ((I.ev _ _ _ _ ho A X s env c).post fun ov s₁ g₁ r => ?_)
 ·rw [pl.1]
  show (true && decide ((a :: as).length + 0 + 0 < 30)) = true
  exact decide_eq_true (show as.length + 1 < 30 by lia)
 ·have c₁ := c.gr g₁
  refine zU r.str fun t zz1 => ?_; subst zz1
  have pl2 := pl.2
  rw [st] at pl2 ⊢
  have args := I.ls _ _ _ _ ha A X s₁ env pos c₁ E
  rw [st] at args
  refine ⟨"str", id, F.plainAttrs_str, sl, ty, typeIs_str _ _ _, (fun zz e => nomatch e), callWith_builtin pl2 (evalArgs_plain (wpAny_mono args (fun vs s₂ h₂ => ?_) fun zz zz e => e))⟩
  exact h s₂ vs t (g₁.trans h₂.1) h₂.2
theorem zjh {G : Gd} {k : Nat} {cf : Cf} {o : Obj} {fd : FuncData} (ok : zZ G cf k) (fr : zn G 83 o fd (zM 9) (zE 9) ["pattern"])
  (h1 : cf.Γ "isinstance" = some (.blt "isinstance")) (h2 : cf.Γ "str" = some (.typ "str")) (h3 : cf.Γ "_special_chars_map" = some (.opq 73)) (hsys : ((73 : Addr) == sysModules) = false)
  {f : Int → Option Value} (hm : G.hb.MapOf (intKind G.prog G.w) 73 f) {c : Nat} (hc : c < 128) {y : Str} (hy : (f c = none ∧ y = (⟨#[c]⟩ : Str)) ∨ ∃ a b u, f c = some (.str (⟨#[a, b]⟩ : Str) u) ∧ y = (⟨#[a, b]⟩ : Str)) :
  FnC G (k + 1) 83 [.str ⟨#[c]⟩] (.str y) := by
 refine zcT fr rfl fun A X Y s env cc E => ?_
 change wpAny _ _ (execs [.If (.Call (.Name "isinstance" _) [.Name "pattern" _, .Name "str" _] [] _) [.Return (some (.Call (.Attribute (.Name "pattern" _) "translate" _) [.Name "_special_chars_map" _] [] _)) _] _ _] env) _ _ _
 refine zds fun Q₀ E₀ kQ₀ zz => ?_
 generalize hρ : (yF (zE 9) ["pattern"] [D.str ⟨#[c]⟩] : Rho) = ρ at cc
 have lp : ρ.lookup ("pattern" : Str) = some (D.str ⟨#[c]⟩) := by rw [← hρ]; rfl
 have l1 : ρ.lookup ("isinstance" : Str) = none := by rw [← hρ]; rfl
 have l2 : ρ.lookup ("str" : Str) = none := by rw [← hρ]; rfl
 have l3 : ρ.lookup ("_special_chars_map" : Str) = none := by rw [← hρ]; rfl
 have k1 : (zE 9).lookup ("isinstance" : Str) = some .globalImplicit := by decide
 have k2 : (zE 9).lookup ("str" : Str) = some .globalImplicit := by decide
 have k3 : (zE 9).lookup ("_special_chars_map" : Str) = some .globalImplicit := by decide
 generalize zE 9 = K at *
 refine wpAny_execs_cons (wpAny_If (isTrue_plain ?_))
 refine zfK (n := 5) ok cc.cxt (zV (by decide) l1 k1 h1) (zL (zH (by decide) lp rfl) (zL (zV (by decide) l2 k2 h2) za)) fun s₁ vs g₁ r => ?_
 refine w2 r fun zz zz r1 r2 => ?_
 refine zU r1.str fun t zz1 => ?_; subst zz1
 have := r2.typ; subst this
 refine IsiPair.str_str (wpAny_truthy_bool ?_)
 have c₁ := cc.gr g₁
 refine wpAny_execs_cons (wpAny_Return_some ?_)
 refine zjz (n := 5) ok c₁.cxt rfl (by decide) (by decide) (zH (by decide) lp rfl) (zL (zV (by decide) l3 k3 h3) za) F.slot_str_translate F.type_str_translate fun s₂ vs t g₂ r => ?_
 obtain - | ⟨r1, r⟩ := r
 obtain - | _ := r
 have := r1.opq; subst this
 have c₂ := c₁.gr g₂
 have hm₂ : s₂.heap.MapOf (intKind G.prog G.w) 73 f := by
  refine zfg hm fun o es ep e q => ?_
  exact ⟨o, es, ep, c₂.cx.hb _ _ e, q⟩
 have g02 := g₁.trans g₂
 rcases hy with ⟨hf, rfl⟩ | ⟨a, b, u, hf, rfl⟩
 ·refine zeT hc hsys c₂.room.hh hm₂ hf fun h' tk t' kp => ?_
  exact kQ₀ _ _ ⟨Y, Stp.gr (g02.trans (Gr.of kp)), _, rfl, Rd.str'⟩
 ·refine ze0 hc hm₂ hf fun tk t' => ?_
  exact kQ₀ _ _ ⟨Y, Stp.gr (g02.trans Gr.tok), _, rfl, Rd.str'⟩
end
section
structure x0 (Kf : Frag) (C fI : Addr) : Prop where
 makes : makesIn Kf C = true
 keep : keepIn Kf (.ref C) = true
 init : findIn Kf (.ref C) "__init__" = some (some (.ref fI))
 fn : typeIn Kf (.ref fI) = some (.type "function")
 over : plainOver Kf C = true
 tag : takerIn Kf C "tag" = some none
 root : takerIn Kf C "root" = some none
 set : findIn Kf (.ref C) "__setattr__" = some (some (.builtin "object.__setattr__"))
 has : (clsIn Kf C).any (·.hasDict) = true
 has' : hasDictIn Kf C = true
 getT : plainGet Kf C "tag" = true
 getR : plainGet Kf C "root" = true
 noT : findIn Kf (.ref C) "tag" = some none
 noR : findIn Kf (.ref C) "root" = some none
theorem xJ {c d es n sl} : ¬ TK ⟨c, d, .dict es n, sl⟩ := fun ⟨us, q, _⟩ => by cases q
section
variable {prog : Program} {w : World} {A : Around} {s : Shared} {Kf : Frag} {C x dx : Addr} {name : Str} {v : Value} {es : List DictEntry} {es' : Tok → List DictEntry} {n n' : Nat}
theorem zdY (hx : s.heap.get? x = some (instObj C dx)) (hd : s.heap.get? dx = some (dictOf es n)) : InstAt s.heap x (instObj C dx) C (some (dictOf es n)) := ⟨hx, rfl, rfl, hd⟩
theorem zkV {tk : Tok} {R : Result → Shared → Prop} (X : Kf.In s.heap) (hx : s.heap.get? x = some (instObj C dx)) (hd : s.heap.get? dx = some (dictOf es n)) (hp : plainOver Kf C = true) (ht : takerIn Kf C name = some none)
  (hh : (clsIn Kf C).any (·.hasDict) = true) (hl : (lookIn name (dictOf es n)).isSome = true) (e : ∀ tk, Obj.putName name (PyData.keyHash w.params name) (.str name tk) v (dictOf es n) = dictOf (es' tk) n') (hz : ∀ tk, (es' tk).length ≤ 1000)
  (h : ∀ h' tk, Heap.SameBut dx s.heap h' → h'.get? dx = some (dictOf (es' tk) n') → R (.ok (.ret .none)) { s with heap := h', toks := s.toks + 1 }) :
  codeAny (model prog w) A (.call (.builtin "object.__setattr__") ⟨[.ref x, .str name tk, v], []⟩) R s := by
 refine osa_open X (zdY hx hd) hp ht fun b => ?_
 refine zQ (any_some hh) fun cd hc hd' => ?_
 have D' : (s.heap.update dx (Obj.putName name (PyData.keyHash w.params name) (.str name s.toks) v)).get? dx = some (dictOf (es' s.toks) n') := by
  have := Heap.get?_update_self (Obj.putName name (PyData.keyHash w.params name) (.str name s.toks) v) hd (by rw [e]; rfl)
  rw [this, e]
 refine wpAny_bind (wpAny_pure (wpAny_bind (wpAny_bind (wpAny_loadPart hx (wpAny_bind ((looks_clsIn X hc).here ?_))))))
 rw [hd']
 refine wpAny_pure (a := some dx) (wpAny_bind (wpAny_pure (wpAny_bind ?_)))
 refine wpAny_bind (wpAny_bind (wpAny_askSetting (wpAny_pure (wpAny_bind (wpAny_mkText (wpAny_bind (wpAny_loadPart hd ?_)))))))
 dsimp only
 have c : (!es.toArray.any (·.key.isStr name) && es.toArray.any (·.refKey)) = false := by
  rw [lookIn_dict] at hl
  unfold getL at hl
  simp only [List.any_toArray]
  set_option tactic.hygienic true in split at hl
  ·rename_i en he
   rw [List.any_eq_true.mpr ⟨en, List.mem_of_find?_eq_some he, List.find?_some he⟩]; rfl
  ·split at hl
   ·cases hl
   ·rename_i z; rw [Bool.not_eq_true] at z; rw [z, Bool.and_false]
 rw [aRefKeyMayBeTheName_at, c]
 refine wpAny_updatePart hd ?_
 refine wpAny_bind (wpAny_lookBehind D' (pastItsLine_dict (by rw [List.size_toArray, sizeLine_eq]; have := hz s.toks; lia)) ?_)
 exact wpAny_pure (h _ _ (Heap.SameBut.update _ _ _) D')
theorem zeq {E : Value → Shared → Prop} {Q : Unit → Shared → Prop} (X : Kf.In s.heap) (hs : findIn Kf (.ref C) "__setattr__" = some (some (.builtin "object.__setattr__"))) (hx : s.heap.get? x = some (instObj C dx)) (hd : s.heap.get? dx = some (dictOf es n)) (hp : plainOver Kf C = true) (ht : takerIn Kf C name = some none)
  (hh : (clsIn Kf C).any (·.hasDict) = true) (hl : (lookIn name (dictOf es n)).isSome = true) (e : ∀ tk, Obj.putName name (PyData.keyHash w.params name) (.str name tk) v (dictOf es n) = dictOf (es' tk) n') (hz : ∀ tk, (es' tk).length ≤ 1000)
  (h : ∀ h' tk t, Heap.SameBut dx s.heap h' → h'.get? dx = some (dictOf (es' tk) n') → Q () { s with heap := h', toks := t }) :
  wpAny (model prog w) A (setAttr (.ref x) name v) Q E s := by
 refine set_plain X (zdY hx hd) hs ?_
 exact zkV (s := { s with toks := s.toks + 1 }) X hx hd hp ht hh hl e hz fun h' tk a b => h h' tk _ a b
end
section
variable {G : Gd} {k : Nat} {A : Around} {Xc Y Y' : List Addr} {s s' s₁ : Shared} {env : Env} {K : Kn} {ρ : Rho}
theorem StC.grow (c : StC G k A Xc Y s env K ρ) (g : Gr G s s₁) {a : Addr} (ha : s.heap.get? a = none) (nt : NT s₁.heap a) : Stp G Y s (a :: Y) s₁ ∧ StC G k A Xc (a :: Y) s₁ env K ρ := by
 have aX : a ∉ Y ++ Xc := c.xok.none ha
 have c₁ := c.gr g
 refine xl c.ex fun m W e hW => ?_
 have e₁ := e.gr c.xok c.cx g
 refine ⟨⟨fun zz h => .tail _ h, fun b hb => (List.mem_cons.mp hb).elim (fun q => .inr (by rw [q]; exact ha)) .inl, g.b⟩, c.room, c₁.cx, ?_, c.xc, ⟨m, W, ?_, fun x b h => .tail _ (hW x b h)⟩, .tail _ c.loc, ?_, c.apart, ?_, ?_, ?_, c.celX, c.noFree⟩
 ·refine ⟨fun b hb => List.mem_append_right _ (c.xc b hb), fun b hb => ?_⟩
  rcases List.mem_append.mp hb with hb | hb
  ·rcases List.mem_cons.mp hb with rfl | hb
   ·refine zQ nt fun o ho zz2 => ?_; exact ⟨o, ho⟩
   ·exact c₁.xok.live b (List.mem_append_left _ hb)
  ·exact c₁.xok.live b (List.mem_append_right _ hb)
 ·have kX : ∀ b o, b ∉ Y ++ Xc → s.heap.get? b = some o → b ∉ (a :: Y) ++ Xc ∧ s₁.heap.get? b = some o := fun b o hb e => ⟨fun q => by
   rcases List.mem_append.mp q with q | q
   ·rcases List.mem_cons.mp q with q | q
    ·rw [q, ha] at e; exact zA e
    ·exact hb (List.mem_append_left _ q)
   ·exact hb (List.mem_append_right _ q), g.heap b o (fun t => hb (c.xok.tabs b t)) e⟩
  refine e.move e₁.ns kX (fun x b vs j hw hb hg => ⟨?_, g.heap b _ (c.cx.notTab hg zv) hg⟩) fun x cc u zz hc hcell => IsCell.at' hcell fun o e => g.heap _ o ((NT.cell hcell).notTab c.cx.ti) e
  rcases List.mem_append.mp hb with q | q
  ·exact List.mem_append_left _ (.tail _ q)
  ·exact List.mem_append_right _ q
 ·intro x cc h1 h2
  refine zk (c₁.cel x cc h1 h2) fun q u => ?_
  exact ⟨.tail _ q, u⟩
 ·intro y hy
  rcases List.mem_cons.mp hy with rfl | hy
  ·exact nt
  ·exact c₁.nt y hy
 ·intro b hb
  rcases List.mem_cons.mp hb with rfl | hb
  ·exact fun q => aX (List.mem_append_right _ q)
  ·exact c.dis b hb
 ·intro b hb
  rcases List.mem_cons.mp hb with q | hb
  ·subst q
   cases z : G.hb.get? b with
   | none => rfl
   | some o => rw [c.cx.hb b o z] at ha; exact zA ha.symm
  ·exact c.hbY b hb
theorem StC.change (c : StC G k A Xc Y s env K ρ) {a : Addr} (ha : a ∈ Y) (hl : env.locals ≠ a) (hcl : ∀ x cc, K.lookup x = some .cell → env.cells.lookup x = some cc → cc ≠ a) {o o' : Obj} (ho : s.heap.get? a = some o) (hls : ∀ vs n, o ≠ zW vs n) {h' : Heap} {t : Nat} (hs : Heap.SameBut a s.heap h') (ho' : h'.get? a = some o') (nt' : ¬ TK o') :
  Stp G Y s Y { s with heap := h', toks := t } ∧ StC G k A Xc Y { s with heap := h', toks := t } env K ρ := by
 have nT : NT s.heap a := c.nt a ha
 have nT' : NT h' a := ⟨o', ho', nt'⟩
 refine xl c.ex fun m W e hW => ?_
 have stp : Stp G Y s Y { s with heap := h', toks := t } := ⟨fun zz h => h, fun zz h => .inl h, (GrB.same hs nT).mono fun y hy => by rw [List.mem_singleton.mp hy]; exact ha⟩
 refine ⟨stp, c.room, stp.cx c.cx c.hbY, c.xok.same hs nT', c.xc, ⟨m, W, ?_, hW⟩, c.loc, ?_, c.apart, fun y hy => (c.nt y hy).same hs nT', c.dis, c.hbY, c.celX, c.noFree⟩
 ·refine e.move (e.ns.at' fun o e => SameBut.up hs hl e) (fun b o hb e => ⟨hb, SameBut.up hs (fun q => hb (by rw [q]; exact List.mem_append_left _ ha)) e⟩) (fun x b vs j hw hb hg => ⟨hb, SameBut.up hs (fun q => ?_) hg⟩) fun x cc u hq hc hcell => IsCell.at' hcell fun o e2 => SameBut.up hs (hcl x cc (by
   unfold Env.kindOf at hq; rw [e.k.names] at hq
   exact hq.resolve_right (c.noFree x)) hc) e2
  subst q
  rw [hg] at ho; cases ho
  exact hls _ _ rfl
 ·intro x cc h1 h2
  obtain ⟨q, u, z⟩ := c.cel x cc h1 h2
  exact ⟨q, u, IsCell.at' z fun o e => SameBut.up hs (hcl x cc h2 h1) e⟩
end
end
section
theorem zmA {k : Nat} {A : Around} {C : Addr} {r : List Value} (h : zby (k + 1) A) : zby k (A.under (.builtin "type.__call__" ⟨.ref C :: r, []⟩)) := by
 have w : (Code.builtin "type.__call__" ⟨.ref C :: r, []⟩).weight = 1 := rfl
 have u : (Code.builtin "type.__call__" ⟨.ref C :: r, []⟩).cUnits = 1 := rfl
 refine ⟨h.hh, ?_, ?_⟩
 ·show A.depth + _ + 2 * k < _
  rw [w]; have := h.depth; lia
 ·show A.units + _ + 40 * k + 100 < _
  rw [u]; have := h.units; lia
section
variable {G : Gd} {k n : Nat} {cf : Cf} {A : Around} {X : List Addr} {s : Shared} {env : Env} {K : Kn} {ρ : Rho} {Kf : Frag} {C fI : Addr} {o : Obj} {fd : FuncData}
noncomputable abbrev zfx : Kn := [(("self" : Str), .local), (("root" : Str), .local)]
noncomputable abbrev zg7 (p1 p2 p3 p4 : Pos) : List Stmt := [.Assign [.Attribute (.Name "self" p1) "root" p2] (.Name "root" p3) p4]
theorem zlu (H : Int) (kt : Tok) (v : Value) : Obj.putName "root" H (.str "root" kt) v (dictOf [] 0) = dictOf [⟨H, .str "root" kt, v⟩] 1 := rfl
theorem znr (H H' : Int) (kt kt' : Tok) (v v' : Value) : Obj.putName "tag" H' (.str "tag" kt') v' (dictOf [⟨H, .str "root" kt, v⟩] 1) = dictOf [⟨H, .str "root" kt, v⟩, ⟨H', .str "tag" kt', v'⟩] 2 := rfl
theorem zlM (H H' H'' : Int) (kt kt' kt'' : Tok) (v v' v'' : Value) : Obj.putName "tag" H'' (.str "tag" kt'') v'' (dictOf [⟨H, .str "root" kt, v⟩, ⟨H', .str "tag" kt', v'⟩] 2) = dictOf [⟨H, .str "root" kt, v⟩, ⟨H', .str "tag" kt', v''⟩] 2 := rfl
theorem zlL (ok : zZ G cf k) (X₀ : Kf.In G.hb) (NC : x0 Kf C fI) {p1 p2 p3 p4 : Pos} (fr : zn G fI o fd (zg7 p1 p2 p3 p4) zfx ["self", "root"]) (room : zby (k + 2) A) (cx : Cx G s.heap) (xok : XOk G X s.heap) {i : Int} {v : Value} (r : Rd G.C X s.heap (.int i) v) {Q : Value → Shared → Prop} {E : Value → Shared → Prop}
  (hQ : ∀ x dx s' H kt t, Gr G s s' → s.heap.get? x = none → s.heap.get? dx = none → x ≠ dx → s'.heap.get? x = some (instObj C dx) → s'.heap.get? dx = some (dictOf [⟨H, .str "root" kt, .int i t⟩] 1) → Q (.ref x) s') :
  wpAny (model G.prog G.w) A (call (.ref C) [v]) Q E s := by
 have Xs : Kf.In s.heap := X₀.keeps cx.hb
 refine wpAny_call ?_
 obtain ⟨hh, g, d, t, os⟩ := s
 refine make_core (makes_of Xs NC.makes) (looks_findIn Xs NC.init) (fun self => bind_fn Xs self NC.fn) (.inl rfl) ?_
 generalize hh2 : (hh.push emptyDict).push (instObj C hh.objs.size) = h2
 have gx : h2.get? (hh.objs.size + 1) = some (instObj C hh.objs.size) := by rw [← hh2]; heap_get
 have gd : h2.get? hh.objs.size = some (dictOf [] 0) := by rw [← hh2]; exact Heap.get?_push_of_some _ (Heap.get?_push_at rfl rfl)
 have kp : ∀ b o, hh.get? b = some o → h2.get? b = some o := fun b o e => by rw [← hh2]; exact Heap.get?_push_of_some _ (Heap.get?_push_of_some _ e)
 have g1 : Gr G ⟨hh, g, d, t, os⟩ ⟨h2, g, d, t, os⟩ := Gr.of (tk := t) kp
 have cx1 := g1.cx cx
 have xok1 := xok.gr cx.ti g1
 have r1 := r.gr xok.tabs g1
 refine zg4 (k := k) fr (zmA (k := k + 1) room) cx1 xok1 (RdL.cons Rd.opq' (RdL.cons r1 .nil)) rfl fun env Y s₁ g2 fresh c => ?_
 have cc := c.cxt
 generalize hρ : (yF zfx ["self", "root"] [D.opq (hh.objs.size + 1), .int i] : Rho) = ρ at cc
 have l1 : ρ.lookup ("self" : Str) = some (.opq (hh.objs.size + 1)) := by rw [← hρ]; rfl
 have l2 : ρ.lookup ("root" : Str) = some (.int i) := by rw [← hρ]; rfl
 have gg := g1.trans g2
 have notT : ∀ (a : Addr) (o : Obj), h2.get? a = some o → ¬ TK o → a ∉ G.T := fun a o e n => cx1.notTab e n
 have gd1 : s₁.heap.get? hh.objs.size = some (dictOf [] 0) := g2.heap _ _ (notT _ _ gd xJ) gd
 have gx1 : s₁.heap.get? (hh.objs.size + 1) = some (instObj C hh.objs.size) := g2.heap _ _ (notT _ _ gx fun ⟨vs, q, _⟩ => by cases q) gx
 refine wpAny_execs_cons (plainObj_wpAny_Assign_Attribute ?_)
 refine ((zt ok 5).ev _ _ _ _ (zH (by decide) l2 rfl) _ _ s₁ env cc).post fun vv s₂ g3 r2 => ?_
 have cc2 := cc.gr g3
 refine zU r2.int fun tt zz1 => ?_; subst zz1
 refine zaO ok (n := 5) (zH (by decide) l1 rfl) cc2 fun s₃ g4 => ?_
 have cc3 := cc2.gr g4
 have g34 := g3.trans g4
 have gd3 : s₃.heap.get? hh.objs.size = some (dictOf [] 0) := g34.heap _ _ (cc.cx.notTab gd1 xJ) gd1
 have gx3 : s₃.heap.get? (hh.objs.size + 1) = some (instObj C hh.objs.size) := g34.heap _ _ (cc.cx.notTab gx1 fun ⟨vs, q, _⟩ => by cases q) gx1
 refine zeq (Kf := Kf) (X₀.keeps cc3.cx.hb) NC.set gx3 gd3 NC.over NC.root NC.has (by rfl) (es' := fun kt => [⟨PyData.keyHash G.w.params "root", .str "root" kt, .int i tt⟩]) (n' := 1) (fun tk => zlu _ _ _) (fun tk => by simp) fun h' tk t' hs hd' => ?_
 refine wpAny_execs_nil ⟨rfl, ?_⟩
 have g14 := gg.trans g34
 have nTd : hh.objs.size ∉ G.T := notT _ _ gd xJ
 refine hQ (hh.objs.size + 1) hh.objs.size _ _ _ _ ?_ (zT (Nat.le_succ _)) (zT (Nat.le_refl _)) (Nat.succ_ne_self _) (SameBut.up hs (Nat.succ_ne_self _) gx3) hd'
 refine ⟨fun b o hb e => SameBut.up hs (fun q => ?_) (g14.heap b o hb e), fun ti => G.frame _ _ (g14.ti ti) fun b o tk e => SameBut.up hs (fun q => ?_) e, g14.os, g14.bare⟩
 ·subst q
  rw [zT (Nat.le_refl _)] at e; exact zA e
 ·subst q
  rw [gd3] at e; cases e
  exact xJ tk
end
end
noncomputable def zc6 (sp wd : Str) : Str := if sp = ("" : Str) then wd else (("{" : Str) ++ sp ++ ("}" : Str)) ++ wd
theorem zov {cf : Cf} {n : Nat} {K : Kn} {ρ : Rho} {t b o : Expr} {p : Pos} {c : Bool} {d : D} (h : tsD cf n K ρ t = some c) (h' : evD cf n K ρ (if c then b else o) = some d) : evD cf (n + 1) K ρ (.IfExp t b o p) = some d := by
 show zcR _ _ t b o = _
 unfold zcR
 rw [h]; cases c <;> exact h'
theorem yX {cf : Cf} {n : Nat} {K : Kn} {ρ : Rho} {l r : Expr} {op : Operator} {p : Pos} {a b d : D} (h1 : evD cf n K ρ l = some a) (h2 : evD cf n K ρ r = some b) (h3 : yu op a b = some d) : evD cf (n + 1) K ρ (.BinOp l op r p) = some d := by
 show zep _ l op r = _
 unfold zep
 rw [h1, h2]; exact h3
theorem yP {cf : Cf} {n : Nat} {K : Kn} {ρ : Rho} {l r : Expr} {op : CmpOp} {p : Pos} {a b : D} {c : Bool} (h1 : evD cf n K ρ l = some a) (h2 : evD cf n K ρ r = some b) (h3 : yB op a b = some c) : tsD cf (n + 1) K ρ (.Compare l [op] [r] p) = some c := by
 show zhX _ l op r = _
 unfold zhX
 rw [h1, h2]; exact h3
theorem yn {cf : Cf} {n : Nat} {K : Kn} {ρ : Rho} {v : Expr} {i : Int} {k : Nat} {p q : Pos} {a d : D} (h1 : evD cf (n + 1) K ρ v = some a) (h3 : x7 a (.int i) = some d) : evD cf (n + 2) K ρ (.Subscript v (.Constant (.int i) k q) p) = some d := by
 show zdm (evD cf (n + 1) K ρ) v (.Constant (.int i) k q) = _
 unfold zdm
 rw [h1]; exact h3
theorem yo {cf : Cf} {n : Nat} {K : Kn} {ρ : Rho} {x : Str} {k : Nat} {p : Pos} : evD cf (n + 1) K ρ (.Constant (.str x) k p) = some (.str x) := rfl
theorem yN {cf : Cf} {n : Nat} {K : Kn} {ρ : Rho} {k : Nat} {p : Pos} : evD cf (n + 1) K ρ (.Constant .none k p) = some .none := rfl
theorem za7 {x y : Str} (h : x.length + y.length ≤ zK) : yu .Add (.str x) (.str y) = some (.str (x ++ y)) := by
 exact zhf h
theorem zZ.le {G : Gd} {cf : Cf} {k k' : Nat} (h : k ≤ k') (ok : zZ G cf k) : zZ G cf k' where
 gam := ok.gam
 fn := fun a ds d e => by
  refine zjL (ok.fn a ds d e) fun o fd h1 h2 h3 h4 => ?_
  exact ⟨o, fd, h1, h2, h3, fun A X s vs r => h4 A X s vs (r.le h)⟩
 hook := fun K ρ e d q A X s env r => ok.hook K ρ e d q A X s env (r.le h)
 root := ok.root
theorem zde {G : Gd} {A : Around} {env : Env} {e : Expr} {p : Pos} {ss : List Stmt} {Q : Flow → Shared → Prop} {E : Value → Shared → Prop} {s : Shared} (h : wpAny (model G.prog G.w) A (eval e env) (fun v => Q (.ret v)) E s) : wpAny (model G.prog G.w) A (execs (.Return (some e) p :: ss) env) Q E s :=
 wpAny_execs_cons (wpAny_Return_some h)
theorem zcY {G : Gd} {k : Nat} {A : Around} {Xc Y : List Addr} {s : Shared} {env : Env} {K : Kn} {ρ : Rho} (c : StC G k A Xc Y s env K ρ) {x : Str} {d : D} {v : Value} (hk : K.lookup x = some .local) (r : Rd G.C (Y ++ Xc) s.heap d v) {E : Value → Shared → Prop} {Q : Unit → Shared → Prop}
  (hQ : ∀ s', Stp G Y s Y s' → Heap.SameBut env.locals s.heap s'.heap → StC G k A Xc Y s' env K (xi (xA ρ x) x d) → Q () s') : wpAny (model G.prog G.w) A (storeName env x v) Q E s := by
 refine xl c.ex fun m W e hW => ?_
 have en := c.cxt.env.k
 have hk' : env.kindOf x = some .local := by unfold Env.kindOf; rw [en.names]; exact hk
 refine wpAny_storeName_local hk' e.ns (fun h' hn' hs => ?_) (by rw [en.kind]; rfl)
 have nT : NT s.heap env.locals := .dict e.ns
 have nt : NT h' env.locals := .dict hn'
 have diff : ∀ cc u, s.heap.IsCell cc u → cc ≠ env.locals := fun cc u hcell q => by
  subst q
  refine yI e.ns fun o es ep ho hd zz5 => ?_
  refine zQ hcell fun o' ho' hd' => ?_
  rw [ho] at ho'; cases ho'
  rw [hd] at hd'; cases hd'
 have hnl : ∀ a vs n, s.heap.get? a = some (zW vs n) → a ≠ env.locals := fun a vs n hg q => by
  subst q
  refine yI e.ns fun o es ep ho hd zz5 => ?_
  rw [hg] at ho; cases ho; cases hd
 have up : ∀ b o, b ∉ Y ++ Xc → s.heap.get? b = some o → h'.get? b = some o := fun b o hb e => SameBut.up hs (fun q => hb (by rw [q]; exact List.mem_append_left _ c.loc)) e
 have stp : ∀ t, Stp G Y s Y { s with heap := h', toks := t } := fun t => ⟨fun zz h => h, fun zz h => .inl h, (GrB.same hs nT).mono fun y hy => by rw [List.mem_singleton.mp hy]; exact c.loc⟩
 refine hQ _ (stp _) hs ⟨c.room, (stp (s.toks + 1)).cx c.cx c.hbY, c.xok.same hs nt, c.xc, ⟨(fun y => if y = x then some v else m y), (fun y => if y = x then none else W y), e.store hn' (fun y hy => by simp [hy]) (fun y hy => by simp [hy]) ?_ (fun y cc u hy hc hcell => IsCell.at' hcell fun o e => SameBut.up hs (diff _ _ hcell) e) (fun b o hb e => ⟨hb, up b o hb e⟩) ?_ (v := v) (.inl ⟨hk', by simp⟩) ?_, ?_⟩, c.loc, ?_, c.apart, ?_, c.dis, c.hbY, c.celX, c.noFree⟩
 ·intro y z a h1 h2
  by_cases hy : y = x
  ·simp [hy] at h1
  ·by_cases hz : z = x
   ·simp [hz] at h2
   ·simp only [hy, hz, if_false] at h1 h2; exact e.inj y z a h1 h2
 ·intro y a vs n hy hwa hx hg
  exact ⟨hx, SameBut.up hs (hnl _ _ _ hg) hg⟩
 ·cases d <;> first | exact Rd.imp (fun b o hb e => ⟨hb, up b o hb e⟩) r | exact False.elim r
 ·intro y a hy
  by_cases q : y = x
  ·simp [q] at hy
  ·simp only [q, if_false] at hy; exact hW y a hy
 ·intro y cc h1 h2
  obtain ⟨q, u, z⟩ := c.cel y cc h1 h2
  exact ⟨q, u, IsCell.at' z fun o e => SameBut.up hs (diff _ _ z) e⟩
 ·intro y hy; exact (c.nt y hy).same hs nt
theorem zcJ {es : List DictEntry} {m n : Nat} {vs : List Value} : dictOf es m ≠ zW vs n := fun q => by
 have := congrArg Obj.data q
 cases this
theorem zoe {G : Gd} {k : Nat} {cf : Cf} {Kf : Frag} {C fI : Addr} {oI : Obj} {fdI : FuncData} (ok : zZ G cf k) (X₀ : Kf.In G.hb) (NC : x0 Kf C fI) {p1 p2 p3 p4 : Pos} (frI : zn G fI oI fdI (zg7 p1 p2 p3 p4) zfx ["self", "root"])
  (hG : cf.Γ "_SelectorContext" = some (.opq C)) (hC : G.C = C) (hnc : ∃ oc : Obj, Kf.lookup C = some oc) {i : Int} {nm : D} {tg : Option Str}
  (hn : (nm = .none ∧ tg = none) ∨ ∃ sp wd, nm = .tup [.str sp, .str wd] ∧ sp.length ≤ 1000 ∧ wd.length ≤ 1000 ∧ tg = some (zc6 sp wd)) {sp1 sp2 sp3 sp4 sq1 sq2 sq3 sq4 sq5 st1 st2 se1 sq6 sq7 sq8 sq9 sr2 sr3 : Pos} {r1 : Expr} (hsw : ∀ a l (env : Env), swapsWith r1 (some a) l env = pure false) (hr1 : ∀ (cf : Cf) (K : Kn) (ρ : Rho) sp wd, ρ.lookup ("name" : Str) = some (.tup [.str sp, .str wd]) → sp.length ≤ 1000 → wd.length ≤ 1000 → evD cf 8 K ρ r1 = some (.str (zc6 sp wd))) {A : Around} {X Y : List Addr} {s : Shared} {env : Env} (c : StC G (k + 2) A X Y s env (zE 20) (yF (zE 20) ["number", "name"] [.int i, nm])) {E : Value → Shared → Prop} :
  wpAny (model G.prog G.w) A (execs [.Assign [.Name "made" sp1] (.Call (.Name "_SelectorContext" sp2) [.Name "number" sp3] [] sp4) sq1, .Assign [.Attribute (.Name "made" sq2) "tag" sq3] (.Constant .none 0 sq4) sq5, .If (.Compare (.Name "name" st1) [.IsNot] [.Constant .none 0 st2] se1) [.Assign [.Attribute (.Name "made" sq6) "tag" sq7] r1 sq8] [] sq9, .Return (some (.Name "made" sr2)) sr3] env) (x4 G (k + 2) A X env (zE 20) Y s (.ret (.node i tg))) E s := by
 have ok2 := ok.le (k' := k + 2) (by lia)
 refine zds fun Q₀ E₀ kQ₀ kE₀ => ?_
 generalize hρ : (yF (zE 20) ["number", "name"] [D.int i, nm] : Rho) = ρ at c
 have l1 : ρ.lookup ("number" : Str) = some (.int i) := by rw [← hρ]; rfl
 have l2 : ρ.lookup ("name" : Str) = some nm := by rw [← hρ]; rfl
 have l3 : ρ.lookup ("_SelectorContext" : Str) = none := by rw [← hρ]; rfl
 have l4 : ρ = [(("number" : Str), D.int i), (("name" : Str), nm), (("made" : Str), D.unb)] := by rw [← hρ]; rfl
 have k1 : (zE 20).lookup ("_SelectorContext" : Str) = some .globalImplicit := by decide
 have k2 : (zE 20).lookup ("made" : Str) = some .local := by decide
 have kl : ∀ x, (zE 20).lookup x ≠ some .cell := by
  intro x hx
  have := mem_of_lookup hx
  revert this
  have : (zE 20).all (fun p => p.2 != .cell) = true := by decide
  intro hm
  have := List.all_eq_true.mp this _ hm
  simp at this
 generalize zE 20 = K at *
 refine wpAny_execs_cons (wpAny_Assign_Name (PyProof.Rows.Call_ ?_) (by rfl))
 refine zaO ok2 (n := 5) (zV (by decide) l3 k1 hG) c.cxt fun s₁ g₁ => ?_
 have c₁ := c.gr g₁
 have X₁ : Kf.In s₁.heap := X₀.keeps c₁.cx.hb
 have ha : evL cf 5 K ρ [.Name "number" sp3] = some [.int i] := zL (zH (by decide) l1 rfl) za
 have st := y4 ha env
 refine callWith_K X₁ NC.keep (wpAny_mono ((zt ok2 5).ls _ _ _ _ ha _ _ s₁ env sp4 c₁.cxt _) (fun vs s₂ h₂ => ?_) fun zz zz e => e) st (by rfl)
 refine zk h₂ fun g₂ ra => ?_
 obtain - | ⟨ra1, ra⟩ := ra
 obtain - | _ := ra
 have c₂ := c₁.gr g₂
 refine ⟨X₀.keeps c₂.cx.hb, ?_⟩
 refine zlL ok X₀ NC frI c₂.room c₂.cx c₂.xok ra1 fun x dx s₃ H kt t g₃ nx nd hne gx gd => ?_
 refine zk (c₂.grow g₃ nd ⟨_, gd, xJ⟩) fun t₃ c₃ => ?_
 have bxc : x ∉ X := fun q => by
  refine zU (c₂.xok.live x (List.mem_append_right _ q)) fun oo ho => ?_
  rw [nx] at ho; exact zA ho
 have bxY : x ∉ dx :: Y := fun q => by
  rcases List.mem_cons.mp q with q | q
  ·exact hne q
  ·refine zU (c₂.xok.live x (List.mem_append_left _ q)) fun oo ho => ?_
   rw [nx] at ho; exact zA ho
 have hlq : env.locals ≠ dx := fun q => by
  refine zU (c₂.xok.live _ (List.mem_append_left _ c.loc)) fun oo ho => ?_
  rw [q, nd] at ho; exact zA ho
 have tk0 : Stp G Y s Y s₂ := Stp.gr (g₁.trans g₂)
 have tk1 := tk0.trans c.cx.ti t₃
 refine zcY c₃ k2 Rd.opq' fun s₄ t₄ sb₄ c₄ => ?_
 have tk2 := tk1.trans c.cx.ti t₄
 have eρ : xi (xA ρ "made") "made" (.opq x) = [(("number" : Str), D.int i), (("name" : Str), nm), (("made" : Str), D.opq x)] := by
  rw [l4]
  rcases hn with ⟨rfl, _⟩ | ⟨sp, wd, rfl, _⟩ <;> rfl
 rw [eρ] at c₄
 generalize hρ' : ([(("number" : Str), D.int i), (("name" : Str), nm), (("made" : Str), D.opq x)] : Rho) = ρ' at c₄
 have m1 : ρ'.lookup ("made" : Str) = some (.opq x) := by rw [← hρ']; rfl
 have m2 : ρ'.lookup ("name" : Str) = some nm := by rw [← hρ']; rfl
 have gd4 : s₄.heap.get? dx = some (dictOf [⟨H, .str "root" kt, .int i t⟩] 1) := SameBut.up sb₄ (Ne.symm hlq) gd
 have gx4 : s₄.heap.get? x = some (instObj C dx) := SameBut.up sb₄ (fun q => bxY (.tail _ (q ▸ c.loc))) gx
 have hcl : ∀ y cc, K.lookup y = some .cell → env.cells.lookup y = some cc → cc ≠ dx := fun y cc h zz => absurd h (kl y)
 refine wpAny_execs_cons (plainObj_wpAny_Assign_Attribute (PyProof.Rows.Constant_none ?_))
 refine zaO ok2 (n := 5) (zH (by decide) m1 rfl) c₄.cxt fun s₅ g₅ => ?_
 have c₅ := c₄.gr g₅
 have gd5 := g₅.heap _ _ (c₄.cx.notTab gd4 xJ) gd4
 have gx5 := g₅.heap _ _ (c₄.cx.notTab gx4 fun ⟨vs, q, _⟩ => by cases q) gx4
 have tk3 := tk2.trans c.cx.ti (Stp.gr g₅)
 refine zeq (Kf := Kf) (X₀.keeps c₅.cx.hb) NC.set gx5 gd5 NC.over NC.tag NC.has (by rfl) (es' := fun kt' => [⟨H, .str "root" kt, .int i t⟩, ⟨PyData.keyHash G.w.params "tag", .str "tag" kt', .none⟩]) (n' := 2) (fun tk => znr _ _ _ _ _ _) (fun tk => by simp) fun h6 kt' t6 hs6 gd6 => ?_
 refine zk (c₅.change (t := t6) (.head _) hlq hcl gd5 (fun vs n => zcJ) hs6 gd6 xJ) fun tk6 c₆ => ?_
 have gx6 : h6.get? x = some (instObj C dx) := SameBut.up hs6 hne gx5
 have tk7 := tk3.trans c.cx.ti tk6
 generalize hs7 : ({ s₅ with heap := h6, toks := t6 } : Shared) = s₆ at *
 have gd6' : s₆.heap.get? dx = some (dictOf [⟨H, .str "root" kt, .int i t⟩, ⟨PyData.keyHash G.w.params "tag", .str "tag" kt', .none⟩] 2) := by rw [← hs7]; exact gd6
 have gx6' : s₆.heap.get? x = some (instObj C dx) := by rw [← hs7]; exact gx6
 have fin : ∀ (s₈ : Shared) (vt : Value) (kt8 : Tok), Stp G Y s (dx :: Y) s₈ → StC G (k + 2) A X (dx :: Y) s₈ env K ρ' → s₈.heap.get? x = some (instObj C dx) → s₈.heap.get? dx = some (dictOf [⟨H, .str "root" kt, .int i t⟩, ⟨PyData.keyHash G.w.params "tag", .str "tag" kt8, vt⟩] 2) →
   ((tg = none ∧ vt = .none) ∨ ∃ y tt, tg = some y ∧ vt = .str y tt) → wpAny (model G.prog G.w) A (execs [.Return (some (.Name "made" sr2)) sr3] env) (x4 G (k + 2) A X env K Y s (.ret (.node i tg))) E s₈ := by
  intro s₈ vt kt8 tk8 c₈ gx8 gd8 ht
  refine zde (zaO ok2 (n := 5) (zH (by decide) m1 rfl) c₈.cxt fun s₉ g₉ => ?_)
  refine ⟨dx :: Y, tk8.trans c.cx.ti (Stp.gr g₉), _, rfl, ?_⟩
  refine ⟨x, rfl, dx, _, 2, t, vt, bxc, c₈.dis dx (.head _), ?_, g₉.heap _ _ (c₈.cx.notTab gd8 xJ) gd8, ?_, ?_, ?_⟩
  ·rw [hC]; exact g₉.heap _ _ (c₈.cx.notTab gx8 fun ⟨vs, q, _⟩ => by cases q) gx8
  ·rfl
  ·rfl
  ·rcases ht with ⟨h1, h2⟩ | ⟨y, tt, h1, h2⟩
   ·rw [h1]; exact h2
   ·rw [h1]; exact ⟨tt, h2⟩
 rcases hn with ⟨rfl, rfl⟩ | ⟨sp, wd, rfl, h1, h2, rfl⟩
 ·refine wpAny_execs_cons (wpAny_If (((zt ok2 5).ts _ _ _ _ (yP (n := 4) (zH (by decide) m2 rfl) yN (c := false) rfl)).post c₆.cxt fun s₇ g₇ => ?_))
  refine wpAny_execs_nil ?_
  have c₇ := c₆.gr g₇
  exact wpAny_mono (fin s₇ .none _ (tk7.trans c.cx.ti (Stp.gr g₇)) c₇ (g₇.heap _ _ (c₆.cx.notTab gx6' fun ⟨vs, q, _⟩ => by cases q) gx6') (g₇.heap _ _ (c₆.cx.notTab gd6' xJ) gd6') (.inl ⟨rfl, rfl⟩)) kQ₀ kE₀
 ·refine wpAny_execs_cons (wpAny_If (((zt ok2 5).ts _ _ _ _ (yP (n := 4) (zH (by decide) m2 rfl) yN (c := true) rfl)).post c₆.cxt fun s₇ g₇ => ?_))
  have c₇ := c₆.gr g₇
  have gx7 := g₇.heap _ _ (c₆.cx.notTab gx6' fun ⟨vs, q, _⟩ => by cases q) gx6'
  have gd7 := g₇.heap _ _ (c₆.cx.notTab gd6' xJ) gd6'
  refine wpAny_execs_cons (plainObj_wpAny_Assign_Attribute (((zt ok2 8).ev _ _ _ _ (hr1 cf K ρ' sp wd m2 h1 h2) _ _ s₇ env c₇.cxt).post fun vv s₈ g₈ r8 => ?_) (hsw _ _ _))
  refine zU r8.str fun t8 zz1 => ?_; subst zz1
  have c₈ := c₇.gr g₈
  refine zaO ok2 (n := 5) (zH (by decide) m1 rfl) c₈.cxt fun s₉ g₉ => ?_
  have c₉ := c₈.gr g₉
  have g89 := g₈.trans g₉
  have gx9 := g89.heap _ _ (c₇.cx.notTab gx7 fun ⟨vs, q, _⟩ => by cases q) gx7
  have gd9 := g89.heap _ _ (c₇.cx.notTab gd7 xJ) gd7
  refine zeq (Kf := Kf) (X₀.keeps c₉.cx.hb) NC.set gx9 gd9 NC.over NC.tag NC.has (by rfl) (es' := fun zz => [⟨H, .str "root" kt, .int i t⟩, ⟨PyData.keyHash G.w.params "tag", .str "tag" kt', .str (zc6 sp wd) t8⟩]) (n' := 2) (fun tk => zlM _ _ _ _ _ _ _ _ _) (fun tk => by simp) fun h10 kt10 t10 hs10 gd10 => ?_
  refine zk (c₉.change (t := t10) (.head _) hlq hcl gd9 (fun vs n => zcJ) hs10 gd10 xJ) fun tk10 c10 => ?_
  refine wpAny_execs_nil ?_
  exact wpAny_mono (fin _ (.str (zc6 sp wd) t8) _ (((tk7.trans c.cx.ti (Stp.gr (g₇.trans g89)))).trans c.cx.ti tk10) c10 (SameBut.up hs10 hne gx9) gd10 (.inr ⟨_, _, rfl, rfl⟩)) kQ₀ kE₀
theorem zmP {G : Gd} {k : Nat} {cf : Cf} {Kf : Frag} {C fI : Addr} {oI o : Obj} {fdI fd : FuncData} (ok : zZ G cf k) (X₀ : Kf.In G.hb) (NC : x0 Kf C fI) {p1 p2 p3 p4 : Pos} (frI : zn G fI oI fdI (zg7 p1 p2 p3 p4) zfx ["self", "root"])
  (fr : zn G 132 o fd (zM 20) (zE 20) ["number", "name"]) (hG : cf.Γ "_SelectorContext" = some (.opq C)) (hC : G.C = C) (hnc : ∃ oc : Obj, Kf.lookup C = some oc) {i : Int} {nm : D} {tg : Option Str}
  (hn : (nm = .none ∧ tg = none) ∨ ∃ sp wd, nm = .tup [.str sp, .str wd] ∧ sp.length ≤ 1000 ∧ wd.length ≤ 1000 ∧ tg = some (zc6 sp wd)) :
  FnC G (k + 3) 132 [.int i, nm] (.node i tg) := by
 refine zcT fr rfl fun A X Y s env c E => ?_
 refine zoe ok X₀ NC frI hG hC hnc hn (fun zz zz zz => rfl) ?_ c
 intro cf K ρ sp wd h h1 h2
 have nm : ∀ n p, evD cf (n + 1) K ρ (.Name "name" p) = some (.tup [.str sp, .str wd]) := fun n p => zH (by decide) h rfl
 have i0 : ∀ n p q r, evD cf (n + 2) K ρ (.Subscript (.Name "name" p) (.Constant (.int 0) 0 q) r) = some (.str sp) := fun n p q r => yn (nm _ _) rfl
 have i1 : ∀ n p q r, evD cf (n + 2) K ρ (.Subscript (.Name "name" p) (.Constant (.int 1) 0 q) r) = some (.str wd) := fun n p q r => yn (nm _ _) rfl
 have hb : zK = 1000000 := rfl
 refine zov (c := (sp == ("" : Str))) (yP (i0 _ _ _ _) yo rfl) ?_
 unfold zc6
 by_cases hs : sp = ("" : Str)
 ·subst hs
  rw [if_pos (by decide), if_pos rfl]
  exact i1 _ _ _ _
 ·rw [if_neg (by simpa using hs), if_neg hs]
  have l1 : (("{" : Str) ++ sp).length = 1 + sp.length := by rw [strLen_append]; rfl
  have l2 : (("{" : Str) ++ sp ++ ("}" : Str)).length = 2 + sp.length := by rw [strLen_append, l1]; show 1 + sp.length + 1 = _; lia
  refine yX (yX (yX yo (i0 _ _ _ _) (za7 ?_)) yo (za7 ?_)) (i1 _ _ _ _) (za7 ?_)
  ·show 1 + sp.length ≤ _; lia
  ·rw [l1]; show 1 + sp.length + 1 ≤ _; lia
  ·rw [l2]; lia
section
structure zeG (G : Gd) (c P : Addr) (q : Str) : Prop where
 code : CodeHd G.hb c P
 mem : P ∈ G.T
 ok : ∀ h, G.TI h → ∃ ps, h.get? P = some (tabObj ps) ∧ TriplesOk ps.toList ∧ ∀ pos cv, codeAmong pos ps.toList = some cv → h.CodeRec cv q
 grow : ∀ h h' ps (pos : Pos) c', G.TI h → h.get? P = some (tabObj ps) → Heap.ExtBut P h h' → h'.get? P = some (tabObj (ps ++ #[rawInt pos.line, rawInt pos.col, .ref c'])) → h'.CodeRec (.ref c') q → G.TI h'
 bi : G.hb.BuiltinsAt G.mg P
 notT : ∀ h a q, G.TI h → h.CodeRec (.ref a) q → a ∉ G.T
theorem zgI {h h' : Heap} {mg : Str → Option Value} {P : Addr} (x : h.BuiltinsAt mg P) (k : ∀ b o, h.get? b = some o → h'.get? b = some o) : h'.BuiltinsAt mg P := by
 refine zhL x fun bm o a b c d e r => ?_
 exact ⟨bm, o, a, b, c, d, k _ _ e, r⟩
noncomputable abbrev zdy (fd : FuncData) : Obj := { cls := .type "function", data := .func fd }
section
variable {G : Gd} {A : Around} {E : Value → Shared → Prop} {s : Shared} {name qual : Str} {params : Arguments} {scope : Scope} {env : Env} {c P : Addr} {pos : Pos} {firstLine : Nat} {clos : List (Str × Addr)} {Q : Value → Shared → Prop}
theorem zky {body : Expr} (TG : zeG G c P qual) (cx : Cx G s.heap) (hcl : closureFor scope env = pure clos) (hcode : env.code = .ref c) (hg0 : env.globals = mainGlobals)
  (h : ∀ f s' cv ctv, Gr G s s' → s.heap.get? f = none → f ∉ G.T → s'.heap.get? f = some (zdy (kla_fn name qual params body scope clos ((G.mg "__name__").getD .none) cv ctv)) → s'.heap.CodeRec cv qual → Q (.ref f) s') :
  wpAny (model G.prog G.w) A (makeFunction name qual params (.expr body) scope env [] [] [] pos firstLine) Q E s := by
 refine x2 (TG.ok _ cx.ti) fun ps hP ht hcodes => ?_
 have hg : s.heap.Ns mainGlobals G.mg := G.hmg.at' fun o e => cx.hb _ o e
 have C := TG.code.keeps cx.hb
 have hb := zgI TG.bi cx.hb
 have hgP : mainGlobals ≠ P := fun q => by
  refine yI hg fun o es ep e hd zz5 => ?_
  rw [q, hP] at e; cases e; cases hd
 have freshT : ∀ f, s.heap.get? f = none → f ∉ G.T := fun f hf hT => by
  refine zU (G.tabs _ cx.ti f hT) fun vs e => ?_
  rw [hf] at e; cases e
 cases hca : codeAmong pos ps.toList with
 | none =>
  refine kla_makeFunction hcl hg0 hg hcode C hP ht hca hgP hb fun c' ctv h' tk hx hge hlt hrec htb => ?_
  have hsz : s.heap.objs.size ≤ h'.objs.size := Nat.le_trans hge (Nat.le_of_lt hlt)
  have ti' : G.TI h' := TG.grow _ _ ps pos c' cx.ti hP hx htb hrec
  have nf : s.heap.get? h'.objs.size = none := zT hsz
  refine h h'.objs.size _ (.ref c') ctv ⟨fun b o hb e => Heap.get?_push_of_some _ (hx b o (fun q => hb (q ▸ TG.mem)) e), fun zz => G.frame _ _ ti' fun b o zz e => Heap.get?_push_of_some _ e, rfl, id⟩ nf (freshT _ nf) (Heap.get?_push_size _ rfl) (CodeRec.up hrec fun b o e => Heap.get?_push_of_some _ e)
 | some cv =>
  refine kla_makeFunctionHit hcl hg0 hg hcode C hP ht hca hb fun ctv h' tk hk hsz => ?_
  have nf : s.heap.get? h'.objs.size = none := zT hsz
  refine h h'.objs.size _ cv ctv (Gr.of fun b o e => Heap.get?_push_of_some _ (hk b o e)) nf (freshT _ nf) (Heap.get?_push_size _ rfl) (CodeRec.up (hcodes _ _ hca) fun b o e => Heap.get?_push_of_some _ (hk b o e))
theorem zoc {body : List Stmt} (TG : zeG G c P qual) (cx : Cx G s.heap) (hcl : closureFor scope env = pure clos) (hcode : env.code = .ref c) (hg0 : env.globals = mainGlobals)
  (h : ∀ f s' cv ctv doc, Gr G s s' → s.heap.get? f = none → f ∉ G.T → s'.heap.get? f = some (zdy (fnX name qual params body scope clos .none .none doc ((G.mg "__name__").getD .none) none cv ctv)) → s'.heap.CodeRec cv qual → Q (.ref f) s') :
  wpAny (model G.prog G.w) A (makeFunction name qual params (.stmts body) scope env [] [] [] pos firstLine) Q E s := by
 refine x2 (TG.ok _ cx.ti) fun ps hP ht hcodes => ?_
 have hg : s.heap.Ns mainGlobals G.mg := G.hmg.at' fun o e => cx.hb _ o e
 have C := TG.code.keeps cx.hb
 have hb := zgI TG.bi cx.hb
 have hgP : mainGlobals ≠ P := fun q => by
  refine yI hg fun o es ep e hd zz5 => ?_
  rw [q, hP] at e; cases e; cases hd
 have freshT : ∀ f, s.heap.get? f = none → f ∉ G.T := fun f hf hT => by
  refine zU (G.tabs _ cx.ti f hT) fun vs e => ?_
  rw [hf] at e; cases e
 cases hca : codeAmong pos ps.toList with
 | none =>
  refine makeFunction_K hcl hg0 hg hcode C hP ht hca hgP hb fun c' ctv doc h' tk hx hge hlt hrec htb => ?_
  have hsz : s.heap.objs.size ≤ h'.objs.size := Nat.le_trans hge (Nat.le_of_lt hlt)
  have ti' : G.TI h' := TG.grow _ _ ps pos c' cx.ti hP hx htb hrec
  have nf : s.heap.get? h'.objs.size = none := zT hsz
  refine h h'.objs.size _ (.ref c') ctv doc ⟨fun b o hb e => Heap.get?_push_of_some _ (hx b o (fun q => hb (q ▸ TG.mem)) e), fun zz => G.frame _ _ ti' fun b o zz e => Heap.get?_push_of_some _ e, rfl, id⟩ nf (freshT _ nf) (Heap.get?_push_size _ rfl) (CodeRec.up hrec fun b o e => Heap.get?_push_of_some _ e)
 | some cv =>
  refine makeFunction_hit hcl hg0 hg hcode C hP ht hca hb fun ctv doc h' tk hk hsz => ?_
  have nf : s.heap.get? h'.objs.size = none := zT hsz
  refine h h'.objs.size _ cv ctv doc (Gr.of fun b o e => Heap.get?_push_of_some _ (hk b o e)) nf (freshT _ nf) (Heap.get?_push_size _ rfl) (CodeRec.up (hcodes _ _ hca) fun b o e => Heap.get?_push_of_some _ (hk b o e))
end
theorem zbu {ps : Array Value} {q : Str} {t : Tok} (h : TriplesOk ps.toList) : ps[1]? ≠ some (.str q t) := by
 intro e
 rw [← Array.getElem?_toList] at e
 cases hl : ps.toList with
 | nil => rw [hl] at e; exact zA e
 | cons a r =>
  rw [hl] at e h
  cases r with
  | nil => exact zA e
  | cons b r =>
   simp at e
   subst e
   cases a <;> first | exact h.elim | (cases r <;> exact h.elim)
theorem zgd {prog w hb T q C mg mb hmg hmb nolim hT} {c P : Addr} (hc : CodeHd hb c P) (hP : P ∈ T) (hbi : hb.BuiltinsAt mg P) : zeG (zof prog w hb T q C mg mb hmg hmb nolim hT) c P (q P) where
 code := hc
 mem := hP
 ok := fun h ti => ti P hP
 bi := hbi
 notT := fun h a qq ti hc haT => by
  refine x2 (ti a haT) fun ps e t0 zz3 => ?_
  refine zmv hc fun c oc vs tq he hoc hd hq => ?_
  cases he
  rw [e] at hoc; cases hoc; cases hd
  exact zbu t0 hq
 grow := by
  intro h h' ps pos c' ti e hx e' hr P' hP'
  have tk : ∀ a o, h.get? a = some o → a ≠ P → h'.get? a = some o := fun a o ea hne => hx a o hne ea
  refine x2 (ti P hP) fun ps0 e0 t0 r0 => ?_
  rw [e] at e0; cases e0
  have recs : ∀ cv qq, h.CodeRec cv qq → h'.CodeRec cv qq := by
   rintro cv qq ⟨c, oc, vs, tq, hc, hoc, hd, hq⟩
   refine ⟨c, oc, vs, tq, hc, hx c oc (fun z => ?_) hoc, hd, hq⟩
   subst z
   rw [e] at hoc; cases hoc; cases hd
   exact zbu t0 hq
  by_cases h1 : P' = P
  ·subst h1
   refine ⟨_, e', ?_, fun pos' cv hca => ?_⟩
   ·simp only [Array.toList_append]
    exact TriplesOk_snoc _ _ _ _ t0
   ·simp only [Array.toList_append] at hca
    rcases zb2 ps.toList t0 hca with z | z
    ·exact recs _ _ (r0 pos' cv z)
    ·subst z; exact hr
  ·refine x2 (ti P' hP') fun ps1 e1 t1 r1 => ?_
   exact ⟨ps1, hx _ _ h1 e1, t1, fun pos' cv z => recs _ _ (r1 pos' cv z)⟩
end
section
open PySem.Builtin PySem.Builtin.Re
theorem zeH : Slot "re.Pattern" "sub" "re.Pattern.sub" :=
 Slot.of (owner := "re.Pattern") (n := "sub") (by rw [typeLookup_type, builtinLookup_eq_fast]; kernel_rfl) (by decide +kernel) (by decide +kernel) (by decide +kernel) (.inr (by decide +kernel)) (by rw [isSubtype_type]; kernel_rfl)
theorem zk7 : typeOf (.builtin "re.Pattern.sub") = pure (.type "method_descriptor") := by show builtinType _ = _; rw [builtinType_eq_fast]; kernel_rfl
theorem zj5 : entryFor table "re.Pattern.sub" = some Builtin.«re.Pattern.sub» := entryFor_of_tree (by kernel_rfl)
theorem zfc : entryFor table "re.Pattern.sub.loop" = some Builtin.«re.Pattern.sub.loop» := entryFor_of_tree (by kernel_rfl)
theorem zb3 : plainId "re.Pattern.sub.loop" = true := by decide +kernel
theorem zic (a b c : Value) : argsOk "re.Pattern.sub" ⟨[a, b, c], []⟩ := by
 unfold argsOk; kernel_rfl
theorem zev : PlainAttrs "re.Pattern" :=
 ⟨⟨"object.__getattribute__", by rw [typeLookup_type, builtinLookup_eq_fast]; kernel_rfl, by decide +kernel⟩, by rw [typeLookup_type, builtinLookup_eq_fast]; kernel_rfl⟩
theorem zf2 : typeLookup (.type "function") "__call__" = pure (some (.builtin "function.__call__")) := by rw [typeLookup_type, builtinLookup_eq_fast]; kernel_rfl
noncomputable def zbB : Array Nat := #[14, 14, 4, 1, 1, 9, 0, 64, 0, 1342177280, 0, 0, 0, 0, 0, 17, 0, 13, 11, 9, 0, 64, 0, 1342177280, 0, 0, 0, 0, 0, 17, 1, 1]
theorem zjJ {M : Model} {A : Around} {E : Value → Shared → Prop} {s : Shared} {n : Nat} {m : Sre.M} (h : (m.runFor reTurnSteps).outcome.isSome = true) {Q : Sre.M → Shared → Prop} (hq : Q (m.runFor reTurnSteps) s) : wpAny M A (reDrive (n + 1) m) Q E s := by
 unfold reDrive
 dsimp only
 rw [if_pos h]
 exact wpAny_pure hq
theorem zeg {M : Model} {A : Around} {E : Value → Shared → Prop} {s : Shared} (c : Nat → Bool) (f : Nat → String) : ∀ (l : List Nat) {Q : PUnit → Shared → Prop}, Q ⟨⟩ s → wpAny M A (forIn l (⟨⟩ : PUnit) fun i (r : PUnit) => (if c i = true then do rule (f i); pure (ForInStep.yield ⟨⟩) else pure (ForInStep.yield ⟨⟩) : Sem (ForInStep PUnit))) Q E s
 | [], Q, h => wpAny_pure h
 | i :: l, Q, h => by
  rw [List.forIn_cons]
  refine wpAny_bind ?_
  split
  ·exact wpAny_bind (wpAny_rule (wpAny_pure (zeg c f l h)))
  ·exact wpAny_pure (zeg c f l h)
theorem zlT {M : Model} {A : Around} {E : Value → Shared → Prop} {s : Shared} {k : Nat} (hk : k = 42 ∨ k = 63 ∨ k = 91) {Q : Option Sre.M → Shared → Prop} (hq : Q none s) : wpAny M A (reRunToEnd (Sre.forSearch zbB #[k] 1 0 1 false)) Q E s := by
 unfold reRunToEnd
 have h1 : ((Sre.forSearch zbB #[k] 1 0 1 false).runFor reTurnSteps).outcome.isSome = true := by rcases hk with rfl | rfl | rfl <;> decide +kernel
 have h2 : ((Sre.forSearch zbB #[k] 1 0 1 false).runFor reTurnSteps).outcome = some .failed := by rcases hk with rfl | rfl | rfl <;> kernel_rfl
 refine wpAny_bind ?_
 rw [show (2 ^ 64 : Nat) = 18446744073709551615 + 1 from rfl]
 refine zjJ h1 ?_
 generalize (Sre.forSearch zbB #[k] 1 0 1 false).runFor reTurnSteps = m at *
 refine wpAny_bind (zeg _ _ _ ?_)
 rw [h2]
 exact wpAny_pure hq
end
section
open PySem.Builtin PySem.Builtin.Re
section
variable {prog : Program} {w : World} {A : Around} {E : Value → Shared → Prop} {s : Shared}
noncomputable abbrev zdh (b : Addr) (t1 t2 : Tok) (x : Str) : Obj := { cls := .type "re.Pattern", data := .fields #[.str x t1, .int 32 t2, .int 1 0, .none, .none, .ref b, .int 0 0] }
theorem zfS {a b : Addr} {t1 t2 t : Tok} {x y : Str} {vs : Array Value} {n : Nat} (ha : s.heap.get? a = some (zdh b t1 t2 x)) (hb : ∃ ob, s.heap.get? b = some ob ∧ ob.data = .seq vs n) (hv : (vs.map reRawOf).map (·.toNat) = zbB) {Q : ReTarget → Shared → Prop}
  (h : ∀ T : ReTarget, T.code = zbB → T.text = y.cps → T.kind = 0 → T.groups = 1 → T.lim = y.cps.size → Q T s) : wpAny (model prog w) A (reWholeTarget (.ref a) (.str y t)) Q E s := by
 refine wpAny_bind (wpAny_fieldsOf ha rfl ?_)
 refine wpAny_bind (wpAny_of_eq (a := (y.cps, 0)) (by rfl) ?_)
 refine wpAny_bind (wpAny_of_eq (a := ()) (by rfl) ?_)
 refine zQ hb fun ob h1 h2 => ?_
 refine wpAny_bind ?_
 refine wpAny_bind ?_
 show wpAny _ _ (load b >>= _) _ _ _
 refine wpAny_bind (wpAny_load h1 ?_)
 rw [h2]
 refine wpAny_pure (wpAny_pure (wpAny_pure ?_))
 exact h _ hv rfl rfl rfl rfl
theorem zig {a b l : Addr} {t1 t2 t : Tok} {x : Str} {k : Nat} {vs : Array Value} {n : Nat} {repl : Value} (hk : k = 42 ∨ k = 63 ∨ k = 91) (ha : s.heap.get? a = some (zdh b t1 t2 x)) (hb : ∃ ob, s.heap.get? b = some ob ∧ ob.data = .seq vs n) (hv : (vs.map reRawOf).map (·.toNat) = zbB)
  (hl : s.heap.get? l = some (zW [] 0)) {R : Result → Shared → Prop} (h : ∀ h' tk t', Heap.SameBut l s.heap h' → R (.ok (.ret (.str ⟨#[k]⟩ t'))) { s with heap := h', toks := tk }) :
  codeAny (model prog w) A (.builtin "re.Pattern.sub.loop" ⟨[.ref a, .str ⟨#[k]⟩ t, repl, rawInt 1, rawInt 0, rawInt 0, rawInt 0, rawInt 0, .bool false, .ref l, .bool false], []⟩) R s := by
 refine codeAny_builtin zfc ?_
 rw [Around.under_plainId zb3 _]
 dsimp only [rawInt]
 refine wpAny_bind (zfS ha hb hv fun T e1 e2 e3 e4 e5 => ?_)
 rw [if_neg (by decide)]
 refine wpAny_bind ?_
 rw [if_neg (by decide)]
 unfold reNextFound
 rw [e1, e2, e4, e5]
 refine zlT hk ?_
 dsimp only
 rw [e3]
 rw [if_pos (by rcases hk with rfl | rfl | rfl <;> decide)]
 unfold reSlice
 simp only [beq_self_eq_true, if_true]
 refine wpAny_bind (wpAny_mkStr ?_ (by rcases hk with rfl | rfl | rfl <;> decide))
 refine wpAny_bind (wpAny_updateSeq hl rfl ?_ (by decide) (by show (1 : Nat) ≤ sizeLine + 1; decide))
 refine wpAny_bind (wpAny_mkStr ?_ (by rcases hk with rfl | rfl | rfl <;> decide))
 have hl2 : (s.heap.update l (Obj.mapSeq (·.push (.str ⟨#[k]⟩ s.toks)))).get? l = some (zW [.str ⟨#[k]⟩ s.toks] 1) := by
  rw [Heap.get?_update_self _ hl rfl]; rfl
 refine wpAny_bind ?_
 show wpAny _ _ (load l >>= _) _ _ _
 refine wpAny_bind (wpAny_load (o := zW [.str ⟨#[k]⟩ s.toks] 1) hl2 ?_)
 refine wpAny_pure ?_
 rw [if_neg (by simp)]
 refine wpAny_bind ?_
 refine PyProof.Rows.join_list (items := #[.str ⟨#[k]⟩ s.toks]) ⟨_, hl2, rfl, 1, rfl⟩ (.cons _ _ .nil) (by rcases hk with rfl | rfl | rfl <;> decide) fun t' kk => ?_
 have e : Txt.join (⟨(#[k] : Array Nat).extract 0 0⟩ : Str) [(⟨#[k]⟩ : Str)] = ⟨#[k]⟩ := by rcases hk with rfl | rfl | rfl <;> decide
 have hs : Heap.SameBut l s.heap (s.heap.update l (Obj.mapSeq (·.push (.str ⟨#[k]⟩ s.toks)))) := Heap.SameBut.update _ _ _
 dsimp only
 rw [if_neg (by decide)]
 rw [e]
 exact wpAny_pure (h _ _ _ hs)
theorem zod {a b f : Addr} {t1 t2 t : Tok} {x : Str} {k : Nat} {vs : Array Value} {n : Nat} {fd : FuncData} (hk : k = 42 ∨ k = 63 ∨ k = 91) (ha : s.heap.get? a = some (zdh b t1 t2 x)) (hb : ∃ ob, s.heap.get? b = some ob ∧ ob.data = .seq vs n) (hv : (vs.map reRawOf).map (·.toNat) = zbB)
  (hf : s.heap.get? f = some (zdy fd)) {Q : Value → Shared → Prop} (h : ∀ h' tk t', (∀ b o, s.heap.get? b = some o → h'.get? b = some o) → Q (.str ⟨#[k]⟩ t') { s with heap := h', toks := tk }) :
  wpAny (model prog w) A (call (.builtin "re.Pattern.sub") [.ref a, .ref f, .str ⟨#[k]⟩ t]) Q E s := by
 refine wpAny_call (codeAny_call_builtin zeH.plain zj5 (zeH.check _ _ _ _ _ _ _ _ ⟨_, ha, rfl⟩ (zic _ _ _) ?_))
 show wpAny _ _ (reSubstitute "re.Pattern.sub" "sub" false ⟨[.ref a, .ref f, .str ⟨#[k]⟩ t], []⟩) _ _ _
 refine wpAny_bind (wpAny_of_eq (a := [some (.ref f), some (.str ⟨#[k]⟩ t), none]) (by rfl) ?_)
 refine wpAny_bind (wpAny_pure ?_)
 have hT : s.TypeIs (.ref f) "function" := ⟨_, hf, rfl⟩
 refine wpAny_bind (wpAny_specialOf hT zf2 ?_)
 dsimp only [Option.isSome]
 refine wpAny_bind (wpAny_pure ?_)
 refine wpAny_bind (wpAny_pure ?_)
 dsimp only
 refine wpAny_bind (wpAny_holding (zfS ha hb hv fun T e1 e2 e3 e4 e5 => ?_))
 rw [if_pos (by decide)]
 refine wpAny_bind ?_
 refine wpAny_bind (wpAny_isInstance (T := "str") (b := false) (typeIs_str _ _ _) (by rw [isSubtype_type]; kernel_rfl) ?_)
 rw [if_neg (by decide)]
 refine wpAny_pure ?_
 refine wpAny_bind (wpAny_newObj_type ?_)
 refine wpAny_pure ⟨plainId_quiet zb3 _, ?_⟩
 have up : ∀ b o, s.heap.get? b = some o → (s.heap.push (zW [] 0)).get? b = some o := fun b o e => Heap.get?_push_of_some _ e
 refine zig (s := { s with heap := s.heap.push (zW [] 0) }) (l := s.heap.objs.size) hk (up _ _ ha) (by refine zQ hb fun ob h1 h2 => ?_; exact ⟨ob, up _ _ h1, h2⟩) hv (Heap.get?_push_size _ rfl) fun h' tk t' hs => ?_
 refine h h' tk t' fun c o e => SameBut.up hs (fun q => ?_) (up _ _ e)
 subst q
 rw [zT (Nat.le_refl _)] at e; exact zA e
end
section
variable {G : Gd} {k n : Nat} {cf : Cf} {A : Around} {X : List Addr} {s : Shared} {env : Env} {K : Kn} {ρ : Rho}
theorem zlP (ok : zZ G cf k) (c : Cxt G k A X s env K ρ) {cc P a b : Addr} {qual : Str} (TG : zeG G cc P (qual ++ ("<lambda>" : Str))) (hK : x5 K = some (.ref cc, qual)) {fp apos lp sp pos : Pos} {params : Arguments} {body : Expr} {scope : Scope}
  (hpos : (apos.endLine == pos.line) = true) (hlam : zft params scope = true) (hre : G.mg "_twin_re_1" = some (.ref a)) (hkre : K.lookup ("_twin_re_1" : Str) = some .globalImplicit)
  {t1 t2 : Tok} {x : Str} {vs : Array Value} {m : Nat} {z : Nat} (hz : z = 42 ∨ z = 63 ∨ z = 91) (ha : G.hb.get? a = some (zdh b t1 t2 x)) (hb : ∃ ob, G.hb.get? b = some ob ∧ ob.data = .seq vs m) (hv : (vs.map reRawOf).map (·.toNat) = zbB)
  (hs : ρ.lookup ("stuff" : Str) = some (D.str ⟨#[z]⟩)) : Ev G A X s (eval (.Call (.Attribute (.Name "_twin_re_1" fp) "sub" apos) [.Lambda params body scope lp, .Name "stuff" sp] [] pos) env) (.str ⟨#[z]⟩) := by
 intro E
 unfold zft at hlam
 rw [Bool.and_eq_true, Bool.and_eq_true] at hlam
 refine zk hlam fun zz0 l3 => ?_; rcases zz0 with ⟨l1, l2⟩
 have hfree : ∀ y ∈ scope.names, y.2 ≠ .free := fun y hy q => by
  have := List.all_eq_true.mp l1 y hy
  rw [q] at this; cases this
 have hd0 : params.defaults = [] := by simpa using l2
 have hd1 : params.kw_defaults = [] := by simpa using l3
 have st : starEach [.Lambda params body scope lp, .Name "stuff" sp] env = [(false, eval (.Lambda params body scope lp) env), (false, eval (.Name "stuff" sp) env)] := rfl
 have hcode := (c.env.k.code _ hK).1
 have hqual := (c.env.k.code _ hK).2
 have hk' : env.kindOf "_twin_re_1" = some .globalImplicit := by unfold Env.kindOf; rw [c.env.k.names]; exact hkre
 have ng : s.heap.Ns env.globals G.mg := by rw [c.env.k.glob]; exact G.hmg.at' fun o e => c.cx.hb _ o e
 refine wpAny_Call_method_lateS rfl (by rw [st]; rfl) hpos (Name_function_global c.env.k.kind hk' (loadGlobal_global ng hre ?_) (by decide))
 rw [st]
 have ha0 := c.cx.hb _ _ ha
 refine ⟨"re.Pattern", "re.Pattern.sub", zev, zeH, zk7, ⟨_, ha0, rfl⟩, (fun b e => by cases e; exact ⟨_, ha0, rfl⟩), callWith_builtin rfl (evalArgs_plain (spliced_cons (kla_eval ?_ ?_)))⟩
 ·obtain ⟨a1, a2, a3, a4, a5, a6, a7⟩ := params
  dsimp only at hd0 hd1
  subst hd0 hd1
  rfl
 ·rw [hqual]
  refine zky TG c.cx (closureFor_none hfree) hcode c.env.k.glob fun f s₁ cv ctv g₁ nf nT hf hcv => ?_
  have c₁ := c.gr g₁
  refine spliced_cons ((ziE c₁ "stuff" sp hs (by simp) (by simp) (by decide) (by decide)).post fun v s₂ g₂ r => spliced_nil ?_)
  refine zU r.str fun t zz1 => ?_; subst zz1
  have c₂ := c₁.gr g₂
  refine zod hz (c₂.cx.hb _ _ ha) (by refine zQ hb fun ob h1 h2 => ?_; exact ⟨ob, c₂.cx.hb _ _ h1, h2⟩) hv (g₂.heap _ _ nT hf) fun h' tk t' kp => ⟨(g₁.trans g₂).trans (Gr.of kp), Rd.rv Rd.str'⟩
end
end
section
section
variable {M : Model} {A : Around} {R : GenEnd} {Y : Protocol} {n : Nat} {s₀ : Shared} {c : Code} {fs : List Frame} {s : Shared} {env : Env}
 {K : Flow → Sem Fin} {H : Value → Sem Fin} {gd : Bool → Bool} {lv : List Value → List Value}
noncomputable abbrev zdP (env : Env) (K : Flow → Sem Fin) (H : Value → Sem Fin) (gd : Bool → Bool) (lv : List Value → List Value) (c : Code) (p : Pos) : Frame :=
 .ret (fun r => ((match r with | .ok f => (.pure f : Sem Flow) | .error e => .raise e).onRaise fun (x : Value) => do
    if (← field x 1) == Value.none then unsupported "frame.own-activation:exception-without-traceback"
    setFlight x env.frame).wrap K H gd lv) none (gd false) (lv []) c p []
theorem zm7 {target iter : Expr} {body orelse : List Stmt} {pos : Pos} (hs : ∀ x, foldedSetIterable iter env x = pure x)
  (h : wpAny M (A.over c fs) (eval iter env) (fun x s₁ => wpAny M (A.over c fs) (pyIter x) (fun it s₂ => ∀ p, Seg M A R Y n s₀ (.forLoop target it body orelse env) (M.den (.forLoop target it body orelse env)) (zdP env K H gd lv c p :: fs) s₂)
   (fun x s' => Seg M A R Y n s₀ c (H x) fs s') s₁) (fun x s' => Seg M A R Y n s₀ c (H x) fs s') s) :
  Seg M A R Y n s₀ c ((exec (.For target iter body orelse pos) env).wrap K H gd lv) fs s := by
 rw [exec_For]
 refine seg_bind_wrap (wpAny_standAt ?_)
 refine seg_bind_wrap (wpAny_mono h (fun x s₁ h₁ => ?_) fun zz zz e => e)
 refine seg_bind_wrap (wpAny_of_eq (hs x) ?_)
 refine seg_bind_wrap (wpAny_standAt ?_)
 refine seg_bind_wrap (wpAny_holding (wpAny_mono h₁ (fun it s₂ h₂ => ?_) fun zz zz e => e))
 exact seg_call h₂
theorem zoi {test : Expr} {body orelse : List Stmt} {pos : Pos} (h : wpAny M (A.over c fs) (isTrue test env (eval test env)) (fun b s' => Seg M A R Y n s₀ c ((execs (if b then body else orelse) env).wrap K H gd lv) fs s') (fun x s' => Seg M A R Y n s₀ c (H x) fs s') s) :
  Seg M A R Y n s₀ c ((exec (.If test body orelse pos) env).wrap K H gd lv) fs s := by
 rw [exec_If]
 refine seg_bind_wrap (wpAny_standAt ?_)
 refine seg_bind_wrap (wpAny_mono h (fun b s₁ h₁ => ?_) fun zz zz e => e)
 cases b <;> exact h₁
end
section
variable {prog : Program} {w : World} {A : Around} {R : GenEnd} {Y : Protocol} {n : Nat} {s₀ : Shared} {fs : List Frame} {s : Shared} {env : Env}
theorem zdF {target : Expr} {it : Value} {body orelse : List Stmt}
  (h : wpAny (model prog w) (A.over (.forLoop target it body orelse env) fs) (pyNext it) (fun r s₁ => match r with
    | none => Seg (model prog w) A R Y n s₀ (.forLoop target it body orelse env) (.pure (.again (.block orelse env))) fs s₁
    | some v => wpAny (model prog w) (A.over (.forLoop target it body orelse env) fs) (letOwnedTupleGo target it v) (fun zz s₂ => wpAny (model prog w) (A.over (.forLoop target it body orelse env) fs) (assign target env v) (fun zz s₃ =>
      ∀ H, Seg (model prog w) A R Y n s₀ (.forLoop target it body orelse env) ((execs body env).wrap (fun f => match f with
       | .next | .cont => .pure (.again (.forLoop target it body orelse env))
       | .brk => .pure (.done .next)
       | .ret v => .pure (.done (.ret v))) H id id) fs s₃)
      (fun zz zz => False) s₂) (fun zz zz => False) s₁) (fun zz zz => False) s) :
  Seg (model prog w) A R Y n s₀ (.forLoop target it body orelse env) ((model prog w).den (.forLoop target it body orelse env)) fs s := by
 show Seg _ A R Y n s₀ _ ((forTurn target it body orelse env).onRaise (fun x => do noteFrame x env; theTreesLotGoes x)) fs s
 rw [Sem.onRaise_eq_wrap]
 refine seg_bind_wrap (wpAny_standAt ?_)
 refine seg_bind_wrap (wpAny_onRaise (wpAny_mono h (fun r s₁ h₁ => ?_) fun zz zz e => e.elim))
 cases r with
 | none => exact h₁
 | some v =>
  refine seg_bind_wrap (wpAny_mono h₁ (fun zz s₂ h₂ => ?_) fun zz zz e => e.elim)
  refine seg_bind_wrap (wpAny_mono h₂ (fun zz s₃ h₃ => ?_) fun zz zz e => e.elim)
  rw [Sem.bind_eq_wrap', Sem.wrap_wrap]
  rw [Sem.wrap_congr (execs body env) _ _ (K' := fun f => match f with
       | .next | .cont => .pure (.again (.forLoop target it body orelse env))
       | .brk => .pure (.done .next)
       | .ret v => .pure (.done (.ret v))) (H' := (fun e => (do noteFrame e env; theTreesLotGoes e : Sem Unit).wrap (fun zz => .raise e) .raise id id))
    (fun f => by cases f <;> rfl)
    (fun e => by first | exact Sem.bind_eq_wrap _ _ | (show (do noteFrame e env; theTreesLotGoes e : Sem Unit).bind (fun zz => .raise e) = _; rw [Sem.bind_eq_wrap]))]
  exact h₃ _
end
end
section
theorem zaL {env : Env} {K : Flow → Sem Fin} {H : Value → Sem Fin} {gd : Bool → Bool} {lv : List Value → List Value} (rest : List Stmt) : ∀ (pre : List Stmt), (execs (pre ++ rest) env).wrap K H gd lv =
  (execs pre env).wrap (fun f => match f with | .next => (execs rest env).wrap K H gd lv | f => K f) H gd lv
 | [] => rfl
 | st :: pre => by
  rw [List.cons_append, execs_cons_wrap, execs_cons_wrap]
  refine Sem.wrap_congr _ _ _ (fun f => ?_) fun zz => rfl
  cases f <;> first | exact zaL rest pre | rfl
noncomputable def Ch (L S : Addr) (href : Heap) (s₀ s : Shared) : Prop := ∃ h' tk, s = { s₀ with heap := h', toks := tk } ∧ ∀ b o, (b = S ∨ (b ≠ L ∧ ∃ o', href.get? b = some o')) → s₀.heap.get? b = some o → h'.get? b = some o
theorem Ch.refl {L S href s} : Ch L S href s s := ⟨s.heap, s.toks, rfl, fun zz zz zz e => e⟩
theorem Ch.step {L S href s₀ s} (x : Ch L S href s₀ s) {h' : Heap} {tk : Nat} (k : ∀ b o, (b = S ∨ (b ≠ L ∧ ∃ o', href.get? b = some o')) → s.heap.get? b = some o → h'.get? b = some o) : Ch L S href s₀ { s with heap := h', toks := tk } := by
 refine xl x fun h₁ t₁ zz2 k₁ => ?_; subst zz2
 exact ⟨h', tk, rfl, fun b o hb e => k b o hb (k₁ b o hb e)⟩
theorem Ch.trans {L S href s₀ s s'} (x : Ch L S href s₀ s) (y : Ch L S href s s') : Ch L S href s₀ s' := by
 refine xl y fun h' tk zz2 k => ?_; subst zz2
 exact x.step k
noncomputable def znC (L : Addr) (s s' : Shared) : Prop := ∃ h' tk, s' = { s with heap := h', toks := tk } ∧ ∀ b o, b ≠ L → s.heap.get? b = some o → h'.get? b = some o
noncomputable def ym (L : Addr) (href : Heap) (s : Shared) : Prop := ∀ b o, b ≠ L → href.get? b = some o → s.heap.get? b = some o
noncomputable abbrev zf5 (L S : Addr) (href : Heap) (pz : Nat → Bool) (n₀ : Nat) (P : Nat → Value → Prop) : Protocol := fun m s₀ v s kap =>
 (∃ i, (passing pz n₀ 0)[(passing pz n₀ 0).length - 1 - m]? = some i ∧ P i v) ∧ Ch L S href s₀ s ∧ ∀ s'' : Shared, (∀ b o, b ≠ S → s.heap.get? b = some o → s''.heap.get? b = some o) → kap (.send .none) s''
noncomputable abbrev zmH (L S : Addr) (href : Heap) : GenEnd := fun n s₀ r s₁ => r = .ok (.ret .none) ∧ (n = 0 ∧ Ch L S href s₀ s₁)
structure zak (prog : Program) (w : World) (env : Env) (href : Heap) (x : Str) (P : Nat → Value → Prop) (pz : Nat → Bool) (pre : List Stmt) (test : Expr) (T : Nat → (Str → Option Value) → Prop) : Prop where
 pre : ∀ (A' : Around) E i v (s : Shared) m, A'.handled = none → P i v → ym env.locals href s → s.heap.Ns env.locals m → m x = some v →
  wpAny (model prog w) A' (execs pre env) (fun f s' => f = .next ∧ znC env.locals s s' ∧ ∃ m', s'.heap.Ns env.locals m' ∧ m' x = some v ∧ T i m') E s
 test : ∀ (A' : Around) E i v (s : Shared) m, A'.handled = none → P i v → ym env.locals href s → s.heap.Ns env.locals m → m x = some v → T i m →
  wpAny (model prog w) A' (isTrue test env (eval test env)) (fun b s' => b = pz i ∧ Keeps s s') E s
section
variable {prog : Program} {w : World} {A : Around} {env : Env} {S : Addr} {href : Heap} {x : Str} {P : Nat → Value → Prop} {pz : Nat → Bool} {pre : List Stmt} {test : Expr} {T : Nat → (Str → Option Value) → Prop} {px p1 p2 p3 p4 p5 : Pos}
theorem zjW {A : Around} {R : GenEnd} {Y : Protocol} {n : Nat} {s₀ : Shared} {fs : List Frame} {s : Shared} {k h g l c₁ p₁ kp} (hk : Seg (model prog w) A R Y n s₀ c₁ (k (.ok .next)) fs s) :
  Seg (model prog w) A R Y n s₀ (.block [] env) ((model prog w).den (.block [] env)) (.ret k h g l c₁ p₁ kp :: fs) s := by
 exact seg_leaf (.ok .next) hk
noncomputable abbrev zcu (pre : List Stmt) (test : Expr) (x : Str) (p1 p2 p3 p4 : Pos) : List Stmt := pre ++ [.If test [.Expr (.Yield (some (.Name x p1)) p2) p3] [] p4]
theorem zgR (hh : A.handled = none) {I : Addr} {fp : List Addr} {n₀ : Nat} {St₀ : Nat → Heap → Prop} (W₀ : ∀ A' : Around, A'.handled = none → Walks prog w A' I fp [I] n₀ P St₀)
  (hx : env.kindOf x = some .local) (hk : env.scope.kind = .function) (hco : env.scope.isCoroutine = false) (hxd : (x == ("__debug__" : Str)) = false) (hLf : env.locals ∉ fp) (hI : href.get? I = none) (hIS : I ≠ S) (hIL : I ≠ env.locals) (hSL : S ≠ env.locals) (hSf : S ∉ fp) (hB : zak prog w env href x P pz pre test T) (hS : href.get? S = none)
  {K : Flow → Sem Fin} {H : Value → Sem Fin} {c : Code} {p : Pos} (hdone : ∀ s₀ s, Ch env.locals S href s₀ s → Seg (model prog w) A (zmH env.locals S href) (zf5 env.locals S href pz n₀ P) 0 s₀ c (K .next) [] s) :
  ∀ (k i : Nat) (s₀ s : Shared) (m : Str → Option Value), n₀ - i = k → i ≤ n₀ → St₀ i s.heap → s.heap.Ns env.locals m → Ch env.locals S href s₀ s → ym env.locals href s →
   Seg (model prog w) A (zmH env.locals S href) (zf5 env.locals S href pz n₀ P) (passing pz n₀ i).length s₀
    (.forLoop (.Name x px) (.ref I) (zcu pre test x p1 p2 p3 p4) [] env) ((model prog w).den (.forLoop (.Name x px) (.ref I) (zcu pre test x p1 p2 p3 p4) [] env)) [zdP env K H id id c p] s := by
 have hh' : ∀ c fs0, fs0 = [zdP env K H id id c p] → (A.over (.forLoop (.Name x px) (.ref I) (zcu pre test x p1 p2 p3 p4) [] env) fs0).handled = none := by
  rintro c fs0 rfl; exact hh
 have hh1 : (A.over (.forLoop (.Name x px) (.ref I) (zcu pre test x p1 p2 p3 p4) [] env) [zdP env K H id id c p]).handled = none := hh
 have hp : (env.scope.kind == .class || (env.scope.kind == .module && env.locals != env.globals)) = false := by rw [hk]; rfl
 intro k
 induction k with
 | zero =>
  intro i s₀ s m hk' hi hst hn hch hkp
  have hin : i = n₀ := by omega
  subst hin
  refine zdF ((W₀ _ hh1).done s _ _ hst fun h' tk hk'' => ?_)
  refine seg_again rfl (zjW ?_)
  rw [passing_end]
  show Seg _ _ _ _ 0 s₀ c (K .next) [] _
  refine hdone _ _ (hch.step fun b o hb e => hk'' b o (fun q => ?_) e)
  have := List.mem_singleton.mp q
  subst this
  rcases hb with hb | ⟨_, o', ho'⟩
  ·exact hIS hb
  ·rw [hI] at ho'; cases ho'
 | succ k ih =>
  intro i s₀ s m hk' hi hst hn hch hkp
  have hlt : i < n₀ := by omega
  refine zdF ((W₀ _ hh1).item i s _ _ hlt hst fun v h₁ tk₁ hPv hst₁ hk₁ => ?_)
  refine wpAny_of_eq (a := ()) (rfl : letOwnedTupleGo (.Name x px) (.ref I) v = pure ()) ?_
  have up1 : ∀ b o, b ≠ I → s.heap.get? b = some o → h₁.get? b = some o := fun b o hb e => hk₁ b o (fun q => hb (List.mem_singleton.mp q)) e
  refine wpAny_assign_Name (wpAny_storeName_local hx (hn.at' fun o e => up1 _ o (Ne.symm hIL) e) (fun h₂ hn₂ hs₂ => ?_) hp)
  intro Hx
  have up2 : ∀ b o, b ≠ env.locals → b ≠ I → s.heap.get? b = some o → h₂.get? b = some o := fun b o hbL hbI e => hs₂.extBut b o hbL (up1 b o hbI e)
  have hst₂ : St₀ (i + 1) h₂ := (W₀ A hh).frame _ _ _ hst₁ fun b hb o e => hs₂.extBut b o (fun h => hLf (h ▸ hb)) e
  have chI : ∀ b, (b = S ∨ (b ≠ env.locals ∧ ∃ o', href.get? b = some o')) → b ≠ env.locals ∧ b ≠ I := fun b hb => by
   rcases hb with rfl | ⟨h1, o', ho'⟩
   ·exact ⟨hSL, Ne.symm hIS⟩
   ·exact ⟨h1, fun q => by rw [q, hI] at ho'; cases ho'⟩
  have kp2 : ym env.locals href { s with heap := h₂, toks := tk₁ + 1 } := fun b o hb e => up2 b o hb (fun q => by rw [q, hI] at e; cases e) (hkp b o hb e)
  rw [zaL]
  refine seg_wrap (wpAny_mono (hB.pre _ _ i v _ _ hh1 hPv kp2 hn₂ (by simp)) (fun f s₃ h₃ => ?_) fun zz zz e => e)
  obtain ⟨rfl, ⟨h3, tk3, rfl, hk3⟩, m', hn₃, hm', hT⟩ := h₃
  have kp3 : ym env.locals href { s with heap := h3, toks := tk3 } := fun b o hb e => hk3 b o hb (kp2 b o hb e)
  refine seg_execs_cons (zoi (wpAny_mono (hB.test _ _ i v _ _ hh1 hPv kp3 hn₃ hm' hT) (fun b s₄ h₄ => ?_) fun zz zz e => e))
  obtain ⟨rfl, h4, tk4, rfl, hk4⟩ := h₄
  have hst₄ : St₀ (i + 1) h4 := (W₀ A hh).frame _ _ _ hst₂ fun b hb o e => hk4 b o (hk3 b o (fun h => hLf (h ▸ hb)) e)
  have hn₄ := hn₃.keeps hk4
  have hch4 : Ch env.locals S href s₀ { s with heap := h4, toks := tk4 } := hch.step fun b o hb e => hk4 b o (hk3 b o (chI b hb).1 (up2 b o (chI b hb).1 (chI b hb).2 e))
  have kp4 : ym env.locals href { s with heap := h4, toks := tk4 } := fun b o hb e => hk4 b o (kp3 b o hb e)
  cases hpz : pz i with
  | false =>
   rw [passing_false hlt hpz]
   refine seg_execs_nil (seg_execs_nil ?_)
   exact seg_again rfl (ih (i + 1) s₀ _ _ (by omega) hlt hst₄ hn₄ hch4 kp4)
  | true =>
   rw [passing_true hlt hpz, List.length_cons]
   refine seg_execs_cons (seg_Expr_Yield rfl rfl rfl ?_ hco (by unfold interactive; rw [hk]; rfl))
   refine wpAny_Name (wpAny_loadName_local hk hx hn₄ hm' fun kap hkap => ?_) hxd
   refine ⟨⟨i, passing_here hlt hpz, hPv⟩, hch4, fun s'' hal => ?_⟩
   refine hkap _ _ ?_
   refine seg_execs_nil (seg_execs_nil ?_)
   refine seg_again rfl (ih (i + 1) s'' s'' _ (by omega) hlt ((W₀ A hh).frame _ _ _ hst₄ fun b hb o e => hal b o (fun h => hSf (h ▸ hb)) e) (hn₄.at' fun o e => hal _ o (Ne.symm hSL) e) Ch.refl fun b o hb e => hal b o (fun q => by rw [q, hS] at e; cases e) (kp4 b o hb e))
end
end
section
structure zhv (prog : Program) (w : World) (A : Around) (a S : Addr) (n : Nat) (P : Nat → Value → Prop) (St : Nat → Shared → Prop) : Prop where
 gen : ∀ j s, St j s → s.TypeIs (.ref a) "generator"
 self : ∀ j s (Q : Value → Shared → Prop) (E : Value → Shared → Prop), St j s → Q (.ref a) s → wpAny (model prog w) A (pyIter (.ref a)) Q E s
 frame : ∀ j (s : Shared) h' tk, St j s → (∀ b o, b ≠ S → s.heap.get? b = some o → h'.get? b = some o) → (∃ oS, h'.get? S = some oS) → St j { s with heap := h', toks := tk }
 item : ∀ j (s : Shared) (Q : Option Value → Shared → Prop) (E : Value → Shared → Prop), j < n → St j s → (∀ v s', P j v → St (j + 1) s' → (∀ o, s.heap.get? S = some o → s'.heap.get? S = some o) → Q (some v) s') → wpAny (model prog w) A (pyNext (.ref a)) Q E s
 done : ∀ (s : Shared) (Q : Option Value → Shared → Prop) (E : Value → Shared → Prop), St n s → (∀ s', St (n + 1) s' → (∀ o, s.heap.get? S = some o → s'.heap.get? S = some o) → Q none s') → wpAny (model prog w) A (pyNext (.ref a)) Q E s
section
variable {prog : Program} {w : World} {A : Around} {a S : Addr} {n : Nat} {P : Nat → Value → Prop} {St : Nat → Shared → Prop} {R : Result → Shared → Prop}
theorem zjQ (W : zhv prog w A.in1 a S n P St) (hn : n ≤ sizeLine) (res : Value) :
  ∀ (k j : Nat) (s : Shared) (acc : Array Value) (c : Nat), n - j = k → j ≤ n → St j s → s.heap.get? S = some { cls := .type "list", dict := none, data := .seq acc c, slots := #[] } → ItemsOf P acc j →
  (∀ s' acc' c', St (n + 1) s' → s'.heap.get? S = some { cls := .type "list", dict := none, data := .seq acc' c', slots := #[] } → ItemsOf P acc' n → R (.ok (.ret res)) s') →
  codeAny (model prog w) A (.builtin "list.extend.loop" ⟨[.ref S, .ref a, res], []⟩) R s := by
 intro k
 induction k with
 | zero =>
  intro j s acc c hk hj hst hS hacc hR
  have hin : j = n := by lia
  subst hin
  refine codeAny_builtin F.entry_extend_loop ?_
  rw [Around.under_plainId F.plain_extend_loop _]
  show wpAny _ A.in1 (pyNext (.ref a) >>= _) _ _ s
  refine wpAny_bind (W.done s _ _ hst fun s' hst' hS' => ?_)
  exact wpAny_pure (hR s' acc c hst' (hS' _ hS) hacc)
 | succ k ih =>
  intro j s acc c hk hj hst hS hacc hR
  have hlt : j < n := by lia
  refine codeAny_builtin F.entry_extend_loop ?_
  rw [Around.under_plainId F.plain_extend_loop _]
  show wpAny _ A.in1 (pyNext (.ref a) >>= _) _ _ s
  refine wpAny_bind (W.item j s _ _ hlt hst fun v s' hP hst' hS' => ?_)
  have hS₁ := hS' _ hS
  show wpAny _ A.in1 (updateSeq S (·.push v) >>= _) _ _ _
  refine wpAny_bind ?_
  have hS₂ := Heap.get?_update_self (Obj.mapSeq (·.push v)) hS₁ rfl
  refine wpAny_updateSeq hS₁ rfl (wpAny_pure ⟨plainId_quiet F.plain_extend_loop _, ih (j + 1) _ (acc.push v) _ (by lia) hlt (W.frame _ s' _ s'.toks hst' (fun b o hb e => ?_) ⟨_, hS₂⟩) hS₂ (hacc.push hP) hR⟩)
   (by rw [hacc.1]; lia) (by show (acc.push v).size ≤ sizeLine + 1; rw [Array.size_push, hacc.1]; lia)
  exact (Heap.get?_update_other _ _ (Ne.symm hb)).trans e
theorem zhj {s : Shared} (W : zhv prog w A.in1 a S n P St) (hn : n ≤ sizeLine) (res : Value) (c₀ : Nat) (hst : St 0 s) (hSa : S ≠ a)
  (hS : s.heap.get? S = some { cls := .type "list", data := .seq #[] c₀ })
  (hR : ∀ s' acc' c', St (n + 1) s' → s'.heap.get? S = some { cls := .type "list", dict := none, data := .seq acc' c', slots := #[] } → ItemsOf P acc' n → R (.ok (.ret res)) s') :
  wpAny (model prog w) A.in1 (Builtin.List.listExtendWith (.ref S) (.ref a) res)
   (fun fin s' => match fin with | .done f => R (.ok f) s' | .again c' => c'.quiet = true ∧ codeAny (model prog w) A c' R s') (fun e s' => R (.error e) s') s := by
 refine wpAny_bind (wpAny_typeOf (W.gen 0 _ hst) ?_)
 have h1 : Builtin.List.listSameRef (.ref S) (.ref a) = false := by simp [Builtin.List.listSameRef, hSa]
 have h2 : (Value.type "generator" == Value.type "list") = false := by decide
 have h3 : (Value.type "generator" == Value.type "tuple") = false := by decide
 simp only [h1, h2, h3, Bool.or_false, Bool.false_eq_true, if_false]
 refine wpAny_bind (W.self 0 _ _ _ hst ?_)
 refine wpAny_bind (wpAny_holding ?_)
 refine wpAny_bind (wpAny_specialOf (W.gen 0 _ hst) F.gen_no_len ?_)
 show wpAny _ A.in1 (specialOf (Value.ref a) (Str.ofString "__length_hint__") >>= _) _ _ _
 refine wpAny_bind (wpAny_specialOf (W.gen 0 _ hst) F.gen_no_hint ?_)
 refine wpAny_pure ?_
 show wpAny _ A.in1 (rule "list.extend.makes-room" >>= fun zz => Builtin.List.listTouch (.ref S) >>= fun zz =>
  again (.builtin "list.extend.loop" ⟨[.ref S, .ref a, res], []⟩)) _ _ _
 refine wpAny_bind (wpAny_rule ?_)
 refine wpAny_bind ?_
 show wpAny _ A.in1 (updateSeq S (·.push .none) >>= fun zz => updateSeq S (·.pop)) _ _ _
 refine wpAny_bind (wpAny_updateSeq hS rfl ?_)
 have hS₂ := Heap.get?_update_self (Obj.mapSeq (·.push Value.none)) hS rfl
 refine wpAny_updateSeq (hz := by seq_fits) hS₂ rfl ?_
 have hS₃ := Heap.get?_update_self (Obj.mapSeq (·.pop)) hS₂ rfl
 have oth : ∀ b o, b ≠ S → s.heap.get? b = some o → ((s.heap.update S (Obj.mapSeq (·.push Value.none))).update S (Obj.mapSeq (·.pop))).get? b = some o :=
  fun b o hb e => (Heap.get?_update_other _ _ (Ne.symm hb)).trans ((Heap.get?_update_other _ _ (Ne.symm hb)).trans e)
 exact wpAny_pure ⟨plainId_quiet F.plain_extend_loop _, zjQ W hn _ n 0 _ _ _ rfl (Nat.zero_le _) (W.frame 0 s _ s.toks hst oth ⟨_, hS₃⟩) hS₃ (ItemsOf.nil P) hR⟩
theorem zjt {s : Shared} (W : zhv prog w A.in1 a S n P St) (hn : n ≤ sizeLine) (hst : St 0 s) (hSa : S ≠ a)
  (hS : s.heap.get? S = some { cls := .type "list", data := .seq #[] })
  (hR : ∀ s' acc' c', St (n + 1) s' → s'.heap.get? S = some { cls := .type "list", dict := none, data := .seq acc' c', slots := #[] } → ItemsOf P acc' n → R (.ok (.ret .none)) s') :
  wpAny (model prog w) A.in1 (Builtin.«list.__init__» ⟨[.ref S, .ref a], []⟩)
   (fun fin s' => match fin with | .done f => R (.ok f) s' | .again c' => c'.quiet = true ∧ codeAny (model prog w) A c' R s') (fun e s' => R (.error e) s') s := by
 show wpAny _ A.in1 (do let old ← Builtin.List.listItems (.ref S); Builtin.List.listUpdate (.ref S) (fun zz => #[]); letGo old.toList.reverse; Builtin.List.listExtendWith (.ref S) (.ref a) .none) _ _ s
 refine wpAny_bind ?_
 refine wpAny_bind (wpAny_seqItems hS rfl (wpAny_pure ?_))
 show wpAny _ A.in1 (updateSeq S (fun zz => #[]) >>= fun zz => letGo (#[] : Array Value).toList.reverse >>= fun zz => Builtin.List.listExtendWith (.ref S) (.ref a) .none) _ _ s
 refine wpAny_bind (wpAny_updateSeq hS rfl ?_)
 have hS₂ := Heap.get?_update_self (Obj.mapSeq (fun zz => (#[] : Array Value))) hS rfl
 have oth : ∀ b o, b ≠ S → s.heap.get? b = some o → (s.heap.update S (Obj.mapSeq (fun zz => (#[] : Array Value)))).get? b = some o :=
  fun b o hb e => (Heap.get?_update_other _ _ (Ne.symm hb)).trans e
 refine wpAny_bind (wpAny_letGo ?_)
 exact zhj W hn .none _ (W.frame 0 s _ s.toks hst oth ⟨_, hS₂⟩) hSa hS₂ hR
end
section
variable {prog : Program} {w : World} {A : Around} {E : Value → Shared → Prop} {s : Shared} {a : Addr} {n : Nat} {P : Nat → Value → Prop} {St : Nat → Shared → Prop}
theorem zka {Q : Value → Shared → Prop} (W : zhv prog w A.in1.in1 a s.heap.objs.size n P St) (hst : St 0 { s with heap := s.heap.push { cls := .type "list", data := .seq #[] } }) (ha : a < s.heap.objs.size)
  (hQ : ∀ s' acc' c', St (n + 1) s' → s'.heap.get? s.heap.objs.size = some { cls := .type "list", dict := none, data := .seq acc' c', slots := #[] } → ItemsOf P acc' n → Q (.ref s.heap.objs.size) s') (hn : n ≤ sizeLine) :
  wpAny (model prog w) A (call (.type "list") [.ref a]) Q E s := by
 refine callType_codes (Q₁ := fun obj s₁ => obj = .ref s.heap.objs.size ∧ s₁ = { s with heap := s.heap.push { cls := .type "list", data := .seq #[] } }) F.called_list (F.typeCall_list_1 _) F.entry_list_init
  (code_list_new _ ⟨rfl, rfl⟩) fun obj s₁ h₁ => ?_
 refine zk h₁ fun zz0 zz1 => ?_; subst zz0; subst zz1
 have hS : (s.heap.push { cls := .type "list", data := .seq #[] }).get? s.heap.objs.size = some { cls := .type "list", data := .seq #[] } := Heap.get?_push_size _ rfl
 refine ⟨⟨_, hS, rfl⟩, F.args_list_init_2 _ _, zjt (s := { s with heap := s.heap.push { cls := .type "list", data := .seq #[] } }) W hn hst (Nat.ne_of_gt ha) hS fun s' acc' c' hm hS' hacc => ?_⟩
 exact ⟨rfl, hQ s' acc' c' hm hS' hacc⟩
end
end
section
section
variable {prog : Program} {w : World} {A : Around} {env : Env} {S : Addr} {href : Heap} {x rs : Str} {vs : List Value} {pz : Nat → Bool} {pre : List Stmt} {test : Expr} {T : Nat → (Str → Option Value) → Prop} {px pr p1 p2 p3 p4 bpos : Pos}
noncomputable abbrev za0 (x rs : Str) (px pr : Pos) (pre : List Stmt) (test : Expr) (p1 p2 p3 p4 bpos : Pos) : List Stmt := [.For (.Name x px) (.Name rs pr) (zcu pre test x p1 p2 p3 p4) [] bpos]
theorem zgm (hh : A.handled = none) {l : Addr} {m : Str → Option Value} {s : Shared}
  (hx : env.kindOf x = some .local) (hrs : env.kindOf rs = some .local) (hk : env.scope.kind = .function) (hco : env.scope.isCoroutine = false) (hxd : (x == ("__debug__" : Str)) = false) (hrd : (rs == ("__debug__" : Str)) = false)
  (hSL : S ≠ env.locals) (hS : href.get? S = none) (hSs : ∃ oS, s.heap.get? S = some oS) (hl : href.IsList l vs.toArray) (hlL : l ≠ env.locals)
  (hB : zak prog w env href x (fun i v => vs.toArray[i]? = some v) pz pre test T) (hkp : ym env.locals href s) (hn : s.heap.Ns env.locals m) (hm : m rs = some (.ref l)) :
  Seg (model prog w) A (zmH env.locals S href) (zf5 env.locals S href pz vs.toArray.size (fun i v => vs.toArray[i]? = some v)) (passing pz vs.toArray.size 0).length s
   (.func (za0 x rs px pr pre test p1 p2 p3 p4 bpos) env) ((model prog w).den (.func (za0 x rs px pr pre test p1 p2 p3 p4 bpos) env)) [] s := by
 have hls : s.heap.IsList l vs.toArray := by
  refine zQ hl fun o h1 h2 => ?_
  exact ⟨o, hkp _ _ hlL h1, h2⟩
 refine seg_func (seg_execs_cons (zm7 (fun zz => rfl) ?_))
 refine wpAny_Name (wpAny_loadName_local hk hrs hn hm ?_) hrd
 refine wpAny_pyIter_list hls ?_
 intro p
 have lt := hn.lt
 have hIS : s.heap.objs.size ≠ S := fun q => by
  refine zU hSs fun oS e => ?_
  rw [← q, (Heap.get?_none_of_le (Nat.le_refl _))] at e; cases e
 have hIL : s.heap.objs.size ≠ env.locals := Nat.ne_of_gt lt
 have hI : href.get? s.heap.objs.size = none := by
  cases q : href.get? s.heap.objs.size with
  | none => rfl
  | some o =>
   have := hkp _ _ hIL q
   rw [(Heap.get?_none_of_le (Nat.le_refl _))] at this; cases this
 have hlI : l ≠ s.heap.objs.size := fun q => by
  refine zQ hls fun o e zz2 => ?_
  rw [q, (Heap.get?_none_of_le (Nat.le_refl _))] at e; cases e
 have hlS : l ≠ S := fun q => by
  refine zQ hl fun o e zz2 => ?_
  rw [q, hS] at e; cases e
 refine zgR (fp := [s.heap.objs.size, l]) (n₀ := vs.toArray.size) hh (fun A' hA' => Walks.list hA' s.heap.objs.size l hlI vs.toArray) hx hk hco hxd ?_ hI hIS hIL hSL ?_ hB hS ?_ vs.toArray.size 0 s _ m rfl (Nat.zero_le _) ⟨⟨_, Heap.get?_push_size _ rfl, rfl, rfl⟩, ?_⟩ (hn.push _) ?_ ?_
 ·simp only [List.mem_cons, List.not_mem_nil, or_false, not_or]; exact ⟨Ne.symm hIL, Ne.symm hlL⟩
 ·simp only [List.mem_cons, List.not_mem_nil, or_false, not_or]; exact ⟨Ne.symm hIS, Ne.symm hlS⟩
 ·intro s₀ s₁ hc
  refine seg_end (.ok (.ret .none)) ⟨rfl, rfl, hc⟩
 ·refine zQ hls fun o e r => ?_; exact ⟨o, Heap.get?_push_of_some _ e, r⟩
 ·exact Ch.refl.step (tk := s.toks) fun b o zz e => Heap.get?_push_of_some _ e
 ·exact fun b o hb e => Heap.get?_push_of_some _ (hkp b o hb e)
end
end
section
section
variable {prog : Program} {w : World} {A : Around} {E : Value → Shared → Prop} {env : Env} {S : Addr} {x rs : Str} {vs : List Value} {pz : Nat → Bool} {pre : List Stmt} {test : Expr} {T : Nat → (Str → Option Value) → Prop} {px pr p1 p2 p3 p4 bpos : Pos}
structure zph (prog : Program) (w : World) (A : Around) (L S : Addr) (sr : Shared) (a : Addr) (g : Nat) (pz : Nat → Bool) (n₀ : Nat) (P : Nat → Value → Prop) (j : Nat) (s : Shared) : Prop where
 gen : s.heap.IsGen a g
 lim : s.heap.NoLimit
 list : ∃ oS, s.heap.get? S = some oS
 kept : ym L sr.heap s
 os : s.os = sr.os
 only : GenOnly g sr.gens s.gens
 state : ∃ gs, s.gens[g]? = some gs ∧ (j = (passing pz n₀ 0).length + 1 → gs = .finished) ∧ (j ≤ (passing pz n₀ 0).length → ∀ s'' : Shared, (∀ b o, b ≠ S → s.heap.get? b = some o → s''.heap.get? b = some o) → (∃ oS, s''.heap.get? S = some oS) →
  gs.Goes (model prog w) A.in1 (zmH L S sr.heap) (zf5 L S sr.heap pz n₀ P) ((passing pz n₀ 0).length - j) (.send .none) s'')
theorem zcx {L : Addr} {href : Heap} {s : Shared} (hl : href.NoLimit) (hc : cStatics ≠ L) (hk : ym L href s) : s.heap.NoLimit := by
 refine zQ hl fun mc hn hm => ?_
 exact ⟨mc, hn.at' fun o e => hk _ o hc e, hm⟩
theorem zcG {L a : Addr} {g : Nat} {href : Heap} {s : Shared} (hl : href.IsGen a g) (hc : a ≠ L) (hk : ym L href s) : s.heap.IsGen a g := by
 refine zfg hl fun o nm qn e r => ?_
 exact ⟨o, nm, qn, hk _ o hc e, r⟩
theorem zjn {L a : Addr} {g : Nat} {sr : Shared} {n₀ : Nat} {P : Nat → Value → Prop} (hh : A.handled = none) (hroom : A.depth < recursionLimit) (hS : sr.heap.get? S = none) (hSL : S ≠ L) (haL : a ≠ L) (hcL : cStatics ≠ L) (hga : sr.heap.IsGen a g) (hlim : sr.heap.NoLimit) :
  zhv prog w A a S (passing pz n₀ 0).length (fun j y => ∃ i, (passing pz n₀ 0)[j]? = some i ∧ P i y) (zph prog w A L S sr a g pz n₀ P) where
 gen := fun j s st => st.gen.typeIs
 self := fun j s Q E st hQ => wpAny_pyIter_gen st.gen hQ
 frame := fun j s h' tk st hk hS' => by
  have kp : ym L sr.heap { s with heap := h', toks := tk } := fun b o hb e => hk b o (fun q => by rw [q, hS] at e; cases e) (st.kept b o hb e)
  refine x2 st.state fun gs h1 h2 h3 => ?_
  exact ⟨zcG hga haL kp, zcx hlim hcL kp, hS', kp, st.os, st.only, gs, h1, h2, fun hj s'' hal => h3 hj s'' fun b o hb e => hal b o hb (hk b o hb e)⟩
 item := fun j s Q E hj st hQ => by
  refine x2 st.state fun gs hgs zz2 hgo => ?_
  obtain ⟨m, hm⟩ : ∃ m, (passing pz n₀ 0).length - j = m + 1 := ⟨(passing pz n₀ 0).length - j - 1, by omega⟩
  have hgo := hgo (Nat.le_of_lt hj)
  rw [hm] at hgo
  refine wpAny_pyNext_gen (P := fun n s₀ s₁ => n = 0 ∧ Ch L S sr.heap s₀ s₁) hh st.lim hroom st.gen hgs (hgo _ (fun zz zz zz e => e) st.list) (fun v s₁ gs' hv => ?_) (fun s₁ hp h' hk => ?_)
  ·refine xr hv fun zz0 zz1 hkap => ?_; rcases zz0 with ⟨i, hi, hP⟩; rcases zz1 with ⟨h₁, tk₁, rfl, hk₁⟩
   have hidx : (passing pz n₀ 0).length - 1 - (m + 1 - 1) = j := by omega
   rw [hidx] at hi
   have kp : ym L sr.heap ({ s.setGen g .running with heap := h₁, toks := tk₁ }.setGen g gs') := fun b o hb e => hk₁ b o (.inr ⟨hb, o, e⟩) (st.kept b o hb e)
   refine hQ v _ ⟨i, hi, hP⟩ ⟨zcG hga haL kp, zcx hlim hcL kp, ?_, kp, st.os, ?_, gs', setGen_self (gs := .running) (setGen_self hgs), fun q => by omega, fun hj' s'' hal hS'' => ?_⟩ fun o e => hk₁ S o (.inl rfl) e
   ·refine zU st.list fun oS e => ?_; exact ⟨oS, hk₁ S oS (.inl rfl) e⟩
   ·exact (st.only.trans (GenOnly.setGen s g .running)).trans (GenOnly.setGen _ g gs')
   ·have e : (passing pz n₀ 0).length - (j + 1) = m := by omega
    rw [e]
    exact hkap s'' hal
  ·exact absurd hp.1 (Nat.succ_ne_zero m)
 done := fun s Q E st hQ => by
  refine x2 st.state fun gs hgs zz2 hgo => ?_
  have hgo := hgo (Nat.le_refl _)
  rw [Nat.sub_self] at hgo
  refine wpAny_pyNext_gen (P := fun n s₀ s₁ => n = 0 ∧ Ch L S sr.heap s₀ s₁) hh st.lim hroom st.gen hgs (hgo _ (fun zz zz zz e => e) st.list) (fun v s₁ gs' hv => ?_) (fun s₁ hp h' hk => ?_)
  ·refine xr hv fun zz0 zz1 hkap => ?_
   exact False.elim (hkap s₁ fun zz zz zz e => e)
  ·obtain ⟨_, h₁, tk₁, rfl, hk₁⟩ := hp
   have up : ∀ b o, (b = S ∨ (b ≠ L ∧ ∃ o', sr.heap.get? b = some o')) → s.heap.get? b = some o → h'.get? b = some o := fun b o hb e => hk b o (hk₁ b o hb e)
   have kp : ym L sr.heap ({ ({ s.setGen g .running with heap := h₁, toks := tk₁ }.setGen g .finished) with heap := h' }) := fun b o hb e => up b o (.inr ⟨hb, o, e⟩) (st.kept b o hb e)
   refine hQ _ ⟨zcG hga haL kp, zcx hlim hcL kp, ?_, kp, st.os, ?_, .finished, setGen_self (gs := .running) (setGen_self hgs), fun zz => rfl, fun q => by omega⟩ fun o e => up S o (.inl rfl) e
   ·refine zU st.list fun oS e => ?_; exact ⟨oS, up S oS (.inl rfl) e⟩
   ·exact (st.only.trans (GenOnly.setGen s g .running)).trans (GenOnly.setGen _ g .finished)
theorem zlA {l a : Addr} {g : Nat} {m : Str → Option Value} {s : Shared} {Q : Value → Shared → Prop} (hh : A.handled = none) (hroom : A.depth < recursionLimit)
  (hx : env.kindOf x = some .local) (hrs : env.kindOf rs = some .local) (hk : env.scope.kind = .function) (hco : env.scope.isCoroutine = false) (hxd : (x == ("__debug__" : Str)) = false) (hrd : (rs == ("__debug__" : Str)) = false)
  (hl : s.heap.IsList l vs.toArray) (hlL : l ≠ env.locals) (haL : a ≠ env.locals) (hcL : cStatics ≠ env.locals) (hlim : s.heap.NoLimit) (hga : s.heap.IsGen a g) (hgs : s.gens[g]? = some (.fresh (.func (za0 x rs px pr pre test p1 p2 p3 p4 bpos) env)))
  (hB : zak prog w env s.heap x (fun i v => vs.toArray[i]? = some v) pz pre test T) (hn : s.heap.Ns env.locals m) (hm : m rs = some (.ref l)) (hsz : (passing pz vs.toArray.size 0).length ≤ sizeLine)
  (hQ : ∀ s' acc c, ym env.locals s.heap s' → s'.os = s.os → GenOnly g s.gens s'.gens → s'.gens[g]? = some .finished → s.heap.get? s.heap.objs.size = none → s'.heap.get? s.heap.objs.size = some { cls := .type "list", data := .seq acc c } →
   ItemsOf (fun j y => ∃ i, (passing pz vs.toArray.size 0)[j]? = some i ∧ vs.toArray[i]? = some y) acc (passing pz vs.toArray.size 0).length → Q (.ref s.heap.objs.size) s') :
  wpAny (model prog w) A (call (.type "list") [.ref a]) Q E s := by
 have hS : s.heap.get? s.heap.objs.size = none := Heap.get?_none_of_le (Nat.le_refl _)
 have lt := hn.lt
 have hSL : s.heap.objs.size ≠ env.locals := Nat.ne_of_gt lt
 have hga' := hga
 refine zfg hga' fun o nm qn e zz4 => ?_
 have W := zjn (prog := prog) (w := w) (A := A.in1.in1) (pz := pz) (n₀ := vs.toArray.size) (P := fun i v => vs.toArray[i]? = some v) (sr := s) hh hroom hS hSL haL hcL hga hlim
 have kp : ym env.locals s.heap { s with heap := s.heap.push { cls := .type "list", data := .seq #[] } } := fun b o zz e => Heap.get?_push_of_some _ e
 refine zka W ⟨zcG hga haL kp, zcx hlim hcL kp, ⟨_, Heap.get?_push_size _ rfl⟩, kp, rfl, ⟨rfl, fun zz zz => rfl⟩, _, hgs, (fun q => by omega), fun zz s'' hal hSs => ⟨rfl, ?_⟩⟩ (Heap.lt_size e) (fun s' acc c st hS' hit => ?_) hsz
 ·exact zgm (A := A.in1.in1.in1) hh hx hrs hk hco hxd hrd hSL hS hSs hl hlL hB (fun b o hb e => hal b o (fun q => by rw [q, hS] at e; cases e) (Heap.get?_push_of_some _ e)) ((hn.push _).at' fun o e => hal _ o (Ne.symm hSL) e) hm
 ·refine x2 st.state fun gs h1 h2 zz3 => ?_
  have := h2 rfl
  subst this
  exact hQ s' acc c st.kept st.os st.only h1 hS hS' hit
end
end
section
open PySem.Spec
theorem zfT : mroOf (.type "slice") = pure [.type "slice", .type "object"] := by rw [mroOf_type]; kernel_rfl
theorem zdf : typeLookup (.type "slice") "__new__" = pure (some (.builtin "slice.__new__")) := by rw [typeLookup_type, builtinLookup_eq_fast]; kernel_rfl
theorem zdH : Slot "slice" "__init__" "object.__init__" :=
 .of (owner := "object") (n := "__init__") (by rw [typeLookup_type, builtinLookup_eq_fast]; kernel_rfl) (by decide +kernel) (by decide +kernel) (by decide +kernel)
  (by first | exact .inl (by decide +kernel) | exact .inr (by decide +kernel)) (by rw [isSubtype_type]; kernel_rfl)
theorem zcp : TypeCalled "slice" "slice.__new__" "object.__init__" :=
 ⟨by decide +kernel, by decide +kernel, ⟨_, _, zfT⟩, madeBy_type zfT zdf (by decide +kernel), by decide +kernel, by rw [isSubtype_type]; kernel_rfl, zdH⟩
theorem zcW (a b : Value) : checkTypeCall "slice" ⟨[a, b], []⟩ = pure () := by kernel_rfl
theorem zdL (a b : Value) : checkBuiltinCall "slice.__new__" ⟨[.type "slice", a, b], []⟩ = pure () := by kernel_rfl
theorem zdO : entryFor table "slice.__new__" = some Builtin.«slice.__new__» := entryFor_of_tree (by kernel_rfl)
theorem zdK (a b : Value) : Meets (Builtin.«slice.__new__» ⟨[.type "slice", a, b], []⟩) (fun zz R s => R (.ok (.ret (.ref s.heap.objs.size))) { s with heap := s.heap.push { cls := .type "slice", data := .fields #[a, b, .none] } }) :=
 .of_wp fun prog w A R s h => by
  have hsub := zcp.sub
  obtain ⟨hp, g, d, tk, os⟩ := s
  unfold Builtin.«slice.__new__»
  refine wpAny_bind (wpAny_of_eq (a := true) (by rfl) ?_)
  rw [if_neg (by decide)]
  refine wpAny_bind (wpAny_of_eq hsub ?_)
  rw [if_neg (by decide)]
  refine wpAny_bind (wpAny_of_eq (a := [a, b]) (by rfl) ?_)
  dsimp only
  refine wpAny_bind ?_
  show wpAny _ _ (newFields "slice" [a, b, .none]) _ _ _
  refine wpAny_newObj_type ?_
  exact wpAny_pure ⟨_, rfl, h⟩
section
variable {prog : Program} {w : World} {A : Around} {E : Value → Shared → Prop} {s : Shared}
theorem zgw {a b : Value} {Q : Value → Shared → Prop} (h : Q (.ref s.heap.objs.size) { s with heap := s.heap.push { cls := .type "slice", data := .fields #[a, b, .none] } }) : wpAny (model prog w) A (call (.type "slice") [a, b]) Q E s :=
 callType_new zcp (by decide) (zcW _ _) (zdL _ _) (fun obj => by kernel_rfl) zdO (zdK a b) ⟨⟨_, Heap.get?_push_size _ rfl, rfl⟩, h⟩
theorem zeV : mroOf (.type "object") = pure [.type "object"] := by rw [mroOf_type]; kernel_rfl
theorem zcU : typeLookup (.type "object") "__new__" = pure (some (.builtin "object.__new__")) := by rw [typeLookup_type, builtinLookup_eq_fast]; kernel_rfl
theorem zdc : Slot "object" "__init__" "object.__init__" :=
 .of (owner := "object") (n := "__init__") (by rw [typeLookup_type, builtinLookup_eq_fast]; kernel_rfl) (by decide +kernel) (by decide +kernel) (by decide +kernel)
  (by first | exact .inl (by decide +kernel) | exact .inr (by decide +kernel)) (by rw [isSubtype_type]; kernel_rfl)
theorem zb6 : TypeCalled "object" "object.__new__" "object.__init__" :=
 ⟨by decide +kernel, by decide +kernel, ⟨_, _, zeV⟩, madeBy_type zeV zcU (by decide +kernel), by decide +kernel, by rw [isSubtype_type]; kernel_rfl, zdc⟩
theorem zcQ : checkTypeCall "object" ⟨[], []⟩ = pure () := by kernel_rfl
theorem zcX : checkBuiltinCall "object.__new__" ⟨[.type "object"], []⟩ = pure () := by kernel_rfl
theorem zdd : entryFor table "object.__new__" = some Builtin.«object.__new__» := entryFor_of_tree (by kernel_rfl)
theorem za9 : plainId "object.__new__" = true := by decide +kernel
theorem zdJ : Bind.madeHere "object.__new__" (.type "object") = pure () := by
 unfold Bind.madeHere
 have e : Bind.staticBase (.type "object") = pure (.type "object") := by first | rfl | kernel_rfl
 rw [e]
 simp only [pure_bind, zb6.made]
 first | rfl | kernel_rfl | (simp; rfl)
theorem zdI {Q : Value → Shared → Prop} (h : Q (.ref s.heap.objs.size) { s with heap := s.heap.push { cls := .type "object", data := .plain } }) :
  codeAny (model prog w) A (.call (.builtin "object.__new__") ⟨[.type "object"], []⟩) (wants Q E) s := by
 refine codeAny_of_tree ?_
 show wpAny _ A.in1 (do checkBuiltinCall "object.__new__" ⟨[.type "object"], []⟩; again (.builtin "object.__new__" ⟨[.type "object"], []⟩)) _ _ s
 refine wpAny_bind (wpAny_of_eq zcX (wpAny_pure ⟨plainId_quiet za9 _, codeAny_builtin zdd ?_⟩))
 rw [Around.under_plainId za9 _]
 refine wpAny_bind (wpAny_of_eq (a := true) (by rfl) ?_)
 rw [if_neg (by decide)]
 rw [if_neg (by decide +kernel)]
 refine wpAny_bind (wpAny_of_eq zdJ ?_)
 rw [if_neg (by decide)]
 refine wpAny_bind (wpAny_of_eq (a := none) (by first | rfl | kernel_rfl) ?_)
 refine wpAny_bind ?_
 refine wpAny_newObj_type ?_
 rw [if_neg (by decide +kernel)]
 exact wpAny_pure h
theorem zgt {Q : Value → Shared → Prop} (h : Q (.ref s.heap.objs.size) { s with heap := s.heap.push { cls := .type "object", data := .plain } }) : wpAny (model prog w) A (call (.type "object") []) Q E s := by
 refine callType_codes (Q₁ := fun obj s₁ => s₁.TypeIs obj "object" ∧ Q obj s₁) zb6 zcQ F.entry_object_init (zdI ⟨⟨_, Heap.get?_push_size _ rfl, rfl⟩, h⟩) fun obj s₁ h₁ => ?_
 refine ⟨h₁.1, PySem.W.oi_args obj, ?_⟩
 rw [PySem.W.oi_run]
 exact wpAny_pure ⟨rfl, h₁.2⟩
end
end
theorem zq {cf : Cf} {n : Nat} {K : Kn} {ρ : Rho} {f : Str} {p pos : Pos} {a : Expr} {as : List Expr} {fd d : D} {ds : List D} (hl : ρ.lookup f = none) (hf : evD cf n K ρ (.Name f p) = some fd) (ha : evL cf n K ρ (a :: as) = some ds) (hok : ds.all (zbl fd) = true) (hd : yd cf fd ds = some d) :
  evD cf (n + 1) K ρ (.Call (.Name f p) (a :: as) [] pos) = some d := by
 show zeR cf _ _ K ρ f p a as = _
 unfold zeR
 rw [hl, hf, ha]
 dsimp only
 rw [hok]
 exact hd
theorem ExS.andThen {G : Gd} {k : Nat} {K : Kn} {ρ ρ' : Rho} {st : Stmt} {ss : List Stmt} {A Xc Y s env} {E : Value → Shared → Prop} {Q : Flow → Shared → Prop} (h : ExS G k K ρ st (.next ρ')) (c : StC G k A Xc Y s env K ρ)
  (hq : ∀ Y₁ s₁, Stp G Y s Y₁ s₁ → StC G k A Xc Y₁ s₁ env K ρ' → wpAny (model G.prog G.w) A (execs ss env) Q E s₁) : wpAny (model G.prog G.w) A (execs (st :: ss) env) Q E s := by
 refine wpAny_execs_cons (wpAny_mono (h A Xc Y s env c E) (fun f s₁ p => ?_) fun zz zz e => e)
 refine x2 p fun Y₁ t zz2 c₁ => ?_; subst zz2
 exact hq Y₁ s₁ t c₁
theorem ExS.last {G : Gd} {k : Nat} {K : Kn} {ρ : Rho} {st : Stmt} {ss : List Stmt} {A Xc Y s env} {E : Value → Shared → Prop} {Y₀ s₀ d} (h : ExS G k K ρ st (.ret d)) (c : StC G k A Xc Y s env K ρ) (ti : G.TI s₀.heap) (t : Stp G Y₀ s₀ Y s) :
  wpAny (model G.prog G.w) A (execs (st :: ss) env) (x4 G k A Xc env K Y₀ s₀ (.ret d)) E s := by
 refine wpAny_execs_cons (wpAny_mono (h A Xc Y s env c E) (fun f s₁ p => ?_) fun zz zz e => e)
 obtain ⟨Y₁, t₁, v, rfl, r⟩ := p
 exact ⟨Y₁, t.trans ti t₁, v, rfl, r⟩
theorem zjR {cf : Cf} {n : Nat} {K : Kn} {ρ : Rho} {f : Expr} {as : List Expr} {ks : List Keyword} {p : Pos} {d : D} (h : evD cf n K ρ (.Call f as ks p) = some d) (hp : d.pure = true) : za1 (evD cf n K ρ) ρ (.Call f as ks p) = some (.ret d) := by
 unfold za1; dsimp only; rw [h]; dsimp only; rw [hp]
theorem zgV {G : Gd} {k : Nat} {cf : Cf} (ok : zZ G cf k)
  (h1 : cf.Γ "object" = some (.typ "object")) (h2 : cf.Γ "_translate" = some (.opq 90)) (h3 : cf.Γ "_join_translated_parts" = some (.opq 97)) {x y : Str} {ps : Addr → D} (h90 : ∀ S, cf.Φ 90 [.str x, .opq S, .str "."] = some (ps S)) (hp : ∀ S, (ps S).pure = true) (h97 : ∀ S, cf.Φ 97 [ps S, .opq S] = some (.str y)) {p1 p2 p3 p4 p5 p6 p7 p8 p9 p10 p11 p12 p13 p14 p15 p16 : Pos} {A : Around} {X Y : List Addr} {s : Shared} {env : Env} (c : StC G k A X Y s env (zE 6) (yF (zE 6) ["pat"] [.str x])) {E : Value → Shared → Prop} :
  wpAny (model G.prog G.w) A (execs [.Assign [.Name "STAR" p1] (.Call (.Name "object" p2) [] [] p3) p4, .Assign [.Name "parts" p5] (.Call (.Name "_translate" p6) [.Name "pat" p7, .Name "STAR" p8, .Constant (.str ".") 0 p9] [] p10) p11, .Return (some (.Call (.Name "_join_translated_parts" p12) [.Name "parts" p13, .Name "STAR" p14] [] p15)) p16] env) (x4 G k A X env (zE 6) Y s (.ret (.str y))) E s := by
 generalize hρ : (yF (zE 6) ["pat"] [D.str x] : Rho) = ρ at c
 have l4 : ρ = [(("pat" : Str), D.str x), (("STAR" : Str), D.unb), (("parts" : Str), D.unb)] := by rw [← hρ]; rfl
 have l1 : ρ.lookup ("object" : Str) = none := by rw [l4]; rfl
 have k1 : (zE 6).lookup ("object" : Str) = some .globalImplicit := by decide
 have k2 : (zE 6).lookup ("STAR" : Str) = some .local := by decide
 have k3 : (zE 6).lookup ("_translate" : Str) = some .globalImplicit := by decide
 have k4 : (zE 6).lookup ("_join_translated_parts" : Str) = some .globalImplicit := by decide
 have k5 : zd (zE 6) ("parts" : Str) = true := by decide
 generalize zE 6 = K at *
 refine wpAny_execs_cons (wpAny_Assign_Name (PyProof.Rows.Call_ ?_) (by rfl))
 refine zhQ ok (n := 5) (zV (by decide) l1 k1 h1) c.cxt fun s₁ g₁ => ?_
 have c₁ := c.gr g₁
 refine PyProof.Rows.callWith_type0 (zgt ?_)
 have g₂ : Gr G s₁ { s₁ with heap := s₁.heap.push { cls := .type "object", data := .plain } } := Gr.push'
 have c₂ := c₁.gr g₂
 generalize s₁.heap.objs.size = S at *
 refine xa c₂ (.inl k2) (d := .opq S) Rd.opq' fun s₃ t₃ c₃ => ?_
 have tk := (Stp.gr (g₁.trans g₂)).trans c.cx.ti t₃
 have eρ : xi (xA ρ "STAR") "STAR" (.opq S) = [(("pat" : Str), D.str x), (("STAR" : Str), D.opq S), (("parts" : Str), D.unb)] := by rw [l4]; rfl
 rw [eρ] at c₃
 refine ExS.andThen (xq (n := 6) ok k5 (zq (fd := .opq 90) (ds := [.str x, .opq S, .str "."]) rfl (zV (by decide) rfl k3 h2) (zL (zH (by decide) rfl rfl) (zL (zH (by decide) rfl rfl) (zL yo za))) rfl (h90 S)) (hp S) (fun env zz => rfl)) c₃ fun Y₄ s₄ t₄ c₄ => ?_
 have eρ' : stD [(("pat" : Str), D.str x), (("STAR" : Str), D.opq S), (("parts" : Str), D.unb)] "parts" (ps S) = [(("pat" : Str), D.str x), (("STAR" : Str), D.opq S), (("parts" : Str), ps S)] := rfl
 rw [eρ'] at c₄
 have np : evD cf 4 K [(("pat" : Str), D.str x), (("STAR" : Str), D.opq S), (("parts" : Str), ps S)] (.Name "parts" p13) = some (ps S) := zH (by decide) rfl (hp S)
 refine ExS.last (zlm (n := 6) ok (zjR (zq (fd := .opq 97) (ds := [ps S, .opq S]) rfl (zV (by decide) rfl k4 h3) (zL np (zL (zH (by decide) rfl rfl) za)) ?_ (h97 S)) rfl)) c₄ c.cx.ti (tk.trans c.cx.ti t₄)
 have := hp S
 show ((ps S).pure && _) = true
 rw [this]; rfl
theorem zgj {G : Gd} {k : Nat} {cf : Cf} {o : Obj} {fd : FuncData} (ok : zZ G cf k) (fr : zn G 71 o fd (zM 6) (zE 6) ["pat"])
  (h1 : cf.Γ "object" = some (.typ "object")) (h2 : cf.Γ "_translate" = some (.opq 90)) (h3 : cf.Γ "_join_translated_parts" = some (.opq 97)) {x y : Str} {ps : Addr → D} (h90 : ∀ S, cf.Φ 90 [.str x, .opq S, .str "."] = some (ps S)) (hp : ∀ S, (ps S).pure = true) (h97 : ∀ S, cf.Φ 97 [ps S, .opq S] = some (.str y)) :
  FnC G (k + 1) 71 [.str x] (.str y) := by
 refine zcT fr rfl fun A X Y s env c E => ?_
 exact zgV ok h1 h2 h3 h90 hp h97 c
section
noncomputable def zlG (ex : Rho → Option Out) (x y : Str) : List D → List D → Rho → Option Out
 | d :: ds, e :: es, ρ => (match ex (stD (stD ρ x d) y e) with | some (.next ρ') => zlG ex x y ds es ρ' | some (.brk ρ') => some (.next ρ') | some (.ret r) => some (.ret r) | none => none)
 | _, _, ρ => some (.next ρ)
theorem zor {P : Nat → Prop} {a b c d : Nat} (h1 : P a) (h2 : P b) (h3 : P c) (h4 : P d) : ∀ x ∈ [a, b, c, d], P x := by
 rw [List.forall_mem_cons, List.forall_mem_cons, List.forall_mem_cons, List.forall_mem_singleton]
 exact ⟨h1, h2, h3, h4⟩
theorem all7 {P : Nat → Prop} {a b c d e f g : Nat} (h1 : P a) (h2 : P b) (h3 : P c) (h4 : P d) (h5 : P e) (h6 : P f) (h7 : P g) : ∀ x ∈ [a, b, c, d, e, f, g], P x := by
 rw [List.forall_mem_cons, List.forall_mem_cons, List.forall_mem_cons]
 exact ⟨h1, h2, h3, zor h4 h5 h6 h7⟩
noncomputable def ZSt (z l1 l2 : Nat) (xs ys : Array Value) (i : Nat) (h : Heap) : Prop := IsZip h (z + 4) (z + 2) (z + 3) .none ∧ IsPair h (z + 2) (.ref z) (.ref (z + 1)) ∧ (∃ a b, IsPair h (z + 3) a b) ∧ h.IsListIter z l1 i ∧ h.IsListIter (z + 1) l2 i ∧ h.IsList l1 xs ∧ h.IsList l2 ys
theorem ilNT {h : Heap} {z l : Nat} {i : Nat} (q : h.IsListIter z l i) : NT h z := by
 refine x2 q fun o a b c => ?_
 exact ⟨_, a, zbj b c (by simp) (by simp)⟩
theorem zcL.zip {G : Gd} {A : Around} {z l1 l2 : Nat} (hh : A.handled = none) (lt1 : l1 < z) (lt2 : l2 < z) (xs ys : Array Value) {elts : List Expr} {kk : Nat} {pos : Pos} :
  zcL G A (.Tuple elts kk pos) (z + 4) [z + 4, z + 2, z + 3, z, z + 1, l1, l2] [z + 4, z + 3, z, z + 1] (min xs.size ys.size) (fun i v h => ∃ T x y, v = .ref T ∧ xs[i]? = some x ∧ ys[i]? = some y ∧ h.IsTuple T #[x, y]) (ZSt z l1 l2 xs ys) := by
 have DA : ZipApart (z + 4) (z + 2) (z + 3) z (z + 1) l1 l2 := by
  constructor <;> (intro q; have q' : (_ : Nat) = _ := q; lia)
 have W := WalksT.zip2 (prog := G.prog) (w := G.w) (A := A) hh (z + 4) (z + 2) (z + 3) z (z + 1) l1 l2 DA xs ys
 refine ⟨W.frame, fun i h st => ?_, fun i s Q E hi st hQ => W.item i s _ E hi st fun T vals h' tk hp hs ht hm hk => W.go _ _ _ i T _ _ _ hm fun h₃ st₃ hk₃ => hQ (.ref T) h₃ tk ?_ st₃ fun b o hb e => hk₃ b o hb (hk b o hb e), W.done⟩
 ·refine zoU st fun a1 a2 a3 a4 a5 zz5 => ?_
  refine zaP a3 fun zz0 zz1 a3 => ?_
  exact zor ⟨_, a1, fun ⟨us, q, t⟩ => by cases q; rcases t with t | ⟨_, _, t⟩ <;> cases t⟩ ⟨_, a3, fun ⟨us, q, t⟩ => by cases q⟩ (ilNT a4) (ilNT a5)
 ·refine xf hp fun x y hx hy zz4 => ?_; subst zz4
  refine zQ ht fun o e r => ?_
  exact ⟨T, x, y, rfl, hx, hy, o, hk₃ _ _ (W.apart i T _ hm) e, r⟩
theorem Rd.out {C : Addr} {X : List Addr} {h : Heap} {ds : List D} {l : Addr} (q : Rd C X h (.lst ds) (.ref l)) : l ∉ X := by
 refine yI q fun a zz1 zz2 e h zz5 => ?_; cases e; exact h
section
variable {G : Gd} {k n : Nat} {cf : Cf} {K : Kn} {ρ : Rho}
theorem zhw (ok : zZ G cf k) {x y : Str} {px py tp zp cp pos : Pos} {kk : Nat} {e1 e2 : Expr} {b : List Stmt} {ds es : List D} {o : Out} (hx : K.lookup x = some .local) (hy : K.lookup y = some .local)
  (hz : evD cf n K ρ (.Name "zip" zp) = some (.typ "zip")) (ha : evL cf n K ρ [e1, e2] = some [.lst ds, .lst es]) (ex : Rho → Option Out) (hb : ∀ ρ o, ex ρ = some o → ExL G k K ρ b o)
  (h : zlG ex x y ds es ρ = some o) : ExS G k K ρ (.For (.Tuple [.Name x px, .Name y py] kk tp) (.Call (.Name "zip" zp) [e1, e2] [] cp) b [] pos) o := by
 intro A Xc Y s env c E
 refine wpAny_For (zfF ok c.cxt hz ha fun s₁ vs g₁ r => ?_) (fun zz => rfl)
 refine w2 r fun zz zz r1 r2 => ?_
 refine yI (r1.list rfl) fun l1 xs n1 zz3 hl1 rl1 => ?_; subst zz3
 refine yI (r2.list rfl) fun l2 ys n2 zz3 hl2 rl2 => ?_; subst zz3
 have c₁ := c.gr g₁
 have r1x := Rd.out r1
 have r2x := Rd.out r2
 have lt1 := Heap.lt_size hl1
 have lt2 := Heap.lt_size hl2
 refine call_zip_2 ⟨_, hl1, rfl, n1, rfl⟩ ⟨_, hl2, rfl, n2, rfl⟩ fun h2 zz zi zo z1 z2 zs up => ?_
 refine wpAny_pyIter_zip zz ?_
 have fr : ∀ b, s₁.heap.objs.size ≤ b → s₁.heap.get? b = none := fun b hb => zT hb
 clear zs
 generalize s₁.heap.objs.size = z at *
 have tabNo : ∀ b, s₁.heap.get? b = none → b ∉ G.T := fun b hb hT => by
  refine zU (G.tabs _ c₁.cx.ti b hT) fun vs e => ?_
  rw [hb] at e; exact zA e
 have w0 := fr z (Nat.le_refl _)
 have w1 := fr (z + 1) (Nat.le_add_right _ _)
 have w2 := fr (z + 2) (Nat.le_add_right _ _)
 have w3 := fr (z + 3) (Nat.le_add_right _ _)
 have w4 := fr (z + 4) (Nat.le_add_right _ _)
 have T := zcL.zip (G := G) (A := A) (elts := [.Name x px, .Name y py]) (kk := kk) (pos := tp) c.room.hh lt1 lt2 xs.toArray ys.toArray
 have lxs : xs.toArray.size = ds.length := by rw [z5, rl1.length]
 have lys : ys.toArray.size = es.length := by rw [z5, rl2.length]
 rw [lxs, lys] at T
 refine zlo T c₁ (Gr.of (tk := s₁.toks) up) up (zor w4 w3 w0 w1) (all7 ⟨.inl w4, ⟨_, zz⟩, tabNo _ w4⟩ ⟨.inl w2, ⟨_, zi⟩, tabNo _ w2⟩ ⟨.inl w3, ⟨_, zo⟩, tabNo _ w3⟩ ⟨.inl w0, ?_, tabNo _ w0⟩ ⟨.inl w1, ?_, tabNo _ w1⟩ ⟨.inr r1x, ⟨_, up _ _ hl1⟩, c₁.cx.notTab hl1 zv⟩ ⟨.inr r2x, ⟨_, up _ _ hl2⟩, c₁.cx.notTab hl2 zv⟩)
  ⟨zz, zi, ⟨_, _, zo⟩, z1, z2, ⟨_, up _ _ hl1, rfl, n1, rfl⟩, ⟨_, up _ _ hl2, rfl, n2, rfl⟩⟩ hb (fun i ρ => zlG ex x y (ds.drop i) (es.drop i) ρ) (fun i hi ρ => stD (stD ρ x (ds[i]'(Nat.lt_of_lt_of_le hi (Nat.min_le_left ..)))) y (es[i]'(Nat.lt_of_lt_of_le hi (Nat.min_le_right ..)))) (fun i hi ρ o h => ?_) (fun ρ o h => ?_) (by rw [List.drop_zero, List.drop_zero]; exact h) (fun i hi v Y' s' ρ' hp lift c' Q E hQ => ?_) fun f s' p => p.pre c.cx.ti (Stp.gr g₁)
 ·exact z1.elim fun o h => ⟨o, h.1⟩
 ·exact z2.elim fun o h => ⟨o, h.1⟩
 ·rw [List.drop_eq_getElem_cons (Nat.lt_of_lt_of_le hi (Nat.min_le_left ..)), List.drop_eq_getElem_cons (Nat.lt_of_lt_of_le hi (Nat.min_le_right ..))] at h
  exact oc h
 ·rcases Nat.le_total ds.length es.length with q | q
  ·rw [Nat.min_eq_left q, List.drop_length] at h
   exact (Option.some.inj h).symm
  ·rw [Nat.min_eq_right q, List.drop_length] at h
   cases hd : ds.drop es.length with
   | nil => rw [hd] at h; exact (Option.some.inj h).symm
   | cons _ _ => rw [hd] at h; exact (Option.some.inj h).symm
 ·refine za4 hp fun T vx vy zz3 hvx hvy hTup => ?_; subst zz3
  refine wpAny_assign_Tuple (items := #[vx, vy]) c.room.hh hTup rfl rfl fun h₄ he₄ => ?_
  have g₄ : Gr G s' { s' with heap := h₄ } := Gr.of (s := s') (tk := s'.toks) fun b o e => he₄ b o (fun q => by rw [q, zT (Nat.le_refl _)] at e; exact zA e) e
  have c₄ := c'.gr g₄
  refine zQ (rl1.get (List.getElem?_eq_getElem (Nat.lt_of_lt_of_le hi (Nat.min_le_left ..)))) fun ux e1 q1 => ?_
  refine zQ (rl2.get (List.getElem?_eq_getElem (Nat.lt_of_lt_of_le hi (Nat.min_le_right ..)))) fun uy e2 q2 => ?_
  have hux : ux = vx := Option.some.inj (e1.symm.trans (by simpa using hvx))
  have huy : uy = vy := Option.some.inj (e2.symm.trans (by simpa using hvy))
  rw [← hux, ← huy]
  show wpAny _ _ (do holding [uy] (assign (.Name x px) env ux); assignInOrder [fun v => assign (.Name y py) env v] [uy]) _ _ _
  refine wpAny_bind (wpAny_holding (wpAny_assign_Name (xa c₄ (.inl hx) ((lift q1).gr c'.xok.tabs g₄) fun s₅ t₅ c₅ => ?_)))
  show wpAny _ _ (do holding [] (assign (.Name y py) env uy); assignInOrder [] []) _ _ _
  refine wpAny_bind (wpAny_holding (wpAny_assign_Name (xa c₅ (.inl hy) (((lift q2).gr c'.xok.tabs g₄).imp fun b o hb e => ⟨hb, t₅.grb.heap b o (fun q => hb (List.mem_append_right _ (c'.xc b q))) (fun q => hb (List.mem_append_left _ q)) e⟩) fun s₆ t₆ c₆ => wpAny_pure (hQ s₆ (((Stp.gr g₄).trans c'.cx.ti t₅).trans c'.cx.ti t₆) c₆))))
end
end
section
noncomputable def zb7 (a : Str) : Option Str → Bool
 | none => true
 | some z => z == a
noncomputable def ya (nm : Nm) (s : Sp) : Bool := match nm with
 | none => false
 | some (a, b) => zb7 a s.1 && zb7 b s.2
noncomputable def xG : List Nm → List Sp → Bool
 | nm :: r, s :: t => ya nm s && xG r t
 | _, _ => true
theorem zn4 {cf : Cf} {n : Nat} {K : Kn} {ρ : Rho} {es : List Expr} {p : Pos} : tsD cf (n + 1) K ρ (.BoolOp .Or es p) = zbo cf n K ρ es := rfl
theorem zbJ {cf : Cf} {n : Nat} {K : Kn} {ρ : Rho} {e : Expr} {es : List Expr} {b : Bool} (h : tsD cf n K ρ e = some b) : zbo cf (n + 1) K ρ (e :: es) = if b then some true else zbo cf n K ρ es := by
 show (match tsD cf n K ρ e with | some true => some true | some false => zbo cf n K ρ es | none => none) = _
 rw [h]; cases b <;> rfl
theorem zlk {cf : Cf} {n : Nat} {K : Kn} {ρ : Rho} : zbo cf (n + 1) K ρ [] = some false := rfl
theorem zje {cf : Cf} {n : Nat} {K : Kn} {ρ : Rho} {es : List Expr} {kk : Nat} {p : Pos} {ds : List D} (h : evL cf n K ρ es = some ds) (hp : (ds.all D.pure && Nat.ble ds.length zK) = true) : evD cf (n + 1) K ρ (.Tuple es kk p) = some (.tup ds) := by
 show zfX _ es = _
 unfold zfX
 rw [h]; dsimp only; rw [hp]
theorem zfv (a : Str) (s : Option Str) : yB .NotIn (yK s) (.tup [.none, .str a]) = some (!(zb7 a s)) := by
 cases s with
 | none => rfl
 | some z =>
  show (match inD (.str z) (.tup [.none, .str a]) with | some c => some (!c) | none => none) = _
  have : inD (.str z) (.tup [.none, .str a]) = some (a == z) := by
   show zaM (.str z) [.none, .str a] = _
   simp [zaM, zc2]
  rw [this]
  show some (!(a == z)) = some (!(z == a))
  rw [show (a == z) = (z == a) from BEq.comm]
section
variable {cf : Cf} {K : Kn} {ρ : Rho}
theorem zjs {t1 t2 t3 t4 t5 t6 t7 t8 t9 t10 t11 t12 t13 t14 t15 t16 t17 t18 t19 t20 t21 t22 : Pos} {nm : Nm} {s : Sp} (h1 : ρ.lookup ("name" : Str) = some (nmD nm)) (h2 : ρ.lookup ("step" : Str) = some (zY s)) :
  tsD cf 12 K ρ (.BoolOp .Or [.Compare (.Name "name" t1) [.Is] [.Constant .none 0 t2] t3,
    .Compare (.Subscript (.Name "step" t4) (.Constant (.int 0) 0 t5) t6) [.NotIn] [.Tuple [.Constant .none 0 t7, .Subscript (.Name "name" t8) (.Constant (.int 0) 0 t9) t10] 0 t11] t12,
    .Compare (.Subscript (.Name "step" t13) (.Constant (.int 1) 0 t14) t15) [.NotIn] [.Tuple [.Constant .none 0 t16, .Subscript (.Name "name" t17) (.Constant (.int 1) 0 t18) t19] 0 t20] t21] t22) = some (!(ya nm s)) := by
 have np : (nmD nm).pure = true := by cases nm with | none => rfl | some p => rfl
 have ns : ∀ n p, evD cf (n + 1) K ρ (.Name "step" p) = some (zY s) := fun n p => zH (by decide) h2 rfl
 have nn : ∀ n p, evD cf (n + 1) K ρ (.Name "name" p) = some (nmD nm) := fun n p => zH (by decide) h1 np
 rw [zn4]
 cases nm with
 | none =>
  rw [zbJ (b := true) (yP (nn _ _) yN rfl)]
  rfl
 | some ab =>
  obtain ⟨a, b⟩ := ab
  rw [zbJ (b := false) (yP (nn _ _) yN rfl)]
  rw [zbJ (b := !(zb7 a s.1)) (yP (yn (ns _ _) (d := yK s.1) rfl) (zje (ds := [.none, .str a]) (zL yN (zL (yn (nn _ _) rfl) za)) rfl) (zfv a s.1))]
  rw [zbJ (b := !(zb7 b s.2)) (yP (yn (ns _ _) (d := yK s.2) rfl) (zje (ds := [.none, .str b]) (zL yN (zL (yn (nn _ _) rfl) za)) rfl) (zfv b s.2))]
  rw [zlk]
  unfold ya
  dsimp only
  cases zb7 a s.1 <;> cases zb7 b s.2 <;> rfl
theorem zfR {t1 t2 t3 t4 t5 t6 t7 t8 t9 t10 t11 t12 t13 t14 t15 t16 t17 t18 t19 t20 t21 t22 t23 t24 t25 : Pos} (w st : D) (hw : ∀ z, w ≠ .app z) (hst : ∀ z, st ≠ .app z) : ∀ (l : List Nm) (ss : List Sp) (a b : D), (∀ z, a ≠ .app z) → (∀ z, b ≠ .app z) →
  ∃ a' b', zlG (fun ρ => exL cf [] 14 K ρ [.If (.BoolOp .Or [.Compare (.Name "name" t1) [.Is] [.Constant .none 0 t2] t3,
    .Compare (.Subscript (.Name "step" t4) (.Constant (.int 0) 0 t5) t6) [.NotIn] [.Tuple [.Constant .none 0 t7, .Subscript (.Name "name" t8) (.Constant (.int 0) 0 t9) t10] 0 t11] t12,
    .Compare (.Subscript (.Name "step" t13) (.Constant (.int 1) 0 t14) t15) [.NotIn] [.Tuple [.Constant .none 0 t16, .Subscript (.Name "name" t17) (.Constant (.int 1) 0 t18) t19] 0 t20] t21] t22) [.Return (some (.Constant (.bool false) 0 t23)) t24] [] t25]) "name" "step" (l.map nmD) (ss.map zY) [(("way" : Str), w), (("steps" : Str), st), (("name" : Str), a), (("step" : Str), b)] =
   (if xG l ss then some (.next [(("way" : Str), w), (("steps" : Str), st), (("name" : Str), a'), (("step" : Str), b')]) else some (.ret (.bool false)))
 | [], ss, a, b, _, _ => ⟨a, b, by cases ss <;> rfl⟩
 | nm :: l, [], a, b, _, _ => ⟨a, b, rfl⟩
 | nm :: l, s :: ss, a, b, ha, hb => by
  have np : ∀ z, nmD nm ≠ .app z := by cases nm with | none => intro z q; cases q | some p => intro z q; cases q
  have ns : ∀ z, zY s ≠ .app z := fun z q => by cases q
  have e : stD (stD [(("way" : Str), w), (("steps" : Str), st), (("name" : Str), a), (("step" : Str), b)] "name" (nmD nm)) "step" (zY s) = [(("way" : Str), w), (("steps" : Str), st), (("name" : Str), nmD nm), (("step" : Str), zY s)] := by
   unfold stD
   rw [xX _ _ _ _ hw, xX _ _ _ _ hst, xX _ _ _ _ ha, xX _ _ _ _ hb]
   simp only [ziu]
   have : xi [(("way" : Str), w), (("steps" : Str), st), (("name" : Str), a), (("step" : Str), b)] "name" (nmD nm) = [(("way" : Str), w), (("steps" : Str), st), (("name" : Str), nmD nm), (("step" : Str), b)] := rfl
   rw [this, xX _ _ _ _ hw, xX _ _ _ _ hst, xX _ _ _ _ np, xX _ _ _ _ hb]
   rfl
  obtain ⟨a', b', ih⟩ := zfR w st hw hst l ss (nmD nm) (zY s) np ns
  refine ⟨a', b', ?_⟩
  rw [List.map_cons, List.map_cons, zlG, e]
  have tt := zjs (cf := cf) (K := K) (ρ := [(("way" : Str), w), (("steps" : Str), st), (("name" : Str), nmD nm), (("step" : Str), zY s)]) (t1 := t1) (t2 := t2) (t3 := t3) (t4 := t4) (t5 := t5) (t6 := t6) (t7 := t7) (t8 := t8) (t9 := t9) (t10 := t10) (t11 := t11) (t12 := t12) (t13 := t13) (t14 := t14) (t15 := t15) (t16 := t16) (t17 := t17) (t18 := t18) (t19 := t19) (t20 := t20) (t21 := t21) (t22 := t22) (nm := nm) (s := s) rfl rfl
  rw [zga, znT, tt]
  cases hf : ya nm s with
  | false =>
   have : xG (nm :: l) (s :: ss) = false := by unfold xG; rw [hf]; rfl
   rw [this]
   rfl
  | true =>
   have : xG (nm :: l) (s :: ss) = xG l ss := by unfold xG; rw [hf]; cases l <;> cases ss <;> rfl
   rw [this]
   exact ih
end
theorem zoz {G : Gd} {k : Nat} {cf : Cf} (ok : zZ G cf k) (hz : cf.Γ "zip" = some (.typ "zip")) (l : List Nm) (ss : List Sp) {p1 p2 p3 p4 p5 p6 p7 p8 p9 p10 t1 t2 t3 t4 t5 t6 t7 t8 t9 t10 t11 t12 t13 t14 t15 t16 t17 t18 t19 t20 t21 t22 t23 t24 t25 : Pos} {A : Around} {X Y : List Addr} {s : Shared} {env : Env} (c : StC G k A X Y s env (zE 23) (yF (zE 23) ["way", "steps"] [.lst (l.map nmD), .lst (ss.map zY)])) {E : Value → Shared → Prop} :
  wpAny (model G.prog G.w) A (execs [.For (.Tuple [.Name "name" p1, .Name "step" p2] 0 p3) (.Call (.Name "zip" p4) [.Name "way" p5, .Name "steps" p6] [] p7) [.If (.BoolOp .Or [.Compare (.Name "name" t1) [.Is] [.Constant .none 0 t2] t3, .Compare (.Subscript (.Name "step" t4) (.Constant (.int 0) 0 t5) t6) [.NotIn] [.Tuple [.Constant .none 0 t7, .Subscript (.Name "name" t8) (.Constant (.int 0) 0 t9) t10] 0 t11] t12, .Compare (.Subscript (.Name "step" t13) (.Constant (.int 1) 0 t14) t15) [.NotIn] [.Tuple [.Constant .none 0 t16, .Subscript (.Name "name" t17) (.Constant (.int 1) 0 t18) t19] 0 t20] t21] t22) [.Return (some (.Constant (.bool false) 0 t23)) t24] [] t25] [] p8, .Return (some (.Constant (.bool true) 0 p9)) p10] env) (x4 G k A X env (zE 23) Y s (.ret (.bool (xG l ss)))) E s := by
 generalize hρ : (yF (zE 23) ["way", "steps"] [.lst (l.map nmD), .lst (ss.map zY)] : Rho) = ρ at c
 have l4 : ρ = [(("way" : Str), .lst (l.map nmD)), (("steps" : Str), .lst (ss.map zY)), (("name" : Str), D.unb), (("step" : Str), D.unb)] := by rw [← hρ]; rfl
 subst l4
 have k1 : (zE 23).lookup ("zip" : Str) = some .globalImplicit := by decide
 have k2 : (zE 23).lookup ("name" : Str) = some .local := by decide
 have k3 : (zE 23).lookup ("step" : Str) = some .local := by decide
 generalize zE 23 = K at *
 obtain ⟨a', b', hl⟩ := zfR (cf := cf) (K := K) (t1 := t1) (t2 := t2) (t3 := t3) (t4 := t4) (t5 := t5) (t6 := t6) (t7 := t7) (t8 := t8) (t9 := t9) (t10 := t10) (t11 := t11) (t12 := t12) (t13 := t13) (t14 := t14) (t15 := t15) (t16 := t16) (t17 := t17) (t18 := t18) (t19 := t19) (t20 := t20) (t21 := t21) (t22 := t22) (t23 := t23) (t24 := t24) (t25 := t25) (.lst (l.map nmD)) (.lst (ss.map zY)) (by simp) (by simp) l ss .unb .unb (by simp) (by simp)
 have ha : evL cf 9 K [(("way" : Str), .lst (l.map nmD)), (("steps" : Str), .lst (ss.map zY)), (("name" : Str), D.unb), (("step" : Str), D.unb)] [.Name "way" p5, .Name "steps" p6] = some [.lst (l.map nmD), .lst (ss.map zY)] :=
  zL (zH (by decide) rfl rfl) (zL (zH (by decide) rfl rfl) za)
 have hzz : evD cf 9 K [(("way" : Str), .lst (l.map nmD)), (("steps" : Str), .lst (ss.map zY)), (("name" : Str), D.unb), (("step" : Str), D.unb)] (.Name "zip" p4) = some (.typ "zip") := zV (by decide) rfl k1 hz
 cases hf : xG l ss with
 | true =>
  rw [hf] at hl
  refine ExS.andThen (zhw ok k2 k3 hzz ha (fun ρ => exL cf [] 14 K ρ _) (fun ρ o h => (yY ok [] 14).2 _ _ _ _ h) hl) c fun Y₄ s₄ t₄ c₄ => ?_
  exact ExS.last (zlm (n := 6) ok (o := .ret (.bool true)) rfl) c₄ c.cx.ti t₄
 | false =>
  rw [hf] at hl
  exact ExS.last (zhw ok k2 k3 hzz ha (fun ρ => exL cf [] 14 K ρ _) (fun ρ o h => (yY ok [] 14).2 _ _ _ _ h) hl) c c.cx.ti Stp.refl
theorem zlV {G : Gd} {k : Nat} {cf : Cf} {o : Obj} {fd : FuncData} (ok : zZ G cf k) (fr : zn G 151 o fd (zM 23) (zE 23) ["way", "steps"]) (hz : cf.Γ "zip" = some (.typ "zip")) (l : List Nm) (ss : List Sp) :
  FnC G (k + 1) 151 [.lst (l.map nmD), .lst (ss.map zY)] (.bool (xG l ss)) := by
 refine zcT fr rfl fun A X Y s env c E => ?_
 exact zoz ok hz l ss c
end
section
noncomputable def zew (vt : Value) : Option Str → Prop
 | some y => ∃ tt, vt = .str y tt
 | none => vt = .none
noncomputable def zkn (C : Addr) (h : Heap) (v : Value) (t : Option Str) : Prop := ∃ a dx es n vt, v = .ref a ∧ h.get? a = some (instObj C dx) ∧ h.get? dx = some (dictOf es n) ∧ getL "tag" es = some (some vt) ∧ zew vt t
theorem ziz {vt : Value} {t : Option Str} (h : zew vt t) : handedIn vt = true := by
 cases t with
 | none => have h' : vt = .none := h; rw [h']; rfl
 | some y => refine zU h fun tt zz1 => ?_; subst zz1; rfl
section
variable {prog : Program} {w : World} {A : Around} {E : Value → Shared → Prop} {s : Shared} {Kf : Frag} {C fI : Addr}
theorem zmI (X : Kf.In s.heap) (NC : x0 Kf C fI) {v : Value} {t : Option Str} (h : zkn C s.heap v t) {Q : Value → Shared → Prop} (hq : ∀ vt, zew vt t → Q vt { s with toks := s.toks + 1 }) {ex : Bool} : wpAny (model prog w) A (getAttr v "tag" ex) Q E s := by
 refine e5_5 h fun a dx es n vt zz5 h1 h2 h3 h4 => ?_; subst zz5
 exact get_value X (zdY h1 h2) (plainGet_of NC.getT).1 (findObj_own NC.has' NC.noT rfl h3) (ziz h4) (hq vt h4)
theorem ziY {G : Gd} (X₀ : Kf.In G.hb) (NC : x0 Kf C fI) (hC : G.C = C) : ∀ A X s a r t, zie G.C X s.heap a r t → Cx G s.heap → XOk G X s.heap → ∀ E, wpAny (model G.prog G.w) A (getAttr (.ref a) "root" true) (fun v s' => Gr G s s' ∧ ∃ u, v = .int r u) E s := by
 rintro A X s a r t ⟨dx, es, n, tr, vt, _, _, h1, h2, h3, _⟩ cx _ E
 rw [hC] at h1
 exact get_value (X₀.keeps cx.hb) (zdY h1 h2) (plainGet_of NC.getR).1 (findObj_own NC.has' NC.noR rfl h3) rfl ⟨Gr.tok, _, rfl⟩
noncomputable def zbq (env : Env) (href : Heap) (y : Str) (v : Value) : Prop := env.kindOf y = some .free ∧ ∃ c, env.cells.lookup y = some c ∧ ∀ s₂ : Shared, ym env.locals href s₂ → s₂.heap.IsCell c (some v)
theorem zbf {env : Env} {href : Heap} {y : Str} {v : Value} {p : Pos} (hk : env.scope.kind = .function) (h : zbq env href y v) (kp : ym env.locals href s) (h1 : (y == ("__debug__" : Str)) = false) (h2 : (y == ("__classdict__" : Str)) = false) {Q : Value → Shared → Prop} (hq : Q v s) :
  wpAny (model prog w) A (eval (.Name y p) env) Q E s := by
 obtain ⟨k, c, hc, hv⟩ := h
 exact wpAny_Name (wpAny_loadName_free hk k hc (hv s kp) hq h2) h1
theorem zcr {env : Env} {href : Heap} {e : Expr} {p1 p2 p3 : Pos} (hk : env.scope.kind = .function) (h1 : zbq env href "_isinstance" (.builtin "isinstance")) (h2 : zbq env href "_str" (.type "str")) (kp : ym env.locals href s) {t : Option Str} {Q : Value → Shared → Prop}
  (he : starEach [e, .Name "_str" p2] env = (false, eval e env) :: starEach [.Name "_str" p2] env) (hev : wpAny (model prog w) A (eval e env) (fun vt s₁ => zew vt t ∧ Keeps s s₁) E s) (hq : ∀ s₁, Keeps s s₁ → Q (.bool t.isSome) s₁) :
  wpAny (model prog w) A (eval (.Call (.Name "_isinstance" p1) [e, .Name "_str" p2] [] p3) env) Q E s := by
 refine PyProof.Rows.Call_ (zbf hk h1 kp (by decide) (by decide) ?_)
 refine callWith_builtin1 ?_ he rfl
 rw [he]
 refine spliced_cons (wpAny_mono hev (fun vt s₁ h₁ => ?_) fun zz zz e => e)
 refine zk h₁ fun ht k1 => ?_
 have kp1 : ym env.locals href s₁ := by
  refine xl k1 fun h' tk zz2 kk => ?_; subst zz2
  exact fun b o hb e => kk b o (kp b o hb e)
 refine spliced_cons (zbf hk h2 kp1 (by decide) (by decide) (spliced_nil ?_))
 cases t with
 | none =>
  have ht' : vt = .none := ht
  subst ht'
  refine IsiPair.NoneType_str (hq _ ?_)
  refine xl k1 fun h' tk zz2 kk => ?_; subst zz2
  exact ⟨h', tk + 1, rfl, kk⟩
 | some y =>
  refine zU ht fun tt zz1 => ?_; subst zz1
  exact IsiPair.str_str (hq _ k1)
theorem Keeps.refl' {s : Shared} : Keeps s s := ⟨s.heap, s.toks, rfl, fun zz zz e => e⟩
theorem Keeps.tok' {s : Shared} {tk : Nat} : Keeps s { s with toks := tk } := ⟨s.heap, tk, rfl, fun zz zz e => e⟩
theorem Keeps.trans' {s s₁ s₂ : Shared} (a : Keeps s s₁) (b : Keeps s₁ s₂) : Keeps s s₂ := by
 refine xl a fun h t zz2 k => ?_; subst zz2
 refine xl b fun h' t' zz2 k' => ?_; subst zz2
 exact ⟨h', t', rfl, fun b o e => k' b o (k b o e)⟩
theorem ym.keeps {L : Addr} {href : Heap} {s s₁ : Shared} (kp : ym L href s) (k : Keeps s s₁) : ym L href s₁ := by
 refine xl k fun h' tk zz2 kk => ?_; subst zz2
 exact fun b o hb e => kk b o (kp b o hb e)
theorem zkL {env : Env} {m : Str → Option Value} {x : Str} {v : Value} {p q : Pos} (X : Kf.In s.heap) (NC : x0 Kf C fI) (hk : env.scope.kind = .function) (hx : env.kindOf x = some .local) (hd : (x == ("__debug__" : Str)) = false) (hn : s.heap.Ns env.locals m) (hm : m x = some v) {t : Option Str} (h : zkn C s.heap v t) :
  wpAny (model prog w) A (eval (.Attribute (.Name x p) "tag" q) env) (fun vt s₁ => zew vt t ∧ Keeps s s₁) E s := by
 rw [arm_eval_Attribute]
 refine wpAny_bind (wpAny_Name (wpAny_loadName_local hk hx hn hm (wpAny_bind (wpAny_standAt ?_))) hd)
 refine wpAny_bind (wpAny_holding (zmI X NC h fun vt ht => ?_))
 exact wpAny_bind (wpAny_letTemporaryGo (wpAny_pure ⟨ht, Keeps.tok'⟩))
structure zc7 (prog : Program) (w : World) (env : Env) (href : Heap) (Kf : Frag) (C : Addr) (vs : List Value) (tags : Nat → Option Str) : Prop where
 kind : env.scope.kind = .function
 elem : env.kindOf "elem" = some .local
 kf : ∀ s₂ : Shared, ym env.locals href s₂ → Kf.In s₂.heap
 isin : zbq env href "_isinstance" (.builtin "isinstance")
 str : zbq env href "_str" (.type "str")
 node : ∀ s₂ : Shared, ym env.locals href s₂ → ∀ (i : Nat) (v : Value), vs.toArray[i]? = some v → zkn C s₂.heap v (tags i)
variable {env : Env} {href : Heap} {vs : List Value} {tags : Nat → Option Str}
theorem selA (SC : zc7 prog w env href Kf C vs tags) (NC : x0 Kf C fI) {p1 p2 p3 p4 p5 : Pos} :
  zak prog w env href "elem" (fun i v => vs.toArray[i]? = some v) (fun i => (tags i).isSome) [] (.Call (.Name "_isinstance" p1) [.Attribute (.Name "elem" p2) "tag" p3, .Name "_str" p4] [] p5) (fun zz zz => True) where
 pre := fun A' E i v s m hh hP kp hn hm => wpAny_execs_nil ⟨rfl, ⟨s.heap, s.toks, rfl, fun zz zz zz e => e⟩, m, hn, hm, trivial⟩
 test := fun A' E i v s m hh hP kp hn hm zz => by
  refine isTrue_plain (zcr SC.kind SC.isin SC.str kp rfl (zkL (SC.kf s kp) NC SC.kind SC.elem (by decide) hn hm (SC.node s kp i v hP)) fun s₁ k1 => ?_)
  exact wpAny_truthy_bool ⟨rfl, k1⟩
noncomputable abbrev elT (tags : Nat → Option Str) (i : Nat) (m : Str → Option Value) : Prop := ∃ vt, m "el_tag" = some vt ∧ zew vt (tags i)
theorem zf4 (SC : zc7 prog w env href Kf C vs tags) (NC : x0 Kf C fI) (hel : env.kindOf "el_tag" = some .local) {q1 q2 q3 q4 : Pos} : ∀ (A' : Around) E (i : Nat) (v : Value) (s : Shared) m, A'.handled = none → vs.toArray[i]? = some v → ym env.locals href s → s.heap.Ns env.locals m → m "elem" = some v →
  wpAny (model prog w) A' (execs [.Assign [.Name "el_tag" q1] (.Attribute (.Name "elem" q2) "tag" q3) q4] env) (fun f s' => f = .next ∧ znC env.locals s s' ∧ ∃ m', s'.heap.Ns env.locals m' ∧ m' "elem" = some v ∧ elT tags i m') E s := by
 intro A' E i v s m hh hP kp hn hm
 refine wpAny_execs_cons (wpAny_Assign_Name (wpAny_mono (zkL (SC.kf s kp) NC SC.kind SC.elem (by decide) hn hm (SC.node s kp i v hP)) (fun vt s₁ h₁ => ?_) fun zz zz e => e) rfl)
 obtain ⟨ht, h1, tk1, rfl, k1⟩ := h₁
 refine wpAny_storeName_local hel (hn.keeps k1) (fun h' hn' hs => ?_) (by rw [SC.kind]; rfl)
 refine wpAny_execs_nil ⟨rfl, ⟨h', _, rfl, fun b o hb e => hs.extBut b o hb (k1 b o e)⟩, _, hn', ?_, vt, ?_, ht⟩
 ·show (if ("elem" : Str) = "el_tag" then some vt else m "elem") = _
  rw [if_neg (by decide)]; exact hm
 ·show (if ("el_tag" : Str) = "el_tag" then some vt else m "el_tag") = _
  rw [if_pos rfl]
theorem zes {s : Shared} {A : Around} {E : Value → Shared → Prop} {m : Str → Option Value} {p : Pos} {vt : Value} (hk : env.scope.kind = .function) (hel : env.kindOf "el_tag" = some .local) (hn : s.heap.Ns env.locals m) (hm : m "el_tag" = some vt) {Q : Value → Shared → Prop} (hq : Q vt s) :
  wpAny (model prog w) A (eval (.Name "el_tag" p) env) Q E s := wpAny_Name (wpAny_loadName_local hk hel hn hm hq) (by decide)
end
end
section
noncomputable def zg9 (t : Option Str) : Bool := match t with | some y => Txt.item y 0 != ("{" : Str) | none => false
noncomputable def zcS (tg sfx : Str) (t : Option Str) : Bool := match t with | some y => (y == tg) || (Txt.slice y (some (-(sfx.length : Int))) none == sfx) | none => false
noncomputable def zhp (ns : Str) (t : Option Str) : Bool := match t with | some y => Txt.slice y none (some (ns.length : Int)) == ns | none => false
section
variable {prog : Program} {w : World} {Kf : Frag} {C fI : Addr} {env : Env} {href : Heap} {vs : List Value} {tags : Nat → Option Str}
theorem selB (SC : zc7 prog w env href Kf C vs tags) (NC : x0 Kf C fI) (hel : env.kindOf "el_tag" = some .local) (hw : ∀ i y, tags i = some y → 1 ≤ y.length ∧ y.length ≤ 1000) {q1 q2 q3 q4 p1 p2 p3 p4 p5 p6 p7 p8 p9 p10 : Pos} :
  zak prog w env href "elem" (fun i v => vs.toArray[i]? = some v) (fun i => zg9 (tags i)) [.Assign [.Name "el_tag" q1] (.Attribute (.Name "elem" q2) "tag" q3) q4]
   (.BoolOp .And [.Call (.Name "_isinstance" p1) [.Name "el_tag" p2, .Name "_str" p3] [] p4, .Compare (.Subscript (.Name "el_tag" p5) (.Constant (.int 0) 0 p6) p7) [.NotEq] [.Constant (.str "{") 0 p8] p9] p10) (elT tags) where
 pre := zf4 SC NC hel
 test := fun A' E i v s m hh hP kp hn hm hT => by
  refine zQ hT fun vt hvt ht => ?_
  refine wpAny_isTrue_BoolOp (wpAny_allTrue_And_cons (isTrue_plain (zcr (t := tags i) SC.kind SC.isin SC.str kp rfl (zes SC.kind hel hn hvt ⟨ht, Keeps.refl'⟩) fun s₁ k1 => wpAny_truthy_bool ?_)))
  cases htg : tags i with
  | none =>
   simp only [Option.isSome_none, Bool.false_eq_true, if_false]
   exact ⟨rfl, k1⟩
  | some y =>
   rw [htg] at ht
   refine zU ht fun tt zz1 => ?_; subst zz1
   refine zk (hw i y htg) fun hy1 hy2 => ?_
   simp only [Option.isSome_some, if_true]
   have hn1 : s₁.heap.Ns env.locals m := by refine xl k1 fun h' tk zz2 kk => ?_; subst zz2; exact hn.keeps kk
   refine wpAny_allTrue_And_cons (wpAny_isTrue_Compare1 (PyProof.Rows.Subscript_ (zes SC.kind hel hn1 hvt (wpAny_Constant_int ?_))))
   refine item_str ?_ ?_ ?_ (fun t' => ?_) rfl (fun r => rfl)
   ·rfl
   ·show -(y.length : Int) ≤ 0; lia
   ·show (0 : Int) < y.length; lia
   refine Calls.Constant_str (PyProof.Rows.ne_str (wpAny_truthy_bool ?_))
   have kk : Keeps s₁ { s₁ with toks := s₁.toks + 1 + 1 + 1 } := Keeps.tok'
   unfold zg9
   dsimp only
   cases hb : (Txt.item y 0 != ("{" : Str)) with
   | false =>
    simp only [Bool.false_eq_true, if_false]
    exact ⟨trivial, Keeps.trans' k1 Keeps.tok'⟩
   | true =>
    exact wpAny_allTrue_And_nil ⟨rfl, Keeps.trans' k1 Keeps.tok'⟩
noncomputable def zgb (href : Heap) (L : Addr) (a : Addr) (l u : Option Int) : Prop := ∃ pl pu : Option (Int × Tok), pl.map (·.1) = l ∧ pu.map (·.1) = u ∧ ∀ s₂ : Shared, ym L href s₂ → s₂.heap.IsSlice a pl pu none
theorem zfM {A : Around} {E : Value → Shared → Prop} {s : Shared} {value : Expr} {p : Pos} {z : Str} {a : Addr} {y : Str} {tt : Tok} {l u : Option Int} {L : Addr} {Q : Value → Shared → Prop} (hs : zgb href L a l u) (kp : ym L href s) (hy : y.length ≤ 1000) (ht : ∀ r, letTemporaryGo value (.str y tt) r = pure ())
  (hq : ∀ t' tk, Q (.str (Txt.slice y l u) t') { s with toks := tk }) : wpAny (model prog w) A (subscriptTail value (.Name z p) (.str y tt) (.ref a)) Q E s := by
 refine xf hs fun pl pu zz2 zz3 hh => ?_; subst zz2; subst zz3
 refine subscriptTail_builtin (T := "str") (typeIs_str _ _ _) PySem.F.slot_str_getitem.lookup ?_ rfl ht
 refine wpAny_getItem_str_slice (hh s kp) rfl ?_
 refine post_val_or_str ⟨?_, fun t' k => hq t' k⟩
 exact Nat.le_trans (Txt.slice_le y _ _) (Nat.le_trans hy (by decide))
theorem selD (SC : zc7 prog w env href Kf C vs tags) (NC : x0 Kf C fI) (hel : env.kindOf "el_tag" = some .local) (hw : ∀ i y, tags i = some y → 1 ≤ y.length ∧ y.length ≤ 1000) {ns : Str} {tn : Tok} {a : Addr} (hns : zbq env href "ns" (.str ns tn)) (hso : zbq env href "ns_only" (.ref a)) (hsl : zgb href env.locals a none (some (ns.length : Int)))
  {q1 q2 q3 q4 p1 p2 p3 p4 p5 p6 p7 p8 p9 p10 : Pos} :
  zak prog w env href "elem" (fun i v => vs.toArray[i]? = some v) (fun i => zhp ns (tags i)) [.Assign [.Name "el_tag" q1] (.Attribute (.Name "elem" q2) "tag" q3) q4]
   (.BoolOp .And [.Call (.Name "_isinstance" p1) [.Name "el_tag" p2, .Name "_str" p3] [] p4, .Compare (.Subscript (.Name "el_tag" p5) (.Name "ns_only" p6) p7) [.Eq] [.Name "ns" p8] p9] p10) (elT tags) where
 pre := zf4 SC NC hel
 test := fun A' E i v s m hh hP kp hn hm hT => by
  refine zQ hT fun vt hvt ht => ?_
  refine wpAny_isTrue_BoolOp (wpAny_allTrue_And_cons (isTrue_plain (zcr (t := tags i) SC.kind SC.isin SC.str kp rfl (zes SC.kind hel hn hvt ⟨ht, Keeps.refl'⟩) fun s₁ k1 => wpAny_truthy_bool ?_)))
  have kp1 := kp.keeps k1
  cases htg : tags i with
  | none =>
   simp only [Option.isSome_none, Bool.false_eq_true, if_false]
   exact ⟨rfl, k1⟩
  | some y =>
   rw [htg] at ht
   refine zU ht fun tt zz1 => ?_; subst zz1
   refine zk (hw i y htg) fun hy1 hy2 => ?_
   simp only [Option.isSome_some, if_true]
   have hn1 : s₁.heap.Ns env.locals m := by refine xl k1 fun h' tk zz2 kk => ?_; subst zz2; exact hn.keeps kk
   refine wpAny_allTrue_And_cons (wpAny_isTrue_Compare1 (PyProof.Rows.Subscript_ (zes SC.kind hel hn1 hvt (zbf SC.kind hso kp1 (by decide) (by decide) ?_))))
   refine zfM hsl kp1 hy2 (fun r => rfl) fun t' tk => ?_
   refine zbf SC.kind hns (s := { s₁ with toks := tk }) kp1 (by decide) (by decide) ?_
   refine PyProof.Rows.eq_str (wpAny_truthy_bool ?_)
   unfold zhp
   dsimp only
   cases hb : (Txt.slice y none (some (ns.length : Int)) == ns) with
   | false =>
    simp only [Bool.false_eq_true, if_false]
    exact ⟨trivial, Keeps.trans' k1 Keeps.tok'⟩
   | true =>
    exact wpAny_allTrue_And_nil ⟨rfl, Keeps.trans' k1 Keeps.tok'⟩
theorem selC (SC : zc7 prog w env href Kf C vs tags) (NC : x0 Kf C fI) (hel : env.kindOf "el_tag" = some .local) (hw : ∀ i y, tags i = some y → 1 ≤ y.length ∧ y.length ≤ 1000) {tg sfx : Str} {t1 t2 : Tok} {a : Addr} (htg' : zbq env href "tag" (.str tg t1)) (hsf : zbq env href "suffix" (.str sfx t2)) (hso : zbq env href "no_ns" (.ref a)) (hsl : zgb href env.locals a (some (-(sfx.length : Int))) none)
  {q1 q2 q3 q4 p0 p00 p000 p1 p2 p3 p4 p5 p6 p7 p8 p9 p10 p11 : Pos} :
  zak prog w env href "elem" (fun i v => vs.toArray[i]? = some v) (fun i => zcS tg sfx (tags i)) [.Assign [.Name "el_tag" q1] (.Attribute (.Name "elem" q2) "tag" q3) q4]
   (.BoolOp .Or [.Compare (.Name "el_tag" p0) [.Eq] [.Name "tag" p00] p000, .BoolOp .And [.Call (.Name "_isinstance" p1) [.Name "el_tag" p2, .Name "_str" p3] [] p4, .Compare (.Subscript (.Name "el_tag" p5) (.Name "no_ns" p6) p7) [.Eq] [.Name "suffix" p8] p9] p10] p11) (elT tags) where
 pre := zf4 SC NC hel
 test := fun A' E i v s m hh hP kp hn hm hT => by
  refine zQ hT fun vt hvt ht => ?_
  refine wpAny_isTrue_BoolOp (wpAny_allTrue_Or_cons (wpAny_isTrue_Compare1 (zes SC.kind hel hn hvt (zbf SC.kind htg' kp (by decide) (by decide) ?_))))
  have second : ∀ {Q : Bool → Shared → Prop}, (∀ b s', b = (match tags i with | some y => Txt.slice y (some (-(sfx.length : Int))) none == sfx | none => false) → Keeps s s' → Q b s') →
    wpAny (model prog w) A' (isTrue (.BoolOp .And [.Call (.Name "_isinstance" p1) [.Name "el_tag" p2, .Name "_str" p3] [] p4, .Compare (.Subscript (.Name "el_tag" p5) (.Name "no_ns" p6) p7) [.Eq] [.Name "suffix" p8] p9] p10) env (eval (.BoolOp .And [.Call (.Name "_isinstance" p1) [.Name "el_tag" p2, .Name "_str" p3] [] p4, .Compare (.Subscript (.Name "el_tag" p5) (.Name "no_ns" p6) p7) [.Eq] [.Name "suffix" p8] p9] p10) env)) Q E s := by
   intro Q hQ
   refine wpAny_isTrue_BoolOp (wpAny_allTrue_And_cons (isTrue_plain (zcr (t := tags i) SC.kind SC.isin SC.str kp rfl (zes SC.kind hel hn hvt ⟨ht, Keeps.refl'⟩) fun s₁ k1 => wpAny_truthy_bool ?_)))
   have kp1 := kp.keeps k1
   cases htg : tags i with
   | none =>
    simp only [Option.isSome_none, Bool.false_eq_true, if_false]
    exact hQ _ _ (by rw [htg]) k1
   | some y =>
    rw [htg] at ht
    refine zU ht fun tt zz1 => ?_; subst zz1
    refine zk (hw i y htg) fun hy1 hy2 => ?_
    simp only [Option.isSome_some, if_true]
    have hn1 : s₁.heap.Ns env.locals m := by refine xl k1 fun h' tk zz2 kk => ?_; subst zz2; exact hn.keeps kk
    refine wpAny_allTrue_And_cons (wpAny_isTrue_Compare1 (PyProof.Rows.Subscript_ (zes SC.kind hel hn1 hvt (zbf SC.kind hso kp1 (by decide) (by decide) ?_))))
    refine zfM hsl kp1 hy2 (fun r => rfl) fun t' tk => ?_
    refine zbf SC.kind hsf (s := { s₁ with toks := tk }) kp1 (by decide) (by decide) ?_
    refine PyProof.Rows.eq_str (wpAny_truthy_bool ?_)
    cases hb : (Txt.slice y (some (-(sfx.length : Int))) none == sfx) with
    | false =>
     exact hQ _ _ (by rw [htg]; exact hb.symm) (Keeps.trans' k1 Keeps.tok')
    | true =>
     exact wpAny_allTrue_And_nil (hQ _ _ (by rw [htg]; exact hb.symm) (Keeps.trans' k1 Keeps.tok'))
  have last : ∀ {s₀ : Shared}, s₀ = s → ∀ b1, (b1 = (match tags i with | some y => y == tg | none => false)) → wpAny (model prog w) A' (truthy (.bool b1)) (fun b s' => if b = true then (fun b s' => b = zcS tg sfx (tags i) ∧ Keeps s s') true s' else wpAny (model prog w) A' (allTrue .Or [.BoolOp .And [.Call (.Name "_isinstance" p1) [.Name "el_tag" p2, .Name "_str" p3] [] p4, .Compare (.Subscript (.Name "el_tag" p5) (.Name "no_ns" p6) p7) [.Eq] [.Name "suffix" p8] p9] p10] env) (fun b s' => b = zcS tg sfx (tags i) ∧ Keeps s s') E s') E s₀ := by
   rintro s₀ rfl b1 hb1
   refine wpAny_truthy_bool ?_
   cases b1 with
   | true =>
    refine ⟨?_, Keeps.refl'⟩
    unfold zcS
    cases htg : tags i with
    | none => rw [htg] at hb1; cases hb1
    | some y => rw [htg] at hb1; dsimp only at hb1 ⊢; rw [← hb1]; rfl
   | false =>
    refine wpAny_allTrue_Or_cons (second fun b s' hb k => ?_)
    have fin : b = zcS tg sfx (tags i) := by
     unfold zcS
     cases htg : tags i with
     | none => rw [htg] at hb; exact hb
     | some y => rw [htg] at hb hb1; dsimp only at hb hb1 ⊢; rw [hb, ← hb1]; rfl
    cases b with
    | true => simp only [if_true]; exact ⟨fin, k⟩
    | false => simp only [Bool.false_eq_true, if_false]; exact wpAny_allTrue_Or_nil ⟨fin, k⟩
  cases htg : tags i with
  | none =>
   rw [htg] at ht
   have ht' : vt = .none := ht
   subst ht'
   exact PySem.EqNone.eq_none_str (by rw [← htg]; exact last rfl false (by rw [htg]))
  | some y =>
   rw [htg] at ht
   refine zU ht fun tt zz1 => ?_; subst zz1
   exact PyProof.Rows.eq_str (by rw [← htg]; exact last rfl (y == tg) (by rw [htg]))
end
end
section
theorem zdv {C : Addr} {X : List Addr} {h : Heap} (keep : D → Bool) : ∀ {ds : List D} {vs : List Value}, RdL C X h ds vs →
  RdL C X h (ds.filter keep) (((List.range ds.length).filter fun i => keep (ds.getD i .none)).map fun i => vs.getD i .none)
 | [], vs, r => by simp; exact .nil
 | d :: ds, vs, r => by
  refine xf r.cons_inv fun v vs' zz2 hr l => ?_; subst zz2
  have ih := zdv keep l
  rw [List.length_cons, List.range_succ_eq_map, List.filter_cons]
  have e : (List.filter (fun i => keep ((d :: ds).getD i .none)) (List.map Nat.succ (List.range ds.length))).map (fun i => (v :: vs').getD i .none) = ((List.range ds.length).filter fun i => keep (ds.getD i .none)).map fun i => vs'.getD i .none := by
   rw [List.filter_map, List.map_map]
   rfl
  by_cases hk : keep d = true
  ·rw [if_pos hk, List.filter_cons_of_pos (by exact hk), List.map_cons]
   refine .cons hr ?_
   rw [e]; exact ih
  ·rw [if_neg hk, List.filter_cons_of_neg (by exact hk), e]
   exact ih
theorem zh4 {vs : List Value} {pz : Nat → Bool} {acc : Array Value} (h : ItemsOf (fun j y => ∃ i, (passing pz vs.toArray.size 0)[j]? = some i ∧ vs.toArray[i]? = some y) acc (passing pz vs.toArray.size 0).length) :
  acc.toList = ((List.range vs.length).filter pz).map fun i => vs.getD i .none := by
 have ep : passing pz vs.toArray.size 0 = (List.range vs.length).filter pz := by unfold passing; simp
 rw [ep] at h
 refine zk h fun h1 h2 => ?_
 refine List.ext_getElem? fun j => ?_
 rw [List.getElem?_map]
 by_cases hj : j < acc.size
 ·have e : acc.toList[j]? = some acc[j] := by simp [hj]
  obtain ⟨i, hi, hv⟩ := h2 j acc[j] (by simp [hj])
  rw [e, hi]
  simp only [Option.map_some, Option.some.injEq]
  have hv' : vs[i]? = some acc[j] := by simpa using hv
  rw [List.getD_eq_getElem?_getD, hv']; rfl
 ·have e : acc.toList[j]? = none := by simp; lia
  rw [e]
  have : ((List.range vs.length).filter pz)[j]? = none := by simp only [List.getElem?_eq_none_iff]; lia
  rw [this]; rfl
theorem zkf {a b : Array GenState} {g : Nat} {c : Code} (ha : AllBare a) (hg : g = a.size) (ho : GenOnly g (a.push (.fresh c)) b) (hf : b[g]? = some .finished) : AllBare b := by
 intro x hx
 obtain ⟨i, hi, rfl⟩ := Array.mem_iff_getElem.mp hx
 by_cases e : i = g
 ·subst e
  rw [Array.getElem?_eq_getElem hi] at hf
  rw [Option.some.inj hf]; rfl
 ·have h1 := ho.2 i e
  rw [Array.getElem?_eq_getElem hi] at h1
  have hlt : i < a.size := by
   have := ho.1
   rw [Array.size_push] at this
   lia
  rw [Array.getElem?_push, if_neg (by lia), Array.getElem?_eq_getElem hlt] at h1
  rw [Option.some.inj h1]
  exact ha _ (Array.getElem_mem hlt)
section
variable {G : Gd} {A : Around} {X : List Addr} {E : Value → Shared → Prop} {s : Shared} {f : Addr} {name qual : Str} {params : Arguments} {scope : Scope} {clos : List (Str × Addr)} {doc pm cv ctv : Value} {pre : List Stmt} {test : Expr} {px pr p1 p2 p3 p4 bpos : Pos}
theorem zk8 (hh : A.handled = none) (hroom : A.depth + 1 < recursionLimit) (cx : Cx G s.heap) (hf : s.heap.get? f = some (zdy (fnX name qual params (za0 "elem" "result" px pr pre test p1 p2 p3 p4 bpos) scope clos .none .none doc pm none cv ctv))) (hcv : s.heap.CodeRec cv qual)
  (hco : scope.isCoroutine = false) (hgen : scope.isGenerator = true) (hk : scope.kind = .function) (hcell : ∀ y ∈ scope.names, y.2 ≠ .cell) (hc : scope.names.lookup ("context" : Str) = some .local) (hr : scope.names.lookup ("result" : Str) = some .local) (he : scope.names.lookup ("elem" : Str) = some .local)
  (hbind : ∀ a b, bindArgs (fnX name qual params (za0 "elem" "result" px pr pre test p1 p2 p3 p4 bpos) scope clos .none .none doc pm none cv ctv) ⟨[a, b], []⟩ = pure [(("context" : Str), a), (("result" : Str), b)])
  {l : Addr} {vs : List Value} {j : Nat} {ds : List D} (hl : s.heap.get? l = some (zW vs j)) (hX : XOk G X s.heap) (hlX : l ∉ X) (rl : RdL G.C X s.heap ds vs) (hsz : ds.length ≤ 1000) {keep : D → Bool} {T : Nat → (Str → Option Value) → Prop}
  (hB : ∀ (env : Env) (s' : Shared), env.scope = scope → env.cells = clos → env.locals = s.heap.objs.size → (∀ b o, s.heap.get? b = some o → s'.heap.get? b = some o) → zak G.prog G.w env s'.heap "elem" (fun i v => vs.toArray[i]? = some v) (fun i => keep (ds.getD i .none)) pre test T)
  {Q : Value → Shared → Prop} (hQ : ∀ v s₁, Gr G s s₁ → (∀ {A' : Around} {E' : Value → Shared → Prop} {Q' : Value → Shared → Prop}, A'.handled = none → A'.depth + 1 < recursionLimit → (∀ u s₂, Gr G s s₂ → Rd G.C X s₂.heap (.lst (ds.filter keep)) u → Q' u s₂) → wpAny (model G.prog G.w) A' (call (.type "list") [v]) Q' E' s₁) → Q v s₁) :
  wpAny (model G.prog G.w) A (call (.ref f) [.none, .ref l]) Q E s := by
 have hlim : s.heap.NoLimit := G.nolim.keeps cx.hb
 refine wpAny_call (codeAny_call_generator (Nat.lt_of_succ_lt hroom) hf rfl hco hgen rfl hcv ?_)
 rw [hbind]
 refine wpAny_pure (wpAny_newFunctionEnv hcell (by
  intro y hy
  simp only [List.mem_cons, List.not_mem_nil, or_false] at hy
  rcases hy with rfl | rfl
  ·exact hc
  ·exact hr) (fun h' hns hsb => ?_) hk)
 have eL : ∀ {e : Env}, e = newEnv scope s.heap.objs.size mainGlobals clos (qual ++ ".<locals>.") (some f) cv none builtinsNs → e.locals = s.heap.objs.size ∧ e.scope = scope ∧ e.cells = clos := by
  rintro e rfl; exact ⟨rfl, rfl, rfl⟩
 show Heap.NoLimit h' ∧ _
 have old : ∀ b o, s.heap.get? b = some o → h'.get? b = some o := fun b o e => hsb.extBut b o (Nat.ne_of_lt (Heap.lt_size e)) (Heap.get?_push_of_some _ e)
 refine ⟨hlim.keeps old, ?_⟩
 generalize henv : newEnv scope s.heap.objs.size mainGlobals clos (qual ++ ".<locals>.") (some f) cv none builtinsNs = env
 refine xr (eL henv.symm) fun e1 e2 e3 => ?_
 have lt : s.heap.objs.size < h'.objs.size := hns.lt
 generalize hs1 : ({ s with heap := h'.push { cls := .type "generator", data := .fields #[.int s.gens.size 0, .str name (s.toks + 2), .str qual (s.toks + 2 + 1)] }, gens := s.gens.push (.fresh (.func (za0 "elem" "result" px pr pre test p1 p2 p3 p4 bpos) env)), toks := s.toks + 2 + 1 + 1 } : Shared) = s₁
 have eqS : s₁.heap = h'.push { cls := .type "generator", data := .fields #[.int s.gens.size 0, .str name (s.toks + 2), .str qual (s.toks + 2 + 1)] } := by rw [← hs1]
 have eqG : s₁.gens = s.gens.push (.fresh (.func (za0 "elem" "result" px pr pre test p1 p2 p3 p4 bpos) env)) := by rw [← hs1]
 have eqO : s₁.os = s.os := by rw [← hs1]
 have up1 : ∀ b o, s.heap.get? b = some o → s₁.heap.get? b = some o := fun b o e => by rw [eqS]; exact Heap.get?_push_of_some _ (old b o e)
 have g1 : Gr G s s₁ := ⟨fun b o zz e => up1 b o e, fun t => G.frame _ _ t fun b o zz e => up1 b o e, eqO, fun hb => by rw [eqG]; exact hb.push rfl⟩
 refine (fun goal => hs1 ▸ goal : Q (.ref h'.objs.size) s₁ → Q (.ref h'.objs.size) _) ?_
 refine hQ _ _ g1 fun {A' E' Q'} hh' hroom' hQ' => ?_
 have hga : s₁.heap.IsGen h'.objs.size s.gens.size := by
  refine ⟨_, _, _, by rw [eqS]; exact Heap.get?_push_size _ rfl, rfl, rfl, rfl⟩
 have hgs : s₁.gens[s.gens.size]? = some (.fresh (.func (za0 "elem" "result" px pr pre test p1 p2 p3 p4 bpos) env)) := by rw [eqG]; exact Array.getElem?_push_size ..
 have hll : s₁.heap.IsList l vs.toArray := ⟨_, up1 _ _ hl, rfl, j, rfl⟩
 have hlL : l ≠ env.locals := by rw [e1]; exact Nat.ne_of_lt (Heap.lt_size hl)
 have haL : h'.objs.size ≠ env.locals := by rw [e1]; exact Nat.ne_of_gt lt
 have hcL : cStatics ≠ env.locals := by
  rw [e1]
  refine zQ hlim fun mc hn zz2 => ?_
  exact Nat.ne_of_lt hn.lt
 have hns1 : s₁.heap.Ns env.locals (fun x => [(("context" : Str), Value.none), (("result" : Str), .ref l)].reverse.lookup x) := by
  rw [eqS, e1]; exact hns.push _
 have kof : ∀ x, env.kindOf x = scope.names.lookup x := fun x => by unfold Env.kindOf; rw [e2]
 have hsize : (passing (fun i => keep (ds.getD i .none)) vs.toArray.size 0).length ≤ sizeLine := by
  have ep : (passing (fun i => keep (ds.getD i .none)) vs.toArray.size 0).length ≤ vs.length := by
   refine Nat.le_trans (List.length_filter_le _ _) ?_
   simp
  rw [rl.length] at ep
  exact Nat.le_trans ep (Nat.le_trans hsz (by decide))
 refine zlA (s := s₁) (m := fun x => [(("context" : Str), Value.none), (("result" : Str), .ref l)].reverse.lookup x) hh' (Nat.lt_of_succ_lt hroom') ((kof _).trans he) ((kof _).trans hr) (by rw [e2]; exact hk) (by rw [e2]; exact hco) (by decide) (by decide) hll hlL haL hcL (hlim.keeps up1) hga hgs
  (hB env s₁ e2 e3 e1 up1) hns1 rfl hsize fun s₂ acc c kp hos hgo hfin hnew hS hit => ?_
 have eacc := zh4 hit
 have up2 : ∀ b o, s.heap.get? b = some o → s₂.heap.get? b = some o := fun b o e => kp b o (by rw [e1]; exact Nat.ne_of_lt (Heap.lt_size e)) (up1 b o e)
 have g2 : Gr G s s₂ := by
  refine ⟨fun b o zz e => up2 b o e, fun t => G.frame _ _ t fun b o zz e => up2 b o e, hos.trans eqO, fun hb => ?_⟩
  rw [eqG] at hgo
  exact zkf hb rfl hgo hfin
 refine hQ' _ _ g2 ?_
 have fresh : s₁.heap.objs.size ∉ X := fun q => by
  refine zU (hX.live _ q) fun o e => ?_
  rw [up1 _ _ e] at hnew; exact zA hnew.symm
 have epz : ((List.range vs.length).filter fun i => keep (ds.getD i .none)) = (List.range ds.length).filter fun i => keep (ds.getD i .none) := by rw [rl.length]
 have rp := zdv keep rl
 refine Rd.lst' (vs := acc.toList) (n := c) fresh ?_ ?_
 ·rw [hS]
 ·rw [eacc, epz]
  exact rp.imp fun b o hb e => ⟨hb, up2 b o e⟩
end
end
structure zfy (d : Stmt) (params : Arguments) (scope : Scope) (pre : List Stmt) (test : Expr) (px pr p1 p2 p3 p4 bpos pos : Pos) : Prop where
 eq : d = .FunctionDef "select" params (za0 "elem" "result" px pr pre test p1 p2 p3 p4 bpos) [] none [] scope none "select" pos
 d0 : params.defaults = []
 k0 : params.kw_defaults = []
 ann : ∀ env, annTrees params none env = []
 co : scope.isCoroutine = false
 gen : scope.isGenerator = true
 kind : scope.kind = .function
 cell : scope.names.all (fun p => p.2 != .cell) = true
 ctx : scope.names.lookup ("context" : Str) = some .local
 res : scope.names.lookup ("result" : Str) = some .local
 elem : scope.names.lookup ("elem" : Str) = some .local
 isin : scope.names.lookup ("_isinstance" : Str) = some .free
 str : scope.names.lookup ("_str" : Str) = some .free
 free : scope.names.all (fun p => p.2 != .free || (zE 2).lookup p.1 == some .cell) = true
 bind : ∀ qual clos doc pm cv ctv a b, bindArgs (fnX "select" qual params (za0 "elem" "result" px pr pre test p1 p2 p3 p4 bpos) scope clos .none .none doc pm none cv ctv) ⟨[a, b], []⟩ = pure [(("context" : Str), a), (("result" : Str), b)]
noncomputable abbrev slLo (k : Int) (v : Str) (p1 p2 p3 p4 : Pos) : Expr := .Subscript (.Name v p1) (.Slice (some (.Constant (.int k) 0 p2)) none none p3) p4
noncomputable abbrev zpw (k : Int) (v : Str) (p1 p2 p3 p4 p5 : Pos) : Expr := .Subscript (.Name v p1) (.Slice none (some (.UnaryOp .USub (.Constant (.int k) 0 p2) p3)) none p4) p5
noncomputable abbrev zpC (l : Expr) (x : Str) (p q : Pos) : Expr := .Compare l [.Eq] [.Constant (.str x) 0 p] q
noncomputable abbrev zkp (q1 q2 q3 q4 : Pos) : List Stmt := [.Assign [.Name "el_tag" q1] (.Attribute (.Name "elem" q2) "tag" q3) q4]
noncomputable abbrev zkR (p1 p2 p3 p4 : Pos) : Expr := .Call (.Name "_isinstance" p1) [.Name "el_tag" p2, .Name "_str" p3] [] p4
section
section
variable {G : Gd} {k n : Nat} {cf : Cf} {K : Kn} {ρ : Rho}
theorem ze9 {env : Env} {x y : Str} {px py : Pos} {a b : Expr} {kk k2 : Nat} {tp vp : Pos} (ek : zfd env K) (h1 : K.lookup x = some .cell) (h2 : K.lookup y = some .cell) (ha : ∀ e p, a ≠ .Starred e p) (hb : ∀ e p, b ≠ .Starred e p) :
  swappedStores [.Tuple [.Name x px, .Name y py] kk tp] (.Tuple [a, b] k2 vp) env = pure none := by
 have k1 : env.kindOf x = some .cell := by unfold Env.kindOf; rw [ek.names]; exact h1
 have k2' : env.kindOf y = some .cell := by unfold Env.kindOf; rw [ek.names]; exact h2
 have hbk : env.blockKind = .function := by unfold Env.blockKind; rw [ek.kind]; rfl
 have hs : ([a, b].any fun | .Starred .. => true | _ => false) = false := by
  rw [List.any_cons, List.any_cons]
  refine Bool.or_eq_false_iff.mpr ⟨?_, Bool.or_eq_false_iff.mpr ⟨?_, rfl⟩⟩
  ·cases a <;> first | rfl | exact absurd rfl (ha _ _)
  ·cases b <;> first | rfl | exact absurd rfl (hb _ _)
 have hn : ([Expr.Name x px, Expr.Name y py].filterMap fun
  | .Name id pos => if env.kindOf id == some .local && pos.line == px.line then some id else none
  | _ => none) = [] := by
  simp [List.filterMap_cons, k1, k2']
 unfold swappedStores
 dsimp only
 refine (if_neg (by rw [hbk]; simp)).trans ?_
 refine (if_neg (fun q => Bool.noConfusion (hs.symm.trans q))).trans ?_
 generalize hN : List.filterMap _ _ = names
 have hN' : names = [] := hN.symm.trans hn
 subst hN'
 exact if_pos rfl
theorem zmQ (ok : zZ G cf k) {x y : Str} {px py tp vp pos : Pos} {a b : Expr} {kk k2 : Nat} {da db : D} (h1 : K.lookup x = some .cell) (h2 : K.lookup y = some .cell)
  (ha : evD cf n K ρ a = some da) (hb : evD cf n K ρ b = some db) (hp : (da.pure && db.pure) = true) (hsw : ∀ env : Env, swapsWithSole [.Tuple [.Name x px, .Name y py] kk tp] (.Tuple [a, b] k2 vp) pos.line env = pure false) :
  ExS G k K ρ (.Assign [.Tuple [.Name x px, .Name y py] kk tp] (.Tuple [a, b] k2 vp) pos) (.next (stD (stD ρ x da) y db)) := by
 intro A Xc Y s env c E
 rw [Bool.and_eq_true] at hp
 have star : ∀ {e : Expr} {d : D}, evD cf n K ρ e = some d → ∀ e' p, e ≠ .Starred e' p := fun he e' p q => by
  subst q
  cases n with
  | zero => exact zA he
  | succ n => exact zA he
 refine Assign_Tuple (Tuple_ ?_) (hsw env) (ze9 c.cxt.env.k h1 h2 (star ha) (star hb))
 refine args_cons (((zt ok n).ev _ _ _ _ ha A _ s env c.cxt).post fun va s₁ g₁ r₁ => ?_) (yL ha _ env)
 have c₁ := c.gr g₁
 refine args_cons (((zt ok n).ev _ _ _ _ hb A _ s₁ env c₁.cxt).post fun vb s₂ g₂ r₂ => ?_) (yL hb _ env)
 refine args_nil ?_
 have c₂ := c₁.gr g₂
 refine wpAny_newObj_type ?_ (by show 2 ≤ sizeLine; decide)
 have g₃ : Gr G s₂ { s₂ with heap := s₂.heap.push (y9 [va, vb] 0) } := Gr.push'
 have c₃ := c₂.gr g₃
 have hh : A.handled = none := c.room.hh
 refine wpAny_assign_Tuple (s := { s₂ with heap := s₂.heap.push (y9 [va, vb] 0) }) (items := #[va, vb]) hh ⟨_, Heap.get?_push_size _ rfl, rfl, 0, rfl⟩ rfl rfl fun h' he => ?_
 have g₄ : Gr G { s₂ with heap := s₂.heap.push (y9 [va, vb] 0) } { s₂ with heap := h' } := Gr.of (s := { s₂ with heap := s₂.heap.push (y9 [va, vb] 0) }) (tk := s₂.toks) fun b o e => he b o (fun q => by rw [q, xO (o := y9 [va, vb] 0)] at e; exact zA e) e
 have c₄ := c₃.gr g₄
 have ra : Rd G.C (Y ++ Xc) h' da va := Rd.gr c₃.xok.tabs g₄ (Rd.gr c₂.xok.tabs g₃ (Rd.gr c₁.xok.tabs g₂ (r₁.rd hp.1)))
 have rb : Rd G.C (Y ++ Xc) h' db vb := Rd.gr c₃.xok.tabs g₄ (Rd.gr c₂.xok.tabs g₃ (r₂.rd hp.2))
 show wpAny _ _ (do holding [vb] (assign (.Name x px) env va); assignInOrder [fun v => assign (.Name y py) env v] [vb]) _ _ _
 refine wpAny_bind (wpAny_holding (wpAny_assign_Name (xa c₄ (.inr h1) ra fun s₅ t₅ c₅ => ?_)))
 show wpAny _ _ (do holding [] (assign (.Name y py) env vb); assignInOrder [] []) _ _ _
 have rb₅ : Rd G.C (Y ++ Xc) s₅.heap db vb := rb.imp fun b o hb e => ⟨hb, t₅.grb.heap b o (fun q => hb (List.mem_append_right _ (c.xc b q))) (fun q => hb (List.mem_append_left _ q)) e⟩
 refine wpAny_bind (wpAny_holding (wpAny_assign_Name (xa c₅ (.inr h2) rb₅ fun s₆ t₆ c₆ => wpAny_pure ?_)))
 have t : Stp G Y s Y { s₂ with heap := h' } := Stp.gr (((g₁.trans g₂).trans g₃).trans g₄)
 exact ⟨Y, (t.trans c.cx.ti t₅).trans c.cx.ti t₆, rfl, c₆⟩
theorem zdW {A : Around} {Xc Y : List Addr} {s : Shared} {env : Env} (c : StC G k A Xc Y s env (zE 2) ρ) {cc P : Addr} {qual : Str} (TG : zeG G cc P (qual ++ ("select" : Str))) (hK : x5 (zE 2) = some (.ref cc, qual))
  {d : Stmt} {params : Arguments} {scope : Scope} {pre : List Stmt} {test : Expr} {px pr p1 p2 p3 p4 bpos pos : Pos} (IS : zfy d params scope pre test px pr p1 p2 p3 p4 bpos pos) {E : Value → Shared → Prop} {Q : Flow → Shared → Prop}
  (hQ : ∀ s' f clos doc cv ctv, Stp G Y s Y s' → StC G k A Xc Y s' env (zE 2) (stD ρ "select" (.opq f)) → f ∉ G.T → s'.heap.get? f = some (zdy (fnX "select" (qual ++ ("select" : Str)) params (za0 "elem" "result" px pr pre test p1 p2 p3 p4 bpos) scope clos .none .none doc ((G.mg "__name__").getD .none) none cv ctv)) → s'.heap.CodeRec cv (qual ++ ("select" : Str)) →
   (∀ y, scope.names.lookup y = some .free → clos.lookup y = env.cells.lookup y) → Q .next s') : wpAny (model G.prog G.w) A (exec d env) Q E s := by
 rw [IS.eq]
 have k2 : (zE 2).lookup ("select" : Str) = some .local := by decide
 have hcell : ∀ p ∈ scope.names, p.2 = .free → ∃ c, env.cells.lookup p.1 = some c := fun p hp hf => by
  have := List.all_eq_true.mp IS.free p hp
  rw [hf] at this
  have : (zE 2).lookup p.1 = some .cell := by simpa using this
  exact c.celX _ this
 refine x2 (zax env scope.names [] hcell) fun cl e h1 h2 => ?_
 have hclos : closureFor scope env = pure cl := by
  exact (congrArg (fun t => t >>= fun r => (pure r : Sem (List (Str × Addr)))) e).trans (pure_bind _ _)
 refine zk (c.cxt.env.k.code _ hK) fun hcode hqual => ?_
 have hkq : qualnameIn env "select" "select" = qual ++ ("select" : Str) := by
  unfold qualnameIn
  have : env.kindOf "select" = some .local := by unfold Env.kindOf; rw [c.cxt.env.k.names]; exact k2
  rw [this, if_neg (by decide), hqual]
 refine nestDef_K IS.d0 IS.k0 (IS.ann env) ?_
 rw [hkq]
 refine zoc TG c.cx hclos hcode c.cxt.env.k.glob fun f s₁ cv ctv doc g nf nT hf hcv => ?_
 have c₁ := c.gr g
 refine zcY c₁ k2 Rd.opq' fun s₂ t₂ sb c₂ => ?_
 have fl : f ≠ env.locals := fun q => by
  refine zU (c.xok.live _ (List.mem_append_left _ c.loc)) fun o ho => ?_
  rw [← q, nf] at ho; exact zA ho
 refine hQ s₂ f cl doc cv ctv ((Stp.gr g).trans c.cx.ti t₂) c₂ nT (SameBut.up sb fl hf) ?_ fun y hy => h1 y ⟨(y, .free), mem_of_lookup hy, rfl, rfl⟩
 refine zmv hcv fun a oc vs tq zz4 hoc hd hq => ?_; subst zz4
 refine ⟨a, oc, vs, tq, rfl, SameBut.up sb (fun q => ?_) hoc, hd, hq⟩
 subst q
 refine xl c₁.ex fun m W ea zz3 => ?_
 refine yI ea.ns fun o es ep e1 e2 zz5 => ?_
 rw [hoc] at e1; cases e1
 rw [hd] at e2; cases e2
end
end
section
noncomputable def zmF (C L : Addr) (h : Heap) (v : Value) (t : Option Str) : Prop := ∃ a dx es n vt, v = .ref a ∧ a ≠ L ∧ dx ≠ L ∧ h.get? a = some (instObj C dx) ∧ h.get? dx = some (dictOf es n) ∧ getL "tag" es = some (some vt) ∧ zew vt t
inductive y6 (G : Gd) (C : Addr) (h : Heap) (f : Addr) (keep : Option Str → Bool) : Prop
 | mk (qual : Str) (params : Arguments) (scope : Scope) (clos : List (Str × Addr)) (doc pm cv ctv : Value) (pre : List Stmt) (test : Expr) (px pr p1 p2 p3 p4 bpos pos : Pos) (d : Stmt) (T : (Nat → Option Str) → Nat → (Str → Option Value) → Prop) (h1 : f ∉ G.T) (h2 : h.get? f = some (zdy (fnX "select" qual params (za0 "elem" "result" px pr pre test p1 p2 p3 p4 bpos) scope clos .none .none doc pm none cv ctv))) (h3 : h.CodeRec cv qual) (h4 : (∀ a, cv = .ref a → a ∉ G.T)) (h5 : zfy d params scope pre test px pr p1 p2 p3 p4 bpos pos) (h6 : ∀ (s' : Shared) (env : Env) (vs : List Value) (tags : Nat → Option Str), env.scope = scope → env.cells = clos → h.get? env.locals = none → G.hb.get? env.locals = none → (∀ b o, b ∉ G.T → h.get? b = some o → s'.heap.get? b = some o) → Cx G s'.heap →
  (∀ i v, vs.toArray[i]? = some v → zmF C env.locals s'.heap v (tags i)) → (∀ i y, tags i = some y → 1 ≤ y.length ∧ y.length ≤ 1000) → zak G.prog G.w env s'.heap "elem" (fun i v => vs.toArray[i]? = some v) (fun i => keep (tags i)) pre test (T tags)) : y6 G C h f keep
theorem y6.gr {G : Gd} {C : Addr} {s s' : Shared} {f : Addr} {keep : Option Str → Bool} (x : y6 G C s.heap f keep) (ti : G.TI s.heap) (g : Gr G s s') : y6 G C s'.heap f keep := by
 obtain ⟨qual, params, scope, clos, doc, pm, cv, ctv, pre, test, px, pr, p1, p2, p3, p4, bpos, pos, d, T, h1, h2, h3, h4, h5, h6⟩ := x
 refine ⟨qual, params, scope, clos, doc, pm, cv, ctv, pre, test, px, pr, p1, p2, p3, p4, bpos, pos, d, T, h1, g.heap _ _ h1 h2, ?_, h4, h5, fun s₂ env vs tags e1 e2 e3 e4 e5 e6 e7 e8 => h6 s₂ env vs tags e1 e2 ?_ e4 (fun b o hb e => e5 b o hb (g.heap b o hb e)) e6 e7 e8⟩
 ·refine zbX h3 fun c oc vs tq zz4 hoc r => ?_; subst zz4
  exact ⟨c, oc, vs, tq, rfl, g.heap _ _ (h4 c rfl) hoc, r⟩
 ·cases q : s.heap.get? env.locals with
  | none => rfl
  | some o =>
   by_cases hT : env.locals ∈ G.T
   ·refine zU (G.tabs _ (g.ti ti) _ hT) fun us e => ?_
    rw [e] at e3; exact zA e3.symm
   ·rw [g.heap _ _ hT q] at e3; exact zA e3.symm
section
variable {G : Gd} {k n : Nat} {cf : Cf} {K : Kn} {ρ : Rho} {A : Around} {Xc Y : List Addr} {s : Shared} {env : Env} {Kf : Frag} {C fI : Addr}
theorem zah (c : StC G k A Xc Y s env K ρ) {y : Str} {d : D} (hk : K.lookup y = some .cell) (hl : ρ.lookup y = some d) (hp : d.pure = true) : ∃ cc v, env.cells.lookup y = some cc ∧ s.heap.IsCell cc (some v) ∧ cc ∉ G.T ∧ Rd G.C (Y ++ Xc) s.heap d v := by
 refine xl c.ex fun m W e zz3 => ?_
 rcases e.vars y d hl with q | ⟨v, q, b⟩
 ·subst q; cases hp
 ·rcases q with ⟨q, _⟩ | ⟨_, cc, q2, q3⟩
  ·unfold Env.kindOf at q
   rw [e.k.names, hk] at q; cases q
  ·refine ⟨cc, v, q2, q3, (NT.cell q3).notTab c.cx.ti, ?_⟩
   cases d <;> first | exact b | cases hp
theorem zav {h : Heap} {s' : Shared} {env' : Env} {scope : Scope} {y : Str} {cc : Addr} {v : Value} (e1 : env'.scope = scope) (hy : scope.names.lookup y = some .free) (hc : env'.cells.lookup y = some cc) (hcell : h.IsCell cc (some v)) (hT : cc ∉ G.T) (hL : h.get? env'.locals = none) (hk : ∀ b o, b ∉ G.T → h.get? b = some o → s'.heap.get? b = some o) : zbq env' s'.heap y v := by
 refine ⟨by unfold Env.kindOf; rw [e1]; exact hy, cc, hc, fun s₂ kp => ?_⟩
 have ne : cc ≠ env'.locals := fun q => by
  refine zQ hcell fun o ho zz2 => ?_
  rw [q, hL] at ho; exact zA ho
 exact IsCell.at' hcell fun o e => kp _ o ne (hk _ o hT e)
theorem zfE {h : Heap} {s' : Shared} {L a : Addr} {pl pu : Option (Int × Tok)} (ha : h.get? a = some { cls := .type "slice", data := .fields #[partValue pl, partValue pu, .none] }) (hT : a ∉ G.T) (hL : h.get? L = none) (hk : ∀ b o, b ∉ G.T → h.get? b = some o → s'.heap.get? b = some o) : zgb s'.heap L a (pl.map (·.1)) (pu.map (·.1)) := by
 refine ⟨pl, pu, rfl, rfl, fun s₂ kp => ⟨_, kp _ _ (fun q => ?_) (hk _ _ hT ha), rfl, rfl⟩⟩
 rw [q, hL] at ha; exact zA ha
theorem zbP (X₀ : Kf.In G.hb) {h : Heap} {s' : Shared} {env' : Env} {scope : Scope} {vs : List Value} {tags : Nat → Option Str} {c1 c2 : Addr} (e1 : env'.scope = scope) (hk : scope.kind = .function) (hel : scope.names.lookup ("elem" : Str) = some .local)
  (hi : scope.names.lookup ("_isinstance" : Str) = some .free) (hst : scope.names.lookup ("_str" : Str) = some .free) (hc1 : env'.cells.lookup ("_isinstance" : Str) = some c1) (hc2 : env'.cells.lookup ("_str" : Str) = some c2)
  (i1 : h.IsCell c1 (some (.builtin "isinstance"))) (i2 : h.IsCell c2 (some (.type "str"))) (n1 : c1 ∉ G.T) (n2 : c2 ∉ G.T) (hL : h.get? env'.locals = none) (hbL : G.hb.get? env'.locals = none) (hkk : ∀ b o, b ∉ G.T → h.get? b = some o → s'.heap.get? b = some o) (cx : Cx G s'.heap)
  (hn : ∀ i v, vs.toArray[i]? = some v → zmF C env'.locals s'.heap v (tags i)) : zc7 G.prog G.w env' s'.heap Kf C vs tags where
 kind := by rw [e1]; exact hk
 elem := by unfold Env.kindOf; rw [e1]; exact hel
 kf := fun s₂ kp a o e => by
  have h1 := X₀ a o e
  exact kp _ _ (fun q => by rw [q, hbL] at h1; exact zA h1) (cx.hb _ _ h1)
 isin := zav e1 hi hc1 i1 n1 hL hkk
 str := zav e1 hst hc2 i2 n2 hL hkk
 node := fun s₂ kp i v hv => by
  refine e5_7 (hn i v hv) fun a dx es n vt zz5 h1 h2 h3 h4 h5 h6 => ?_; subst zz5
  exact ⟨a, dx, es, n, vt, rfl, kp _ _ h1 h3, kp _ _ h2 h4, h5, h6⟩
end
end
section
noncomputable abbrev zbZ (t se i st nn ns no sf : D) : Rho := [(("tag" : Str), t), (("select" : Str), se), (("_isinstance" : Str), i), (("_str" : Str), st), (("no_ns" : Str), nn), (("ns" : Str), ns), (("ns_only" : Str), no), (("suffix" : Str), sf)]
structure yS (G : Gd) (k : Nat) (cf : Cf) (Kf : Frag) (C fI : Addr) (P : Addr) : Prop where
 ok : zZ G cf k
 X₀ : Kf.In G.hb
 NC : x0 Kf C fI
 TG : zeG G 37 P (("_prepare_tag.<locals>." : Str) ++ ("select" : Str))
 isin : cf.Γ "isinstance" = some (.blt "isinstance")
 str : cf.Γ "str" = some (.typ "str")
 slice : cf.Γ "slice" = some (.typ "slice")
 len : cf.Γ "len" = some (.blt "len")
section
variable {G : Gd} {k n : Nat} {cf : Cf} {A : Around} {Xc Y Y₀ : List Addr} {s s₀ : Shared} {env : Env} {Kf : Frag} {C fI P : Addr} {ρ : Rho} {keep : Option Str → Bool}
noncomputable def yH (G : Gd) (C : Addr) (Y₀ : List Addr) (s₀ : Shared) (keep : Option Str → Bool) (fl : Flow) (s' : Shared) : Prop := ∃ f Y', fl = .ret (.ref f) ∧ Stp G Y₀ s₀ Y' s' ∧ y6 G C s'.heap f keep
theorem zcE (ok : zZ G cf k) {f : Addr} (c : StC G k A Xc Y s env (zE 2) ρ) (hsel : ρ.lookup ("select" : Str) = some (.opq f)) (R : y6 G C s.heap f keep) (ti : G.TI s₀.heap) (t : Stp G Y₀ s₀ Y s) {r1 r2 : Pos} {E : Value → Shared → Prop} :
  wpAny (model G.prog G.w) A (execs [.Return (some (.Name "select" r1)) r2] env) (yH G C Y₀ s₀ keep) E s := by
 refine zde (zaO ok (n := 5) (zH (by decide) hsel rfl) c.cxt fun s₁ g => ?_)
 exact ⟨f, Y, rfl, t.trans ti (Stp.gr g), R.gr c.cx.ti g⟩
theorem zbd (PC : yS G k cf Kf C fI P) {p : Str} (c : StC G k A Xc Y s env (zE 2) (yF (zE 2) ["tag"] [.str p])) {a1 a2 a3 a4 a5 a6 a7 : Pos} {ss : List Stmt} {E : Value → Shared → Prop} {Q : Flow → Shared → Prop}
  (hq : ∀ Y₁ s₁, Stp G Y s Y₁ s₁ → StC G k A Xc Y₁ s₁ env (zE 2) (zbZ (.str p) .unb (.blt "isinstance") (.typ "str") .unb .unb .unb .unb) → wpAny (model G.prog G.w) A (execs ss env) Q E s₁) :
  wpAny (model G.prog G.w) A (execs (.Assign [.Tuple [.Name "_isinstance" a1, .Name "_str" a2] 0 a3] (.Tuple [.Name "isinstance" a4, .Name "str" a5] 0 a6) a7 :: ss) env) Q E s := by
 have e0 : (yF (zE 2) ["tag"] [.str p] : Rho) = zbZ (.str p) .unb .unb .unb .unb .unb .unb .unb := by rfl
 rw [e0] at c
 refine ExS.andThen (zmQ (n := 5) PC.ok (by decide) (by decide) (zV (by decide) rfl (by decide) PC.isin) (zV (by decide) rfl (by decide) PC.str) rfl (fun zz => rfl)) c fun Y₁ s₁ t c₁ => ?_
 exact hq Y₁ s₁ t c₁
theorem zbS {i : D} (c : StC G k A Xc Y s env (zE 2) ρ) (h1 : ρ.lookup ("_isinstance" : Str) = some (.blt "isinstance")) (h2 : ρ.lookup ("_str" : Str) = some (.typ "str")) :
  ∃ c1 c2, env.cells.lookup ("_isinstance" : Str) = some c1 ∧ env.cells.lookup ("_str" : Str) = some c2 ∧ s.heap.IsCell c1 (some (.builtin "isinstance")) ∧ s.heap.IsCell c2 (some (.type "str")) ∧ c1 ∉ G.T ∧ c2 ∉ G.T := by
 obtain ⟨c1, v1, a1, b1, d1, r1⟩ := zah c (by decide) h1 rfl
 obtain ⟨c2, v2, a2, b2, d2, r2⟩ := zah c (by decide) h2 rfl
 have e1 := (Rd.rv r1).blt
 have e2 := (Rd.rv r2).typ
 subst e1 e2
 exact ⟨c1, c2, a1, a2, b1, b2, d1, d2⟩
theorem zch (p : Str) {x : Str} {b : Bool} {a b' c' : Pos} (hl : ρ.lookup ("tag" : Str) = some (.str p)) (h : (p == x) = b) : tsD cf 8 (zE 2) ρ (zpC (.Name "tag" a) x b' c') = some b := by
 rw [← h]; exact yP (zH (by decide) hl rfl) yo rfl
theorem ifT {t : Expr} {b o : List Stmt} {p : Pos} {ss : List Stmt} {E : Value → Shared → Prop} {Q : Flow → Shared → Prop} (ok : zZ G cf k) (ht : tsD cf n (zE 2) ρ t = some true) (c : StC G k A Xc Y s env (zE 2) ρ) (ti : G.TI s₀.heap) (tk : Stp G Y₀ s₀ Y s)
  (h : ∀ s₁, Stp G Y₀ s₀ Y s₁ → StC G k A Xc Y s₁ env (zE 2) ρ → wpAny (model G.prog G.w) A (execs b env) (fun f s' => match f with | .next => wpAny (model G.prog G.w) A (execs ss env) Q E s' | f => Q f s') E s₁) :
  wpAny (model G.prog G.w) A (execs (.If t b o p :: ss) env) Q E s := by
 refine wpAny_execs_cons (wpAny_If (((zt ok n).ts _ _ _ _ ht).post c.cxt fun s₁ g => ?_))
 refine wpAny_mono (h s₁ (tk.trans ti (Stp.gr g)) (c.gr g)) (fun f s' hf => ?_) fun zz zz e => e
 cases f <;> exact hf
theorem ifF {t : Expr} {b o : List Stmt} {p : Pos} {ss : List Stmt} {E : Value → Shared → Prop} {Q : Flow → Shared → Prop} (ok : zZ G cf k) (ht : tsD cf n (zE 2) ρ t = some false) (c : StC G k A Xc Y s env (zE 2) ρ) (ti : G.TI s₀.heap) (tk : Stp G Y₀ s₀ Y s)
  (h : ∀ s₁, Stp G Y₀ s₀ Y s₁ → StC G k A Xc Y s₁ env (zE 2) ρ → wpAny (model G.prog G.w) A (execs o env) (fun f s' => match f with | .next => wpAny (model G.prog G.w) A (execs ss env) Q E s' | f => Q f s') E s₁) :
  wpAny (model G.prog G.w) A (execs (.If t b o p :: ss) env) Q E s := by
 refine wpAny_execs_cons (wpAny_If (((zt ok n).ts _ _ _ _ ht).post c.cxt fun s₁ g => ?_))
 refine wpAny_mono (h s₁ (tk.trans ti (Stp.gr g)) (c.gr g)) (fun f s' hf => ?_) fun zz zz e => e
 cases f <;> exact hf
theorem K37 : x5 (zE 2) = some ((Value.ref 37, ("_prepare_tag.<locals>." : Str)) : Value × Str) := by decide
theorem zpF (PC : yS G k cf Kf C fI P) {p : Str} (cc₂ : StC G k A Xc Y s env (zE 2) (zbZ (.str p) .unb (.blt "isinstance") (.typ "str") .unb .unb .unb .unb)) {d : Stmt} {params : Arguments} {scope : Scope} {px pr p1 p2 p3 p4 bpos pos q1 q2 q3 q4 q5 r1 r2 : Pos} (IS : zfy d params scope [] (.Call (.Name "_isinstance" q1) [.Attribute (.Name "elem" q2) "tag" q3, .Name "_str" q4] [] q5) px pr p1 p2 p3 p4 bpos pos) (ti : G.TI s₀.heap) (tk₂ : Stp G Y₀ s₀ Y s) {E : Value → Shared → Prop} {Q : Flow → Shared → Prop}
  (hq : ∀ s', wpAny (model G.prog G.w) A (execs [.Return (some (.Name "select" r1)) r2] env) (yH G C Y₀ s₀ (·.isSome)) E s' → Q .next s') :
  wpAny (model G.prog G.w) A (execs [d] env) Q E s := by
 refine wpAny_execs_cons (zdW cc₂ PC.TG K37 IS fun s₃ f clos doc cv ctv tk₃ cc₃ nT hf hcv hclos => wpAny_execs_nil (hq _ ?_))
 refine zhL (zbS (i := .none) cc₃ rfl rfl) fun k1 k2 l1 l2 i1 i2 n1 n2 => ?_
 refine zcE PC.ok cc₃ rfl ⟨_, params, scope, clos, doc, _, cv, ctv, _, _, px, pr, p1, p2, p3, p4, bpos, pos, d, (fun zz zz zz => True), nT, hf, hcv, fun a e => PC.TG.notT _ _ _ cc₃.cx.ti (e ▸ hcv), IS, fun s' env' vs tags e1 e2 hL hbL hkk cx hn hw => ?_⟩ ti (tk₂.trans ti tk₃)
 have lk : ∀ y, scope.names.lookup y = some .free → env'.cells.lookup y = env.cells.lookup y := fun y hy => by rw [e2]; exact hclos y hy
 have SC := zbP PC.X₀ e1 IS.kind IS.elem IS.isin IS.str ((lk _ IS.isin).trans l1) ((lk _ IS.str).trans l2) i1 i2 n1 n2 hL hbL hkk cx hn
 exact selA SC PC.NC
theorem zoS (PC : yS G k cf Kf C fI P) (c : StC G k A Xc Y s env (zE 2) (yF (zE 2) ["tag"] [.str "{*}*"])) {E : Value → Shared → Prop} :
  wpAny (model G.prog G.w) A (execs (zM 2) env) (yH G C Y s (·.isSome)) E s := by
 refine zbd PC c fun Y₁ s₁ tk₁ cc₁ => ?_
 refine ifT PC.ok (zch "{*}*" rfl (by decide)) cc₁ c.cx.ti tk₁ fun s₂ tk₂ cc₂ => ?_
 exact zpF PC cc₂ ⟨rfl, rfl, rfl, fun zz => rfl, rfl, rfl, rfl, by decide, by decide, by decide, by decide, by decide, by decide, by decide, fun zz zz zz zz zz zz zz zz => rfl⟩ c.cx.ti tk₂ fun zz h => h
end
end
section
noncomputable def zdw (cf : Cf) (n : Nat) (K : Kn) (ρ : Rho) (o : Option Expr) (l : Option Int) : Prop := (o = none ∧ l = none) ∨ ∃ e i, o = some e ∧ l = some i ∧ evD cf n K ρ e = some (.int i)
theorem zdw.no {cf : Cf} {n : Nat} {K : Kn} {ρ : Rho} : zdw cf n K ρ none none := .inl ⟨rfl, rfl⟩
theorem zdw.yes {cf : Cf} {n : Nat} {K : Kn} {ρ : Rho} {e : Expr} {i : Int} (h : evD cf n K ρ e = some (.int i)) : zdw cf n K ρ (some e) (some i) := .inr ⟨e, i, rfl, rfl, h⟩
theorem zdw.part {cf : Cf} {n : Nat} {K : Kn} {ρ : Rho} {o : Option Expr} {l : Option Int} (h : zdw cf n K ρ o l) : zaQ (evD cf n K ρ) o = some l := by
 rcases h with ⟨rfl, rfl⟩ | ⟨e, i, rfl, rfl, h⟩
 ·rfl
 ·show (match evD cf n K ρ e with | some (.int i) => some (some i) | _ => none) = _
  rw [h]
theorem zap {cf : Cf} {n : Nat} {K : Kn} {ρ : Rho} {v : Expr} {lo hi : Option Expr} {p q : Pos} {x : Str} {l h : Option Int} (hv : evD cf n K ρ v = some (.str x)) (hl : zdw cf n K ρ lo l) (hh : zdw cf n K ρ hi h) (hb : x.length ≤ zK) :
  evD cf (n + 1) K ρ (.Subscript v (.Slice lo hi none p) q) = some (.str (Txt.slice x l h)) := by
 have e : xS (.str x) l h = some (.str (Txt.slice x l h)) := by unfold xS; dsimp only; rw [Nat.ble_eq_true_of_le hb]
 show zei _ v lo hi = _
 unfold zei
 rw [hv, hl.part, hh.part]
 exact e
theorem zaG {cf : Cf} {n : Nat} {K : Kn} {ρ : Rho} {i : Int} {k : Nat} {p : Pos} : evD cf (n + 1) K ρ (.Constant (.int i) k p) = some (.int i) := rfl
theorem zgq {cf : Cf} {n : Nat} {K : Kn} {ρ : Rho} {e : Expr} {p : Pos} {i : Int} (h : evD cf n K ρ e = some (.int i)) : evD cf (n + 1) K ρ (.UnaryOp .USub e p) = some (.int (-i)) := by
 show (match evD cf n K ρ e with | some a => unD .USub a | none => none) = _
 rw [h]; rfl
theorem zel {cf : Cf} {x : Str} (h : x.length ≤ zK) : yd cf (.blt "len") [.str x] = some (.int x.length) := by
 show zbY (.str x) = _
 unfold zbY; dsimp only
 rw [Nat.ble_eq_true_of_le h]
section
variable {G : Gd} {k n : Nat} {cf : Cf} {A : Around} {Xc Y Y₀ : List Addr} {s s₀ : Shared} {env : Env} {Kf : Frag} {C fI P : Addr} {ρ : Rho} {keep : Option Str → Bool}
theorem zpE (PC : yS G k cf Kf C fI P) {p : Str} (cc₂ : StC G k A Xc Y s env (zE 2) (zbZ (.str p) .unb (.blt "isinstance") (.typ "str") .unb .unb .unb .unb)) {d : Stmt} {params : Arguments} {scope : Scope} {px pr p1 p2 p3 p4 bpos pos e1 e2 e3 e4 q1 q2 q3 q4 q5 q6 q7 q8 q9 q10 r1 r2 : Pos} (IS : zfy d params scope (zkp e1 e2 e3 e4) (.BoolOp .And [zkR q1 q2 q3 q4, .Compare (.Subscript (.Name "el_tag" q5) (.Constant (.int 0) 0 q6) q7) [.NotEq] [.Constant (.str "{") 0 q8] q9] q10) px pr p1 p2 p3 p4 bpos pos) (hel : scope.names.lookup ("el_tag" : Str) = some .local) (ti : G.TI s₀.heap) (tk₂ : Stp G Y₀ s₀ Y s) {E : Value → Shared → Prop} {Q : Flow → Shared → Prop}
  (hq : ∀ s', wpAny (model G.prog G.w) A (execs [.Return (some (.Name "select" r1)) r2] env) (yH G C Y₀ s₀ zg9) E s' → Q .next s') :
  wpAny (model G.prog G.w) A (execs [d] env) Q E s := by
 refine wpAny_execs_cons (zdW cc₂ PC.TG K37 IS fun s₃ f clos doc cv ctv tk₃ cc₃ nT hf hcv hclos => wpAny_execs_nil (hq _ ?_))
 refine zhL (zbS (i := .none) cc₃ rfl rfl) fun k1 k2 l1 l2 i1 i2 n1 n2 => ?_
 refine zcE PC.ok cc₃ rfl ⟨_, params, scope, clos, doc, _, cv, ctv, _, _, px, pr, p1, p2, p3, p4, bpos, pos, d, elT, nT, hf, hcv, fun a e => PC.TG.notT _ _ _ cc₃.cx.ti (e ▸ hcv), IS, fun s' env' vs tags e1 e2 hL hbL hkk cx hn hw => ?_⟩ ti (tk₂.trans ti tk₃)
 have lk : ∀ y, scope.names.lookup y = some .free → env'.cells.lookup y = env.cells.lookup y := fun y hy => by rw [e2]; exact hclos y hy
 have SC := zbP PC.X₀ e1 IS.kind IS.elem IS.isin IS.str ((lk _ IS.isin).trans l1) ((lk _ IS.str).trans l2) i1 i2 n1 n2 hL hbL hkk cx hn
 exact selB SC PC.NC (by unfold Env.kindOf; rw [e1]; exact hel) hw
theorem zn9 (PC : yS G k cf Kf C fI P) (c : StC G k A Xc Y s env (zE 2) (yF (zE 2) ["tag"] [.str "{}*"])) {E : Value → Shared → Prop} :
  wpAny (model G.prog G.w) A (execs (zM 2) env) (yH G C Y s zg9) E s := by
 refine zbd PC c fun Y₁ s₁ tk₁ cc₁ => ?_
 refine ifF PC.ok (zch "{}*" rfl (by decide)) cc₁ c.cx.ti tk₁ fun s₂ tk₂ cc₂ => ?_
 refine ifT PC.ok (zch "{}*" rfl (by decide)) cc₂ c.cx.ti tk₂ fun s₂ tk₂ cc₂ => ?_
 exact zpE PC cc₂ ⟨rfl, rfl, rfl, fun zz => rfl, rfl, rfl, rfl, by decide, by decide, by decide, by decide, by decide, by decide, by decide, fun zz zz zz zz zz zz zz zz => rfl⟩ (by decide) c.cx.ti tk₂ fun zz h => wpAny_execs_nil h
theorem zjb {S : Addr} {o : Obj} {Y' : List Addr} {s' : Shared} (t : Stp G Y s Y' s') (hS : s.heap.get? S = some o) (hT : S ∉ G.T) (hY : S ∉ Y) : s'.heap.get? S = some o ∧ S ∉ Y' :=
 ⟨t.grb.heap S o hT hY hS, fun q => (t.new S q).elim hY fun z => by rw [hS] at z; exact zA z.symm⟩
theorem zfC (PC : yS G k cf Kf C fI P) (c : StC G k A Xc Y s env (zE 2) ρ) {y : Str} (hk : (zE 2).lookup y = some .cell) (hl : ρ.lookup ("slice" : Str) = none) {e1 e2 : Expr} {d1 d2 : D} {lo hi : Option Int} (ha : evL cf 8 (zE 2) ρ [e1, e2] = some [d1, d2])
  (h1 : (d1 = .none ∧ lo = none) ∨ ∃ i, d1 = .int i ∧ lo = some i) (h2 : (d2 = .none ∧ hi = none) ∨ ∃ i, d2 = .int i ∧ hi = some i) {a b h i : Pos} {ss : List Stmt} {E : Value → Shared → Prop} {Q : Flow → Shared → Prop}
  (hq : ∀ S s₁ pl pu, pl.map (·.1) = lo → pu.map (·.1) = hi → Stp G Y s Y s₁ → StC G k A Xc Y s₁ env (zE 2) (stD ρ y (.opq S)) → s₁.heap.get? S = some { cls := .type "slice", data := .fields #[partValue pl, partValue pu, .none] } → S ∉ G.T → S ∉ Y → wpAny (model G.prog G.w) A (execs ss env) Q E s₁) :
  wpAny (model G.prog G.w) A (execs (.Assign [.Name y a] (.Call (.Name "slice" b) [e1, e2] [] h) i :: ss) env) Q E s := by
 refine wpAny_execs_cons (wpAny_Assign_Name (zfF PC.ok c.cxt (zV (by decide) hl (by decide) PC.slice) ha fun s₁ vs g₁ r => ?_) rfl)
 refine w2 r fun zz zz r1 r2 => ?_
 have p1 : ∀ {d : D} {v : Value} {o : Option Int}, Rv G.C (Y ++ Xc) s₁.heap d v → ((d = .none ∧ o = none) ∨ ∃ i, d = .int i ∧ o = some i) → ∃ pl : Option (Int × Tok), pl.map (·.1) = o ∧ v = partValue pl := by
  rintro d v o r (⟨rfl, rfl⟩ | ⟨i, rfl, rfl⟩)
  ·exact ⟨none, rfl, r.none⟩
  ·refine zU r.int fun t zz1 => ?_; subst zz1; exact ⟨some (i, t), rfl, rfl⟩
 refine zQ (p1 r1 h1) fun pl f1 zz2 => ?_; subst zz2
 refine zQ (p1 r2 h2) fun pu f2 zz2 => ?_; subst zz2
 have c₁ := c.gr g₁
 refine zgw ?_
 have g₂ : Gr G s₁ { s₁ with heap := s₁.heap.push { cls := .type "slice", data := .fields #[partValue pl, partValue pu, .none] } } := Gr.push'
 have c₂ := c₁.gr g₂
 have nf : s₁.heap.get? s₁.heap.objs.size = none := zT (Nat.le_refl _)
 have hT : s₁.heap.objs.size ∉ G.T := fun hT => by
  refine zU (G.tabs _ c₁.cx.ti _ hT) fun vs e => ?_
  rw [nf] at e; exact zA e
 have hY : s₁.heap.objs.size ∉ Y := fun hY => by
  refine zU (c₁.xok.live _ (List.mem_append_left _ hY)) fun o e => ?_
  rw [nf] at e; exact zA e
 refine xa c₂ (.inr hk) Rd.opq' fun s₃ t₃ c₃ => ?_
 refine zk (zjb t₃ (Heap.get?_push_size _ rfl) hT hY) fun w1 w2 => ?_
 exact hq _ s₃ pl pu f1 f2 ((Stp.gr (g₁.trans g₂)).trans c.cx.ti t₃) c₃ w1 hT hY
theorem zps (PC : yS G k cf Kf C fI P) {p : Str} (hlen : p.length ≤ 1000) (cc₂ : StC G k A Xc Y s env (zE 2) (zbZ (.str p) .unb (.blt "isinstance") (.typ "str") .unb .unb .unb .unb)) {d : Stmt} {params : Arguments} {scope : Scope} {px pr p1 p2 p3 p4 bpos pos e1 e2 e3 e4 q0 q00 q000 q1 q2 q3 q4 q5 q6 q7 q8 q9 q10 q11 a1 a2 a3 a4 a5 a6 b1 b2 b3 b4 b5 b6 b7 b8 b9 c1 c2 c3 c4 c5 c6 r1 r2 : Pos} (IS : zfy d params scope (zkp e1 e2 e3 e4) (.BoolOp .Or [.Compare (.Name "el_tag" q0) [.Eq] [.Name "tag" q00] q000, .BoolOp .And [zkR q1 q2 q3 q4, .Compare (.Subscript (.Name "el_tag" q5) (.Name "no_ns" q6) q7) [.Eq] [.Name "suffix" q8] q9] q10] q11) px pr p1 p2 p3 p4 bpos pos) (hel : scope.names.lookup ("el_tag" : Str) = some .local) (htg : scope.names.lookup ("tag" : Str) = some .free) (hnn : scope.names.lookup ("no_ns" : Str) = some .free) (hsf : scope.names.lookup ("suffix" : Str) = some .free) (ti : G.TI s₀.heap) (tk₂ : Stp G Y₀ s₀ Y s) {E : Value → Shared → Prop} {Q : Flow → Shared → Prop}
  (hq : ∀ s', wpAny (model G.prog G.w) A (execs [.Return (some (.Name "select" r1)) r2] env) (yH G C Y₀ s₀ (zcS (Txt.slice p (some 3) none) (Txt.slice p (some 2) none))) E s' → Q .next s') :
  wpAny (model G.prog G.w) A (execs [.Assign [.Name "suffix" a1] (slLo 2 "tag" a2 a3 a4 a5) a6, .Assign [.Name "no_ns" b1] (.Call (.Name "slice" b2) [.UnaryOp .USub (.Call (.Name "len" b3) [.Name "suffix" b4] [] b5) b6, .Constant .none 0 b7] [] b8) b9, .Assign [.Name "tag" c1] (slLo 3 "tag" c2 c3 c4 c5) c6, d] env) Q E s := by
 have hb : p.length ≤ zK := Nat.le_trans hlen (by decide)
 have hb2 : (Txt.slice p (some 2) none).length ≤ zK := Nat.le_trans (Txt.slice_le p _ _) hb
 refine ExS.andThen (xq (n := 8) PC.ok (by decide) (zap (zH (by decide) rfl rfl) (.yes zaG) .no hb) rfl (fun zz zz => rfl)) cc₂ fun Y₃ s₃ tk₃ cc₃ => ?_
 have es1 : stD (zbZ (.str p) .unb (.blt "isinstance") (.typ "str") .unb .unb .unb .unb) "suffix" (.str (Txt.slice p (some 2) none)) = zbZ (.str p) .unb (.blt "isinstance") (.typ "str") .unb .unb .unb (.str (Txt.slice p (some 2) none)) := rfl
 rw [es1] at cc₃
 refine zfC PC cc₃ (by decide) rfl (d1 := .int (-((Txt.slice p (some 2) none).length : Int))) (d2 := .none) (lo := some (-((Txt.slice p (some 2) none).length : Int))) (hi := none)
  (zL (zgq (zq rfl (zV (by decide) rfl (by decide) PC.len) (zL (zH (by decide) rfl rfl) za) rfl (zel hb2))) (zL yN za)) (.inr ⟨_, rfl, rfl⟩) (.inl ⟨rfl, rfl⟩) fun S s₄ pl pu f1 f2 tk₄ cc₄ hS hST hSY => ?_
 have es2 : stD (zbZ (.str p) .unb (.blt "isinstance") (.typ "str") .unb .unb .unb (.str (Txt.slice p (some 2) none))) "no_ns" (.opq S) = zbZ (.str p) .unb (.blt "isinstance") (.typ "str") (.opq S) .unb .unb (.str (Txt.slice p (some 2) none)) := rfl
 rw [es2] at cc₄
 refine ExS.andThen (xq (n := 8) PC.ok (by decide) (zap (zH (by decide) rfl rfl) (.yes zaG) .no hb) rfl (fun zz zz => rfl)) cc₄ fun Y₅ s₅ tk₅ cc₅ => ?_
 have es3 : stD (zbZ (.str p) .unb (.blt "isinstance") (.typ "str") (.opq S) .unb .unb (.str (Txt.slice p (some 2) none))) "tag" (.str (Txt.slice p (some 3) none)) = zbZ (.str (Txt.slice p (some 3) none)) .unb (.blt "isinstance") (.typ "str") (.opq S) .unb .unb (.str (Txt.slice p (some 2) none)) := rfl
 rw [es3] at cc₅
 refine zk (zjb tk₅ hS hST hSY) fun hS5 hY5 => ?_
 have tkA := ((tk₂.trans ti tk₃).trans ti tk₄).trans ti tk₅
 refine wpAny_execs_cons (zdW cc₅ PC.TG K37 IS fun s₆ f clos doc cv ctv tk₆ cc₆ nT hf hcv hclos => wpAny_execs_nil (hq _ ?_))
 refine zk (zjb tk₆ hS5 hST hY5) fun hS6 hY6 => ?_
 refine zhL (zbS (i := .none) cc₆ rfl rfl) fun k1 k2 l1 l2 i1 i2 n1 n2 => ?_
 obtain ⟨g1, v1, b1, m1, o1, w1⟩ := zah (y := "tag") cc₆ (by decide) rfl rfl
 obtain ⟨g2, v2, b2, m2, o2, w2⟩ := zah (y := "suffix") cc₆ (by decide) rfl rfl
 obtain ⟨g3, v3, b3, m3, o3, w3⟩ := zah (y := "no_ns") cc₆ (by decide) rfl rfl
 refine zU ((Rd.rv w1).str) fun y1 zz1 => ?_; subst zz1
 refine zU ((Rd.rv w2).str) fun y2 zz1 => ?_; subst zz1
 have y3 := (Rd.rv w3).opq
 subst y3
 refine zcE PC.ok cc₆ rfl ⟨_, params, scope, clos, doc, _, cv, ctv, _, _, px, pr, p1, p2, p3, p4, bpos, pos, d, elT, nT, hf, hcv, fun a e => PC.TG.notT _ _ _ cc₆.cx.ti (e ▸ hcv), IS, fun s' env' vs tags e1 e2 hL hbL hkk cx hn hw => ?_⟩ ti (tkA.trans ti tk₆)
 have lk : ∀ y, scope.names.lookup y = some .free → env'.cells.lookup y = env.cells.lookup y := fun y hy => by rw [e2]; exact hclos y hy
 have SC := zbP PC.X₀ e1 IS.kind IS.elem IS.isin IS.str ((lk _ IS.isin).trans l1) ((lk _ IS.str).trans l2) i1 i2 n1 n2 hL hbL hkk cx hn
 have SV := zfE (G := G) (s' := s') (L := env'.locals) hS6 hST hL hkk
 rw [f1, f2] at SV
 exact selC SC PC.NC (by unfold Env.kindOf; rw [e1]; exact hel) hw (zav e1 htg ((lk _ htg).trans b1) m1 o1 hL hkk) (zav e1 hsf ((lk _ hsf).trans b2) m2 o2 hL hkk) (zav e1 hnn ((lk _ hnn).trans b3) m3 o3 hL hkk) SV
theorem zoR (PC : yS G k cf Kf C fI P) {p : Str} (hp1 : (p == ("{*}*" : Str)) = false) (hp2 : (p == ("{}*" : Str)) = false) (hp3 : (Txt.slice p none (some 3) == ("{*}" : Str)) = true) (hlen : p.length ≤ 1000)
  (c : StC G k A Xc Y s env (zE 2) (yF (zE 2) ["tag"] [.str p])) {E : Value → Shared → Prop} :
  wpAny (model G.prog G.w) A (execs (zM 2) env) (yH G C Y s (zcS (Txt.slice p (some 3) none) (Txt.slice p (some 2) none))) E s := by
 have hb : p.length ≤ zK := Nat.le_trans hlen (by decide)
 refine zbd PC c fun Y₁ s₁ tk₁ cc₁ => ?_
 refine ifF PC.ok (zch p rfl hp1) cc₁ c.cx.ti tk₁ fun s₂ tk₂ cc₂ => ?_
 refine ifF PC.ok (zch p rfl hp2) cc₂ c.cx.ti tk₂ fun s₂ tk₂ cc₂ => ?_
 refine ifT PC.ok (n := 8) (by rw [← hp3]; exact yP (zap (zH (by decide) rfl rfl) .no (.yes zaG) hb) yo rfl) cc₂ c.cx.ti tk₂ fun s₂ tk₂ cc₂ => ?_
 exact zps PC hlen cc₂ ⟨rfl, rfl, rfl, fun zz => rfl, rfl, rfl, rfl, by decide, by decide, by decide, by decide, by decide, by decide, by decide, fun zz zz zz zz zz zz zz zz => rfl⟩ (by decide) (by decide) (by decide) (by decide) c.cx.ti tk₂ fun zz h => wpAny_execs_nil (wpAny_execs_nil h)
end
end
section
section
variable {G : Gd} {k n : Nat} {cf : Cf} {A : Around} {Xc Y Y₀ : List Addr} {s s₀ : Shared} {env : Env} {Kf : Frag} {C fI P : Addr} {ρ : Rho} {keep : Option Str → Bool}
theorem zpi (PC : yS G k cf Kf C fI P) {p : Str} (hlen : p.length ≤ 1000) (cc₂ : StC G k A Xc Y s env (zE 2) (zbZ (.str p) .unb (.blt "isinstance") (.typ "str") .unb .unb .unb .unb)) {d : Stmt} {params : Arguments} {scope : Scope} {px pr p1 p2 p3 p4 bpos pos e1 e2 e3 e4 q1 q2 q3 q4 q5 q6 q7 q8 q9 q10 a1 a2 a3 a4 a5 a6 a7 b1 b2 b3 b4 b5 b6 b7 b8 r1 r2 : Pos} (IS : zfy d params scope (zkp e1 e2 e3 e4) (.BoolOp .And [zkR q1 q2 q3 q4, .Compare (.Subscript (.Name "el_tag" q5) (.Name "ns_only" q6) q7) [.Eq] [.Name "ns" q8] q9] q10) px pr p1 p2 p3 p4 bpos pos) (hel : scope.names.lookup ("el_tag" : Str) = some .local) (hns : scope.names.lookup ("ns" : Str) = some .free) (hno : scope.names.lookup ("ns_only" : Str) = some .free) (ti : G.TI s₀.heap) (tk₂ : Stp G Y₀ s₀ Y s) {E : Value → Shared → Prop} {Q : Flow → Shared → Prop}
  (hq : ∀ s', wpAny (model G.prog G.w) A (execs [.Return (some (.Name "select" r1)) r2] env) (yH G C Y₀ s₀ (zhp (Txt.slice p none (some (-1))))) E s' → Q .next s') :
  wpAny (model G.prog G.w) A (execs [.Assign [.Name "ns" a1] (zpw 1 "tag" a2 a3 a4 a5 a6) a7, .Assign [.Name "ns_only" b1] (.Call (.Name "slice" b2) [.Constant .none 0 b3, .Call (.Name "len" b4) [.Name "ns" b5] [] b6] [] b7) b8, d] env) Q E s := by
 have hb : p.length ≤ zK := Nat.le_trans hlen (by decide)
 have hb2 : (Txt.slice p none (some (-1))).length ≤ zK := Nat.le_trans (Txt.slice_le p _ _) hb
 refine ExS.andThen (xq (n := 8) PC.ok (by decide) (zap (zH (by decide) rfl rfl) .no (.yes (zgq zaG)) hb) rfl (fun zz zz => rfl)) cc₂ fun Y₃ s₃ tk₃ cc₃ => ?_
 have es1 : stD (zbZ (.str p) .unb (.blt "isinstance") (.typ "str") .unb .unb .unb .unb) "ns" (.str (Txt.slice p none (some (-1)))) = zbZ (.str p) .unb (.blt "isinstance") (.typ "str") .unb (.str (Txt.slice p none (some (-1)))) .unb .unb := rfl
 rw [es1] at cc₃
 refine zfC PC cc₃ (by decide) rfl (d1 := .none) (d2 := .int ((Txt.slice p none (some (-1))).length : Int)) (lo := none) (hi := some ((Txt.slice p none (some (-1))).length : Int))
  (zL yN (zL (zq rfl (zV (by decide) rfl (by decide) PC.len) (zL (zH (by decide) rfl rfl) za) rfl (zel hb2)) za)) (.inl ⟨rfl, rfl⟩) (.inr ⟨_, rfl, rfl⟩) fun S s₄ pl pu f1 f2 tk₄ cc₄ hS hST hSY => ?_
 have es2 : stD (zbZ (.str p) .unb (.blt "isinstance") (.typ "str") .unb (.str (Txt.slice p none (some (-1)))) .unb .unb) "ns_only" (.opq S) = zbZ (.str p) .unb (.blt "isinstance") (.typ "str") .unb (.str (Txt.slice p none (some (-1)))) (.opq S) .unb := rfl
 rw [es2] at cc₄
 have tkA := (tk₂.trans ti tk₃).trans ti tk₄
 refine wpAny_execs_cons (zdW cc₄ PC.TG K37 IS fun s₆ f clos doc cv ctv tk₆ cc₆ nT hf hcv hclos => wpAny_execs_nil (hq _ ?_))
 refine zk (zjb tk₆ hS hST hSY) fun hS6 hY6 => ?_
 refine zhL (zbS (i := .none) cc₆ rfl rfl) fun k1 k2 l1 l2 i1 i2 n1 n2 => ?_
 obtain ⟨g1, v1, b1, m1, o1, w1⟩ := zah (y := "ns") cc₆ (by decide) rfl rfl
 obtain ⟨g3, v3, b3, m3, o3, w3⟩ := zah (y := "ns_only") cc₆ (by decide) rfl rfl
 refine zU ((Rd.rv w1).str) fun y1 zz1 => ?_; subst zz1
 have y3 := (Rd.rv w3).opq
 subst y3
 refine zcE PC.ok cc₆ rfl ⟨_, params, scope, clos, doc, _, cv, ctv, _, _, px, pr, p1, p2, p3, p4, bpos, pos, d, elT, nT, hf, hcv, fun a e => PC.TG.notT _ _ _ cc₆.cx.ti (e ▸ hcv), IS, fun s' env' vs tags e1 e2 hL hbL hkk cx hn hw => ?_⟩ ti (tkA.trans ti tk₆)
 have lk : ∀ y, scope.names.lookup y = some .free → env'.cells.lookup y = env.cells.lookup y := fun y hy => by rw [e2]; exact hclos y hy
 have SC := zbP PC.X₀ e1 IS.kind IS.elem IS.isin IS.str ((lk _ IS.isin).trans l1) ((lk _ IS.str).trans l2) i1 i2 n1 n2 hL hbL hkk cx hn
 have SV := zfE (G := G) (s' := s') (L := env'.locals) hS6 hST hL hkk
 rw [f1, f2] at SV
 exact selD SC PC.NC (by unfold Env.kindOf; rw [e1]; exact hel) hw (zav e1 hns ((lk _ hns).trans b1) m1 o1 hL hkk) (zav e1 hno ((lk _ hno).trans b3) m3 o3 hL hkk) SV
theorem zoT (PC : yS G k cf Kf C fI P) {p : Str} (hp1 : (p == ("{*}*" : Str)) = false) (hp2 : (p == ("{}*" : Str)) = false) (hp3 : (Txt.slice p none (some 3) == ("{*}" : Str)) = false) (hp4 : (Txt.slice p (some (-2)) none == ("}*" : Str)) = true) (hlen : p.length ≤ 1000)
  (c : StC G k A Xc Y s env (zE 2) (yF (zE 2) ["tag"] [.str p])) {E : Value → Shared → Prop} :
  wpAny (model G.prog G.w) A (execs (zM 2) env) (yH G C Y s (zhp (Txt.slice p none (some (-1))))) E s := by
 have hb : p.length ≤ zK := Nat.le_trans hlen (by decide)
 refine zbd PC c fun Y₁ s₁ tk₁ cc₁ => ?_
 refine ifF PC.ok (zch p rfl hp1) cc₁ c.cx.ti tk₁ fun s₂ tk₂ cc₂ => ?_
 refine ifF PC.ok (zch p rfl hp2) cc₂ c.cx.ti tk₂ fun s₂ tk₂ cc₂ => ?_
 refine ifF PC.ok (n := 8) (by rw [← hp3]; exact yP (zap (zH (by decide) rfl rfl) .no (.yes zaG) hb) yo rfl) cc₂ c.cx.ti tk₂ fun s₂ tk₂ cc₂ => ?_
 refine ifT PC.ok (n := 8) (by rw [← hp4]; exact yP (zap (zH (by decide) rfl rfl) (.yes (zgq zaG)) .no hb) yo rfl) cc₂ c.cx.ti tk₂ fun s₂ tk₂ cc₂ => ?_
 exact zpi PC hlen cc₂ ⟨rfl, rfl, rfl, fun zz => rfl, rfl, rfl, rfl, by decide, by decide, by decide, by decide, by decide, by decide, by decide, fun zz zz zz zz zz zz zz zz => rfl⟩ (by decide) (by decide) (by decide) c.cx.ti tk₂ fun zz h => wpAny_execs_nil (wpAny_execs_nil (wpAny_execs_nil h))
noncomputable def zac (p : Str) : Option (Option Str → Bool) :=
 if p = ("{*}*" : Str) then some (·.isSome)
 else if p = ("{}*" : Str) then some zg9
 else if Txt.slice p none (some 3) = ("{*}" : Str) then some (zcS (Txt.slice p (some 3) none) (Txt.slice p (some 2) none))
 else if Txt.slice p (some (-2)) none = ("}*" : Str) then some (zhp (Txt.slice p none (some (-1))))
 else none
theorem zkT (PC : yS G k cf Kf C fI P) {p : Str} (hk : zac p = some keep) (hlen : p.length ≤ 1000) (c : StC G k A Xc Y s env (zE 2) (yF (zE 2) ["tag"] [.str p])) {E : Value → Shared → Prop} :
  wpAny (model G.prog G.w) A (execs (zM 2) env) (yH G C Y s keep) E s := by
 unfold zac at hk
 split at hk
 ·rename_i h; subst h; cases hk; exact zoS PC c
 ·rename_i h1
  split at hk
  ·rename_i h; subst h; cases hk; exact zn9 PC c
  ·rename_i h2
   split at hk
   ·rename_i h3; cases hk; exact zoR PC (by simpa using h1) (by simpa using h2) (by simpa using h3) hlen c
   ·rename_i h3
    split at hk
    ·rename_i h4; cases hk; exact zoT PC (by simpa using h1) (by simpa using h2) (by simpa using h3) (by simpa using h4) hlen c
    ·exact zA hk
theorem zjZ (PC : yS G k cf Kf C fI P) {o : Obj} {fd : FuncData} (fr : zn G 38 o fd (zM 2) (zE 2) ["tag"]) {p : Str} (hk : zac p = some keep) (hlen : p.length ≤ 1000) {X : List Addr} {v : Value} (room : zby (k + 1) A) (cx : Cx G s.heap) (xok : XOk G X s.heap) (r : Rd G.C X s.heap (.str p) v) {E : Value → Shared → Prop} :
  wpAny (model G.prog G.w) A (call (.ref 38) [v]) (fun u s' => ∃ f, u = .ref f ∧ Gr G s s' ∧ y6 G C s'.heap f keep) E s := by
 refine wpAny_call (zg4 fr room cx xok (.cons r .nil) rfl fun env Y s₁ g fresh c => ?_)
 refine wpAny_mono (zkT PC hk hlen c) (fun fl s' p => ?_) fun zz zz e => e
 refine xf p fun f Y' zz2 t R => ?_; subst zz2
 exact ⟨f, rfl, ⟨fun b o hT e => t.grb.heap b o hT (fun q => by rw [fresh b q] at e; exact zA e) (g.heap b o hT e), fun z => t.grb.ti (g.ti z), t.grb.os.trans g.os, fun z => t.grb.bare (g.bare z)⟩, R⟩
end
end
section
noncomputable abbrev Nd := Int × Option Str
noncomputable def ndD (p : Nd) : D := .node p.1 p.2
noncomputable def zkN : D → Option Str
 | .node _ t => t
 | _ => none
theorem zjx (keep : Option Str → Bool) (ns : List Nd) : (ns.map ndD).filter (fun d => keep (zkN d)) = (ns.filter fun p => keep p.2).map ndD := by
 rw [List.filter_map]; rfl
section
variable {G : Gd} {A : Around} {X : List Addr} {E : Value → Shared → Prop} {s : Shared} {C f : Addr} {keep : Option Str → Bool}
theorem zmZ (hC : G.C = C) (R : y6 G C s.heap f keep) (hh : A.handled = none) (hroom : A.depth + 1 < recursionLimit) (cx : Cx G s.heap) (xok : XOk G X s.heap) {ns : List Nd} {v : Value} (rl : Rd G.C X s.heap (.lst (ns.map ndD)) v) (hsz : ns.length ≤ 1000)
  (hw : ∀ p ∈ ns, ∀ y, p.2 = some y → 1 ≤ y.length ∧ y.length ≤ 1000)
  {Q : Value → Shared → Prop} (hQ : ∀ gv s₁, Gr G s s₁ → (∀ {A' : Around} {E' : Value → Shared → Prop} {Q' : Value → Shared → Prop}, A'.handled = none → A'.depth + 1 < recursionLimit → (∀ u s₂, Gr G s s₂ → Rd G.C X s₂.heap (.lst ((ns.filter fun p => keep p.2).map ndD)) u → Q' u s₂) → wpAny (model G.prog G.w) A' (call (.type "list") [gv]) Q' E' s₁) → Q gv s₁) :
  wpAny (model G.prog G.w) A (call (.ref f) [.none, v]) Q E s := by
 obtain ⟨qual, params, scope, clos, doc, pm, cv, ctv, pre, test, px, pr, p1, p2, p3, p4, bpos, pos, d, T, h1, h2, h3, h4, IS, h6⟩ := R
 refine za4 rl fun l vs j zz3 hlX hl rl9 => ?_; subst zz3
 have nfL : s.heap.get? s.heap.objs.size = none := zT (Nat.le_refl _)
 refine zk8 (keep := fun d => keep (zkN d)) (T := T fun i => zkN ((ns.map ndD).getD i .none)) hh hroom cx h2 h3 IS.co IS.gen IS.kind (fun y hy q => by have := List.all_eq_true.mp IS.cell y hy; rw [q] at this; cases this) IS.ctx IS.res IS.elem (fun a b => IS.bind _ _ _ _ _ _ a b) hl xok hlX rl9 (by simpa using hsz) (fun env s' e1 e2 e3 up => ?_) fun gv s₁ g hl' => ?_
 ·refine h6 s' env vs (fun i => zkN ((ns.map ndD).getD i .none)) e1 e2 (by rw [e3]; exact nfL) ?_ (fun b o zz e => up b o e) ⟨fun b o e => up b o (cx.hb b o e), G.frame _ _ cx.ti fun b o zz e => up b o e⟩ (fun i v hv => ?_) fun i y hy => ?_
  ·cases q : G.hb.get? env.locals with
   | none => rfl
   | some o => have := cx.hb _ _ q; rw [e3, nfL] at this; exact zA this
  ·have hv' : vs[i]? = some v := by simpa using hv
   have hlt : i < (ns.map ndD).length := by
    rw [← rl9.length]
    exact (List.getElem?_eq_some_iff.mp hv').1
   refine zQ (rl9.get (i := i) (d := (ns.map ndD)[i]) (List.getElem?_eq_getElem hlt)) fun u hu hr => ?_
   rw [hu] at hv'; cases hv'
   have eD : (ns.map ndD)[i] = ndD (ns[i]'(by simpa using hlt)) := by simp
   have eG : (ns.map ndD).getD i .none = ndD (ns[i]'(by simpa using hlt)) := by rw [List.getD_eq_getElem?_getD, List.getElem?_eq_getElem hlt, eD]; rfl
   rw [eD] at hr
   show zmF C env.locals s'.heap _ (zkN ((ns.map ndD).getD i .none))
   rw [eG]
   generalize ns[i]'(by simpa using hlt) = nd at hr ⊢
   obtain ⟨r, t⟩ := nd
   show zmF C env.locals s'.heap _ t
   obtain ⟨a, rfl, dx, es, n, tr, vt, _, _, q1, q2, _, q4, q5⟩ := hr
   rw [hC] at q1
   refine ⟨a, dx, es, n, vt, rfl, ?_, ?_, up _ _ q1, up _ _ q2, q4, ?_⟩
   ·rw [e3]; exact Nat.ne_of_lt (Heap.lt_size q1)
   ·rw [e3]; exact Nat.ne_of_lt (Heap.lt_size q2)
   ·cases t with
    | none => exact q5
    | some y => exact q5
  ·rw [List.getD_eq_getElem?_getD] at hy
   cases hg : (ns.map ndD)[i]? with
   | none => rw [hg] at hy; exact zA hy
   | some z =>
    rw [hg] at hy
    refine zQ (List.mem_map.mp (List.mem_of_getElem? hg)) fun p hp zz2 => ?_; subst zz2
    exact hw p hp y hy
 ·refine hQ gv s₁ g fun {A' E' Q'} a1 a2 a3 => hl' a1 a2 fun u s₂ g2 r => a3 u s₂ g2 ?_
  rw [zjx] at r
  exact r
end
end
section
noncomputable def zdi (els : D → Option (List D)) : List D → Option (List D)
 | [] => some []
 | d :: ds => (match els d with | some q => (match zdi els ds with | some r => some (q ++ r) | none => none) | none => none)
section
variable {G : Gd} {A : Around} {s : Shared} {R : Result → Shared → Prop}
theorem zgY {elt : Expr} {gens : List Comprehension} {csc : Scope} {cpos : Pos} {dep : Nat} {I Dd : Addr} {fp wr Xf : List Addr} {ds pre0 all : List D} {x : Str} {px ps : Pos} {env : Env} {m : Str → Option Value} {ys0 : List Value} {n0 : Nat} {St : Nat → Heap → Prop} {P : Nat → Value → Prop} (body : Sem Unit) (Kp : (Str → Option Value) → Prop) (els : D → Option (List D))
  (heq : compTurn (.ListComp elt gens csc cpos) dep (.ref I) (.ref Dd) env = (standAt ps >>= fun zz => pyNext (.ref I) >>= fun r => match r with
   | none => pure (.done .next)
   | some v => assign (.Name x px) env v >>= fun zz => body >>= fun zz => again (.compLoop (.ListComp elt gens csc cpos) dep (.ref I) (.ref Dd) env)))
  (W : Walks G.prog G.w A I fp wr ds.length P St) (hst : St 0 s.heap) (hNT : ∀ i h', St i h' → ∀ b ∈ wr, NT h' b) (hfpT : ∀ b ∈ fp, b ∉ G.T) (hCf : env.locals ∉ fp) (hDf : Dd ∉ fp) (hDC : Dd ≠ env.locals)
  (hC : env.locals ∈ Xf) (hD : Dd ∈ Xf) (hw : ∀ b ∈ wr, b ∈ Xf) (hX : XOk G Xf s.heap) (ti : G.TI s.heap) (hx : env.kindOf x = some .local) (hk : env.scope.kind = .function)
  (hrd : ∀ i v, i < ds.length → P i v → ∃ d, ds[i]? = some d ∧ ∀ s', GrB G (env.locals :: Dd :: wr) s s' → Rd G.C Xf s'.heap d v)
  (hn : s.heap.Ns env.locals m) (hKp : Kp m) (hKx : ∀ m v, Kp m → Kp fun y => if y = x then some v else m y) (hacc : s.heap.get? Dd = some (zW ys0 n0)) (hl : RdL G.C Xf s.heap pre0 ys0) (hall : zdi els ds = some all)
  (step : ∀ (i : Nat) d v s₃ m₃ pre ys n qs E', ds[i]? = some d → els d = some qs → GrB G (env.locals :: Dd :: wr) s s₃ → G.TI s₃.heap → XOk G Xf s₃.heap → s₃.heap.Ns env.locals m₃ → m₃ x = some v → Kp m₃ → Rd G.C Xf s₃.heap d v → s₃.heap.get? Dd = some (zW ys n) → RdL G.C Xf s₃.heap pre ys → (pre ++ qs).length ≤ (pre0 ++ all).length →
   wpAny (model G.prog G.w) A body (fun zz s₄ => ∃ m₄ ys' n', GrB G [env.locals, Dd] s₃ s₄ ∧ s₄.heap.Ns env.locals m₄ ∧ Kp m₄ ∧ s₄.heap.get? Dd = some (zW ys' n') ∧ RdL G.C Xf s₄.heap (pre ++ qs) ys') E' s₃)
  (hR : ∀ s' m' ys n, GrB G (env.locals :: Dd :: wr) s s' → s'.heap.Ns env.locals m' → Kp m' → s'.heap.get? Dd = some (zW ys n) → RdL G.C Xf s'.heap (pre0 ++ all) ys → R (.ok .next) s') :
  codeAny (model G.prog G.w) A (.compLoop (.ListComp elt gens csc cpos) dep (.ref I) (.ref Dd) env) R s := by
 have H : LvH G A s I Dd fp wr Xf ds.length P St x env Kp := ⟨W, hNT, hfpT, hCf, hDf, hDC, hC, hD, hw, hX, hx, hk, hKx⟩
 refine codeAny_loop rfl (fun k s' => ∃ (i : Nat) (m' : Str → Option Value) (ys : List Value) (n : Nat) (pre rest : List D), i ≤ ds.length ∧ k = ds.length + 1 - i ∧ zdi els (ds.drop i) = some rest ∧ pre0 ++ all = pre ++ rest ∧ LI G Xf env.locals Dd wr s St Kp i m' ys n pre s')
  (fun k s' hI => ?_) (ds.length + 1) ⟨0, m, ys0, n0, pre0, all, Nat.zero_le _, rfl, by rw [List.drop_zero]; exact hall, rfl, GrB.refl s, ti, hst, hn, hKp, hacc, hl⟩
 show wpAny _ A ((compTurn (.ListComp elt gens csc cpos) dep (.ref I) (.ref Dd) env).onRaise (fun x => do noteFrame x env; theTreesLotGoes x)) _ _ s'
 refine wpAny_noted ?_
 rw [heq]
 refine zds fun Q₀ E₀ kQ kE => ?_
 refine e6_5 hI fun i m' ys n pre rest hi hkk hrest hpre q => ?_
 refine wpAny_bind (wpAny_standAt (wpAny_bind (ziR H q hi (px := px) (fun s₁ hin g hn hg hl => wpAny_pure (kQ _ _ ?_)) fun v s₁ hlt hP asg => wpAny_bind (asg _ _ fun s₂ q₂ => ?_))))
 ·rw [hin, List.drop_length] at hrest
  cases hrest
  rw [List.append_nil] at hpre
  exact hR s₁ m' ys n g hn q.kp hg (by rw [hpre]; exact hl)
 ·refine zQ (hrd i v hlt hP) fun d hd hr0 => ?_
  rw [List.drop_eq_getElem_cons hlt, Option.some.inj ((List.getElem?_eq_getElem hlt).symm.trans hd)] at hrest
  unfold zdi at hrest
  injection eS hrest fun qs hqs hrest => ?_
  injection eS hrest fun r hr' hrest => ?_
  cases hrest
  refine wpAny_bind (wpAny_mono (step i d v _ _ pre ys n qs _ hd hqs q₂.g q₂.ti (q₂.ok H) q₂.ns (if_pos rfl) q₂.kp (hr0 _ q₂.g) q₂.acc q₂.rl (by rw [hpre, List.length_append, List.length_append, List.length_append]; exact Nat.add_le_add_left (Nat.le_add_right _ _) _)) (fun zz s₄ h₄ => ?_) fun zz zz e => e)
  refine zcj h₄ fun m₄ ys' n' g₄ hn₄ hK₄ hg₄ hl₄ => ?_
  exact wpAny_pure (kQ _ _ ⟨rfl, ds.length + 1 - (i + 1), by rw [hkk]; exact Nat.sub_lt_sub_left (Nat.lt_succ_of_lt hlt) (Nat.lt_succ_self i), i + 1, m₄, ys', n', pre ++ qs, r, hlt, rfl, hr', by rw [hpre, List.append_assoc], q₂.step H g₄ hn₄ hK₄ hg₄ hl₄⟩)
end
end
theorem zej (elt i1 i2 : Expr) (x y : Str) (px py : Pos) (csc : Scope) (cpos : Pos) (it acc : Value) (env : Env) :
  compTurn (.ListComp elt [⟨.Name x px, i1, [], 0⟩, ⟨.Name y py, i2, [], 0⟩] csc cpos) 0 it acc env = (standAt i1.pos >>= fun zz => pyNext it >>= fun r => match r with
   | none => pure (.done .next)
   | some v => assign (.Name x px) env v >>= fun zz => eval i2 env >>= fun xx => standAt i2.pos >>= fun zz => foldedSetIterable i2 env xx >>= fun xx => holding [xx] (pyIter xx) >>= fun it2 =>
     runOwn (.compStart (.ListComp elt [⟨.Name x px, i1, [], 0⟩, ⟨.Name y py, i2, [], 0⟩] csc cpos) 1 it2 acc env) env >>= fun zz => again (.compLoop (.ListComp elt [⟨.Name x px, i1, [], 0⟩, ⟨.Name y py, i2, [], 0⟩] csc cpos) 0 it acc env)) := by
 rfl
noncomputable abbrev zlK (elt i1 i2 : Expr) (x y : Str) (px py : Pos) (csc : Scope) (cpos : Pos) (acc : Value) (env : Env) : Sem Unit := eval i2 env >>= fun xx => standAt i2.pos >>= fun zz => foldedSetIterable i2 env xx >>= fun xx => holding [xx] (pyIter xx) >>= fun it2 =>
     runOwn (.compStart (.ListComp elt [⟨.Name x px, i1, [], 0⟩, ⟨.Name y py, i2, [], 0⟩] csc cpos) 1 it2 acc env) env >>= fun zz => pure ()
theorem ze8 (elt i1 i2 : Expr) (x y : Str) (px py : Pos) (csc : Scope) (cpos : Pos) (it acc : Value) (env : Env) :
  compTurn (.ListComp elt [⟨.Name x px, i1, [], 0⟩, ⟨.Name y py, i2, [], 0⟩] csc cpos) 0 it acc env = (standAt i1.pos >>= fun zz => pyNext it >>= fun r => match r with
   | none => pure (.done .next)
   | some v => assign (.Name x px) env v >>= fun zz => zlK elt i1 i2 x y px py csc cpos acc env >>= fun zz => again (.compLoop (.ListComp elt [⟨.Name x px, i1, [], 0⟩, ⟨.Name y py, i2, [], 0⟩] csc cpos) 0 it acc env)) := by
 rw [zej]
 simp only [bind_assoc, pure_bind]
theorem zfh (elt i1 i2 : Expr) (x y : Str) (px py : Pos) (csc : Scope) (cpos : Pos) (it acc : Value) (env : Env) :
  compTurn (.ListComp elt [⟨.Name x px, i1, [], 0⟩, ⟨.Name y py, i2, [], 0⟩] csc cpos) 1 it acc env = (standAt i2.pos >>= fun zz => pyNext it >>= fun r => match r with
   | none => pure (.done .next)
   | some v => assign (.Name y py) env v >>= fun zz => (do let _ ← call (.builtin "list.append") [acc, ← eval elt env]; pure () : Sem Unit) >>= fun zz => again (.compLoop (.ListComp elt [⟨.Name x px, i1, [], 0⟩, ⟨.Name y py, i2, [], 0⟩] csc cpos) 1 it acc env)) := by
 rfl
section
theorem zl4 {h : Heap} {a : Addr} {m m' : Str → Option Value} (n : h.Ns a m) (n' : h.Ns a m') : m = m' := by
 refine za4 n fun o es ep e1 e2 zz5 e3 => ?_
 refine za4 n' fun o' es' ep' f1 f2 zz5 f3 => ?_
 rw [e1] at f1; cases f1
 rw [e2] at f2; cases f2
 funext x
 rw [← e3, ← f3]
section
variable {G : Gd} {k n : Nat} {cf : Cf} {A : Around} {X : List Addr} {s : Shared} {env : Env} {K : Kn} {ρ : Rho} {R : Result → Shared → Prop}
theorem zjy {csc : Scope} {cl : List (Str × Addr)} {C : Addr} {x y : Str} {d e : D} {v u : Value} {Xi : List Addr} {s₃ : Shared} {m₃} (c : Cxt G k A X s env K ρ) (hg : z8 csc.names K ρ x = true) (hkind : csc.kind = .function)
  (hcl : ∀ y, csc.names.lookup y = some .free → cl.lookup y = env.cells.lookup y) (hXs : ∀ a ∈ X, a ∈ Xi) (hXi : ∀ a ∈ Xi, a ∈ X ∨ s.heap.get? a = none) (g : Gr G s s₃) (ti : G.TI s₃.heap) (hX₃ : XOk G Xi s₃.heap)
  (hn : s₃.heap.Ns C m₃) (hm : m₃ x = some v) (r : Rd G.C Xi s₃.heap d v) (hy : csc.names.lookup y = some .local) (hmy : m₃ y = some u) (re : Rd G.C Xi s₃.heap e u) :
  Cxt G k A Xi s₃ (compEnvC csc cl C env) (yD csc.names K) ((y, e) :: (x, d) :: ρ.filter fun q => xE csc.names q.1) := by
 obtain ⟨c1, c2, c3, c4⟩ := za2 c hg hkind hcl hXs hXi g ti hX₃ hn hm r
 obtain ⟨ek, m, W, hn', hi, hv⟩ := c4
 have := zl4 hn' hn
 subst this
 refine ⟨c1, c2, c3, ek, m, W, hn', hi, fun z d' hz => ?_⟩
 rw [List.lookup_cons] at hz
 cases hb : z == y with
 | true =>
  rw [hb] at hz; cases hz
  have := beq_iff_eq.mp hb; subst this
  refine .inr ⟨u, .inl ⟨?_, hmy⟩, ?_⟩
  ·unfold Env.kindOf
   rw [ek.names, yV, hy]; rfl
  ·cases e <;> first | exact re | exact False.elim re
 | false => rw [hb] at hz; exact hv z d' hz
noncomputable def zit (f : D → Option D) (d : D) : Option (List D) := match f d with
 | some y => (match y.pure with | true => some [y] | false => none)
 | none => none
theorem zmh {elt i1 i2 : Expr} {x y : Str} {px py : Pos} {csc : Scope} {cpos : Pos} {it acc : Value} {cenv : Env}
  (h0 : codeAny (model G.prog G.w) A (.compLoop (.ListComp elt [⟨.Name x px, i1, [], 0⟩, ⟨.Name y py, i2, [], 0⟩] csc cpos) 1 it acc cenv) R s)
  (h : wpAny (model G.prog G.w) A (pyIter it) (fun it' s' => codeAny (model G.prog G.w) A (.compLoop (.ListComp elt [⟨.Name x px, i1, [], 0⟩, ⟨.Name y py, i2, [], 0⟩] csc cpos) 1 it' acc cenv) R s')
   (notedBy (model G.prog G.w) A cenv fun x s' => R (.error x) s') s) :
  codeAny (model G.prog G.w) A (.compStart (.ListComp elt [⟨.Name x px, i1, [], 0⟩, ⟨.Name y py, i2, [], 0⟩] csc cpos) 1 it acc cenv) R s := by
 refine codeAny_of_tree ?_
 show wpAny _ _ ((compStart (.ListComp elt [⟨.Name x px, i1, [], 0⟩, ⟨.Name y py, i2, [], 0⟩] csc cpos) 1 it acc cenv).onRaise (fun x => do noteFrame x cenv; standAt theWindowsPlace)) _ _ s
 refine wpAny_notedAt ?_
 show wpAny _ _ (ask >>= _) _ _ s
 refine wpAny_bind (wpAny_askSetting (wpAny_ite ?_))
 split
 ·first
   | exact wpAny_bind (wpAny_pure (wpAny_pure (And.intro rfl h0)))
   | exact wpAny_pure (And.intro rfl h0)
 ·first
   | exact wpAny_bind (wpAny_rule (wpAny_bind (wpAny_standAt (wpAny_bind (wpAny_mono h (fun it' s' h' => wpAny_pure (And.intro rfl h')) fun zz zz x => x)))))
   | (refine wpAny_bind (wpAny_rule ?_); show wpAny _ _ (standAt i2.pos >>= _) _ _ s; exact wpAny_bind (wpAny_standAt (wpAny_bind (wpAny_mono h (fun it' s' h' => wpAny_pure (And.intro rfl h')) fun zz zz x => x))))
theorem zkg (ok : zZ G cf k) (c : Cxt G k A X s env K ρ) {csc : Scope} {cl : List (Str × Addr)} {x y : Str} {px py : Pos} {elt i1 i2 : Expr} {cpos : Pos} {C Dd : Addr} {d : D} {v : Value} {Xi : List Addr} {s₃ : Shared} {m₃ : Str → Option Value} {pre qs : List D} {ys : List Value} {n0 : Nat}
  (hg : z8 csc.names K ρ x = true) (hkind : csc.kind = .function) (hcl : ∀ y, csc.names.lookup y = some .free → cl.lookup y = env.cells.lookup y) (hy : csc.names.lookup y = some .local) (hxy : x ≠ y) (hXs : ∀ a ∈ X, a ∈ Xi) (hXi : ∀ a ∈ Xi, a ∈ X ∨ s.heap.get? a = none)
  (hC : s.heap.get? C = none) (hD : s.heap.get? Dd = none) (hCX : C ∈ Xi) (hDX : Dd ∈ Xi) (hDC : Dd ≠ C)
  (g : Gr G s s₃) (ti : G.TI s₃.heap) (hX₃ : XOk G Xi s₃.heap) (hn : s₃.heap.Ns C m₃) (hm : m₃ x = some v) (r : Rd G.C Xi s₃.heap d v) {d2 : D} {es : List D} (he : evD cf n (yD csc.names K) ((x, d) :: ρ.filter fun q => xE csc.names q.1) i2 = some d2) (hes : zu d2 = some es)
  (hq : zdi (zit fun e => evD cf n (yD csc.names K) ((y, e) :: (x, d) :: ρ.filter fun q => xE csc.names q.1) elt) es = some qs) (hacc : s₃.heap.get? Dd = some (zW ys n0)) (hl : RdL G.C Xi s₃.heap pre ys) (hlen : (pre ++ qs).length ≤ 1000) {E : Value → Shared → Prop} :
  wpAny (model G.prog G.w) A (zlK elt i1 i2 x y px py csc cpos (.ref Dd) (compEnvC csc cl C env)) (fun zz s₄ => ∃ m₄ ys' n', GrB G [C, Dd] s₃ s₄ ∧ s₄.heap.Ns C m₄ ∧ m₄ x = some v ∧ s₄.heap.get? Dd = some (zW ys' n') ∧ RdL G.C Xi s₄.heap (pre ++ qs) ys') E s₃ := by
 have cc := za2 c hg hkind hcl hXs hXi g ti hX₃ hn hm r
 refine wpAny_bind (((zt ok n).ev _ _ _ _ he A Xi s₃ _ cc).post fun v2 s₄ g₄ r2 => ?_)
 refine wpAny_bind (wpAny_standAt (wpAny_bind (wpAny_of_eq (yi he _ _) ?_)))
 have cc4 := cc.gr g₄
 refine wpAny_bind (wpAny_holding (wpAny_mono (zbO cc4.room.hh cc4.xok cc4.cx.ti (r2.rd' (fun l q => by subst q; exact zA hes)) hes E) (fun it s₅ h₅ => ?_) fun zz zz e => e))
 refine za4 h₅ fun I fp wr zz3 g₅ up5 S => ?_; subst zz3
 refine zkd S fun St P W hst hwr hfp hlt hNT hrd => ?_
 have nC : NT s₃.heap C := .dict hn
 have nD : NT s₃.heap Dd := ⟨_, hacc, zv⟩
 have nCT := nC.notTab ti
 have nDT := nD.notTab ti
 have g45 := g₄.trans g₅
 have ti4 := g₄.ti ti
 have ti5 := g45.ti ti
 have hn5 : s₅.heap.Ns C m₃ := hn.at' fun o e => g45.heap _ o nCT e
 have hacc5 : s₅.heap.get? Dd = some (zW ys n0) := g45.heap _ _ nDT hacc
 have live4 : ∀ b ∈ Xi, ∃ o, s₄.heap.get? b = some o := cc4.xok.live
 have wrX : ∀ b ∈ wr, b ∉ Xi := fun b hb q => by
  refine zU (live4 b q) fun o e => ?_
  rw [hwr b hb] at e; exact zA e
 have fpX : ∀ b ∈ fp, b ∉ Xi := fun b hb q => by
  rcases (hfp b hb).1 with z | z
  ·exact wrX b z q
  ·exact z.1 q
 have xok5 : XOk G (wr ++ Xi) s₅.heap := by
  refine ⟨fun a ha => List.mem_append_right _ (cc4.xok.tabs a ha), fun a ha => ?_⟩
  rcases List.mem_append.mp ha with q | q
  ·refine zQ (hNT 0 _ hst a q) fun o e zz2 => ?_; exact ⟨o, e⟩
  ·exact (cc4.xok.gr ti4 g₅).live a q
 have noWr4 : ∀ b o, s₄.heap.get? b = some o → b ∉ wr := fun b o e q => by rw [hwr b q] at e; exact zA e
 have lift4 : ∀ (t : Shared), GrB G (C :: Dd :: wr) s₅ t → ∀ b o, b ∉ Xi → s₄.heap.get? b = some o → b ∉ wr ++ Xi ∧ t.heap.get? b = some o := fun t gt b o hb e => ⟨fun q => (List.mem_append.mp q).elim (noWr4 b o e) hb, gt.heap b o (fun q => hb (cc4.xok.tabs b q)) (fun q => by
  rcases List.mem_cons.mp q with q | q
  ·exact hb (q ▸ hCX)
  ·rcases List.mem_cons.mp q with q | q
   ·exact hb (q ▸ hDX)
   ·exact noWr4 b o e q) (up5 b o e)⟩
 have gr34 : ∀ b o, b ∉ Xi → s₃.heap.get? b = some o → s₄.heap.get? b = some o := fun b o hb e => g₄.heap b o (fun q => hb (cc4.xok.tabs b q)) e
 have toGr : ∀ t, GrB G (C :: Dd :: wr) s₅ t → Gr G s t := fun t gt => ⟨fun b o hT e => gt.heap b o hT (fun q => by
   rcases List.mem_cons.mp q with q | q
   ·rw [q, hC] at e; exact zA e
   ·rcases List.mem_cons.mp q with q | q
    ·rw [q, hD] at e; exact zA e
    ·have e4 : s₄.heap.get? b = some o := (g.trans g₄).heap b o hT e
     exact noWr4 b o e4 q) ((g.trans g45).heap b o hT e), fun z => gt.ti ((g.trans g45).ti z), gt.os.trans (g.trans g45).os, fun z => gt.bare ((g.trans g45).bare z)⟩
 have hXi2 : ∀ a ∈ wr ++ Xi, a ∈ X ∨ s.heap.get? a = none := fun a ha => by
  rcases List.mem_append.mp ha with q | q
  ·right
   cases z : s.heap.get? a with
   | none => rfl
   | some o =>
    by_cases hT : a ∈ G.T
    ·exact absurd (cc4.xok.tabs a hT) (wrX a q)
    ·have := (g.trans g₄).heap a o hT z; rw [hwr a q] at this; exact zA this
  ·exact hXi a q
 refine wpAny_bind (wpAny_runOwn (h := none) ?_)
 have loop : codeAny (model G.prog G.w) A (.compLoop (.ListComp elt [⟨.Name x px, i1, [], 0⟩, ⟨.Name y py, i2, [], 0⟩] csc cpos) 1 (.ref I) (.ref Dd) (compEnvC csc cl C env)) (fun r s' => match r with | .ok f => wpAny (model G.prog G.w) A (pure ()) (fun (_ : Unit) s₄ => ∃ m₄ ys' n', GrB G [C, Dd] s₃ s₄ ∧ s₄.heap.Ns C m₄ ∧ m₄ x = some v ∧ s₄.heap.get? Dd = some (zW ys' n') ∧ RdL G.C Xi s₄.heap (pre ++ qs) ys') E s' | .error e => cameBackBy (model G.prog G.w) A (compEnvC csc cl C env) E e s') s₅ := by
  refine zgY (env := compEnvC csc cl C env) (Xf := wr ++ Xi) (ds := es) (pre0 := pre) (all := qs) (x := y) (m := m₃) (do let _ ← call (.builtin "list.append") [.ref Dd, ← eval elt (compEnvC csc cl C env)]; pure ()) (fun m => m x = some v) (zit fun e => evD cf n (yD csc.names K) ((y, e) :: (x, d) :: ρ.filter fun q => xE csc.names q.1) elt) (zfh _ _ _ _ _ _ _ _ _ _ _ _) W hst hNT (fun b hb => (hfp b hb).2) (fun q => fpX _ q hCX) (fun q => fpX _ q hDX) hDC (List.mem_append_right _ hCX) (List.mem_append_right _ hDX) (fun b hb => List.mem_append_left _ hb) xok5 ti5 (lookup_relabel_local hy) (by simp [compEnvC, relabel, hkind]) ?_ hn5 hm (fun m u hmx => by simp [hxy, hmx]) hacc5 ?_ hq ?_ ?_
  ·intro i u hi hPu
   refine zQ (hrd i u hi hPu) fun e h1 h2 => ?_
   exact ⟨e, h1, fun s' gs => h2.imp fun b o hb ee => lift4 s' gs b o hb ee⟩
  ·exact hl.imp fun b o hb e => lift4 s₅ (GrB.refl _) b o hb (gr34 b o hb e)
  ·intro i e u s₆ m₆ pre' ys₆ n₆ qs' E' hde hqs' gb ti₆ ok₆ hn₆ hmy hmx ru hacc₆ hl₆ hlen₆
   unfold zit at hqs'
   set_option tactic.hygienic true in split at hqs'
   ·rename_i yy hyy
    split at hqs'
    ·rename_i hpu
     cases hqs'
     have rv : Rd G.C (wr ++ Xi) s₆.heap d v := r.imp fun b o hb e => lift4 s₆ gb b o hb (gr34 b o hb e)
     have c6 := zjy c hg hkind hcl (fun a ha => List.mem_append_right _ (hXs a ha)) hXi2 (toGr _ gb) ti₆ ok₆ hn₆ hmx rv hy hmy ru
     refine wpAny_bind (((zt ok n).ev _ _ _ _ hyy A _ s₆ _ c6).post fun w s₇ g₇ rw' => ?_)
     have nC6 : C ∉ G.T := (NT.dict hn₆).notTab ti₆
     have nD6 : Dd ∉ G.T := NT.notTab ⟨_, hacc₆, zv⟩ ti₆
     have hg₇ : s₇.heap.get? Dd = some (zW ys₆ n₆) := g₇.heap _ _ nD6 hacc₆
     have hlb : (pre' ++ [yy]).length ≤ 1000 := Nat.le_trans hlen₆ hlen
     have hys : ys₆.length ≤ 1000 := by
      rw [hl₆.length]
      simp at hlb; lia
     refine wpAny_bind (wpAny_list_append_plain (items := ys₆.toArray) ⟨n₆, hg₇⟩ (fun h₈ hl₈ hs₈ => ?_) (by rw [z5]; exact Nat.le_trans hys (by decide)))
     refine zU hl₈ fun n₈ hn₈ => ?_
     have g₈ : GrB G [Dd] s₇ { s₇ with heap := h₈ } := GrB.same (tk := s₇.toks) hs₈ (.list (its := ys₆.toArray) ⟨_, hg₇, rfl, n₆, rfl⟩)
     refine wpAny_pure ⟨m₆, ys₆ ++ [w], n₈, g₇.b.trans (g₈.mono fun z hz => by simp at hz; simp [hz]), (hn₆.at' fun o e => g₇.heap _ o nC6 e).sameBut hs₈ (Ne.symm hDC), hmx, by rw [hn₈]; simp, ?_⟩
     have l1 : RdL G.C (wr ++ Xi) h₈ pre' ys₆ := hl₆.imp fun b o hb e => ⟨hb, (hs₈.2 b (fun q => hb (List.mem_append_right _ (q ▸ hDX)))).trans (g₇.heap b o (fun q => hb (ok₆.tabs b q)) e)⟩
     have l2 : Rd G.C (wr ++ Xi) h₈ yy w := (rw'.rd hpu).imp fun b o hb e => ⟨hb, (hs₈.2 b (fun q => hb (List.mem_append_right _ (q ▸ hDX)))).trans e⟩
     exact l1.append (.cons l2 .nil)
    ·exact zA hqs'
   ·exact zA hqs'
  ·intro s' m' ys' n' gb hn' hmx hg' hl'
   refine wpAny_pure ⟨m', ys', n', ⟨fun b o hT hb e => gb.heap b o hT (fun q => ?_) (g45.heap b o hT e), fun z => gb.ti (g45.ti z), gb.os.trans g45.os, fun z => gb.bare (g45.bare z)⟩, hn', hmx, hg', hl'.less fun b hb => List.mem_append_right _ hb⟩
   rcases List.mem_cons.mp q with q | q
   ·exact hb (by rw [show b = C from q]; simp)
   ·rcases List.mem_cons.mp q with q | q
    ·exact hb (by rw [show b = Dd from q]; simp)
    ·exact noWr4 b o (g₄.heap b o hT e) q
 exact zmh loop (W.self 0 _ _ _ hst loop)
end
end
section
section
variable {G : Gd} {k n : Nat} {cf : Cf} {A : Around} {X Xc Y : List Addr} {s : Shared} {env : Env} {K : Kn} {ρ : Rho} {R : Result → Shared → Prop}
theorem zd7 (c : StC G k A Xc Y s env K ρ) {s' : Shared} (g : Gr G s s') {x : Str} {d : D} {v : Value} {C : Addr} {mC : Str → Option Value} (hk : K.lookup x = some .local) (hC : s.heap.get? C = none) (nsC : s'.heap.Ns C mC)
  (r : Rd G.C (C :: (Y ++ Xc)) s'.heap d v) {E : Value → Shared → Prop} {Q : Value → Shared → Prop} {u : Value} (hQ : ∀ s₂, Stp G Y s Y s₂ → StC G k A Xc Y s₂ env K (xi (xA ρ x) x d) → Q u s₂) :
  wpAny (model G.prog G.w) A (storeName env x v) (fun zz s'' => ∃ m, s''.heap.Ns C m ∧ ∀ h', Heap.SameBut C s''.heap h' → Q u { s'' with heap := h' }) E s' := by
 have c' := c.gr g
 refine xl c.ex fun m W e hW => ?_
 have e' := e.gr c.xok c.cx g
 have en := c.cxt.env.k
 have hk' : env.kindOf x = some .local := by unfold Env.kindOf; rw [en.names]; exact hk
 have CX : C ∉ Y ++ Xc := c.xok.none hC
 have CL : C ≠ env.locals := fun q => CX (q ▸ List.mem_append_left _ c.loc)
 have nC' : NT s'.heap C := .dict nsC
 refine wpAny_storeName_local hk' e'.ns (fun h₁ hn₁ hs₁ => ?_) (by rw [en.kind]; rfl)
 refine ⟨mC, nsC.sameBut hs₁ CL, fun h' hs' => ?_⟩
 have nT : NT s'.heap env.locals := .dict e'.ns
 have nC1 : NT h₁ C := .dict (nsC.sameBut hs₁ CL)
 have hn' : h'.Ns env.locals (fun y => if y = x then some v else m y) := hn₁.at' fun o e => (hs'.2 _ (Ne.symm CL)).trans e
 have up : ∀ b o, b ≠ env.locals → b ≠ C → s'.heap.get? b = some o → h'.get? b = some o := fun b o h1 h2 e => (hs'.2 b h2).trans (SameBut.up hs₁ h1 e)
 have upS : ∀ b o, b ∉ G.T → b ≠ env.locals → s.heap.get? b = some o → h'.get? b = some o := fun b o hT h1 e => up b o h1 (fun q => by rw [q, hC] at e; exact zA e) (g.heap b o hT e)
 have ti' : ∀ t : Tok, G.TI s.heap → G.TI h' := fun t z => by
  have z1 := (GrB.same (G := G) (tk := t) hs₁ nT).ti (g.ti z)
  exact (GrB.same (G := G) (s := { s' with heap := h₁, toks := t }) (tk := t) hs' nC1).ti z1
 have gb : GrB G Y s { s' with heap := h', toks := s'.toks + 1 } := ⟨fun b o hT hY e => upS b o hT (fun q => hY (q ▸ c.loc)) e, ti' 0, g.os, g.bare⟩
 have stp : Stp G Y s Y { s' with heap := h', toks := s'.toks + 1 } := ⟨fun zz h => h, fun zz h => .inl h, gb⟩
 have diff : ∀ cc u, s.heap.IsCell cc u → cc ≠ env.locals := fun cc u hcell q => by
  subst q
  refine yI e.ns fun o es ep ho hd zz5 => ?_
  refine zQ hcell fun o' ho' hd' => ?_
  rw [ho] at ho'; cases ho'
  rw [hd] at hd'; cases hd'
 have hnl : ∀ a vs n, s.heap.get? a = some (zW vs n) → a ≠ env.locals := fun a vs n hg q => by
  subst q
  refine yI e.ns fun o es ep ho hd zz5 => ?_
  rw [hg] at ho; cases ho; cases hd
 have cellUp : ∀ cc u, s.heap.IsCell cc u → h'.IsCell cc u := fun cc u hcell => IsCell.at' hcell fun o e => upS _ o ((NT.cell hcell).notTab c.cx.ti) (diff _ _ hcell) e
 have kX : ∀ b o, b ∉ Y ++ Xc → s.heap.get? b = some o → b ∉ Y ++ Xc ∧ h'.get? b = some o := fun b o hb e => ⟨hb, upS b o (fun q => hb (List.mem_append_right _ (c.xc b q))) (fun q => hb (q ▸ List.mem_append_left _ c.loc)) e⟩
 refine hQ _ stp ⟨c.room, stp.cx c.cx c.hbY, ⟨c.xok.tabs, fun a ha => ?_⟩, c.xc, ⟨(fun y => if y = x then some v else m y), (fun y => if y = x then none else W y), e.store hn' (fun y hy => by simp [hy]) (fun y hy => by simp [hy]) ?_ (fun y cc u hy hc hcell => cellUp cc _ hcell) kX ?_ (v := v) (.inl ⟨hk', by simp⟩) ?_, ?_⟩, c.loc, ?_, c.apart, ?_, c.dis, c.hbY, c.celX, c.noFree⟩
 ·by_cases hT : a ∈ G.T
  ·refine zU (G.tabs _ (ti' 0 c.cx.ti) a hT) fun vs e => ?_; exact ⟨_, e⟩
  ·by_cases hl : a = env.locals
   ·subst hl; refine zfg hn' fun o zz1 zz2 ho zz4 => ?_; exact ⟨o, ho⟩
   ·refine zU (c.xok.live a ha) fun o e => ?_; exact ⟨o, upS a o hT hl e⟩
 ·intro y z a h1 h2
  by_cases hy : y = x
  ·simp [hy] at h1
  ·by_cases hz : z = x
   ·simp [hz] at h2
   ·simp only [hy, hz, if_false] at h1 h2; exact e.inj y z a h1 h2
 ·intro y a vs n hy hwa hx hg
  exact ⟨hx, upS a _ (c.cx.notTab hg zv) (hnl _ _ _ hg) hg⟩
 ·have rr : Rd G.C (Y ++ Xc) h' d v := r.imp fun b o hb e => ⟨fun q => hb (List.mem_cons_of_mem _ q), up b o (fun q => hb (List.mem_cons_of_mem _ (q ▸ List.mem_append_left _ c.loc))) (fun q => hb (q ▸ List.mem_cons_self ..)) e⟩
  cases d <;> first | exact rr | exact False.elim rr
 ·intro y a hy
  by_cases q : y = x
  ·simp [q] at hy
  ·simp only [q, if_false] at hy; exact hW y a hy
 ·intro y cc h1 h2
  obtain ⟨q, u, z⟩ := c.cel y cc h1 h2
  exact ⟨q, u, cellUp cc _ z⟩
 ·intro y hy
  refine zQ (c.nt y hy) fun o ho no => ?_
  by_cases hl : y = env.locals
  ·subst hl; exact .dict hn'
  ·exact ⟨o, upS y o (NT.notTab ⟨o, ho, no⟩ c.cx.ti) hl ho, no⟩
end
end
section
section
variable {G : Gd} {k n : Nat} {cf : Cf} {A : Around} {X Xc Y : List Addr} {s : Shared} {env : Env} {K : Kn} {ρ : Rho}
noncomputable def zd8 (cf : Cf) (n : Nat) (K : Kn) (ρ : Rho) (csc : Scope) (x y : Str) (elt i2 : Expr) (d : D) : Option (List D) := match evD cf n (yD csc.names K) ((x, d) :: ρ.filter fun q => xE csc.names q.1) i2 with
 | some d2 => (match zu d2 with
  | some es => zdi (zit fun e => evD cf n (yD csc.names K) ((y, e) :: (x, d) :: ρ.filter fun q => xE csc.names q.1) elt) es
  | none => none)
 | none => none
theorem zeQ (ok : zZ G cf k) (c : Cxt G k A X s env K ρ) {s₂ : Shared} {h₀ : Heap} {I : Addr} {fp wr : List Addr} {ds all : List D} {elt i1 i2 : Expr} {x y : Str} {px py : Pos} {csc : Scope} {cl : List (Str × Addr)} {pos : Pos} {E : Value → Shared → Prop} {RR : Value → Addr → Result → Shared → Prop}
  (hg : z8 csc.names K ρ x = true) (hkind : csc.kind = .function) (hcl : ∀ y, csc.names.lookup y = some .free → cl.lookup y = env.cells.lookup y) (hy : csc.names.lookup y = some .local) (hxy : x ≠ y)
  (hc : zdi (zd8 cf n K ρ csc x y elt i2) ds = some all) (hlen : all.length ≤ 1000) (g : Gr G s s₂) (hX : XOk G X h₀) (k0 : ∀ b o, b ∉ G.T → s.heap.get? b = some o → h₀.get? b = some o) (k2 : ∀ b o, h₀.get? b = some o → s₂.heap.get? b = some o)
  (S : Src G A X h₀ s₂.heap I fp wr ds)
  (hRR : ∀ D C s' m' ys n, s.heap.get? D = none → s.heap.get? C = none → D ≠ C → Gr G s s' → s'.heap.Ns C m' → s'.heap.get? D = some (zW ys n) → RdL G.C (C :: D :: X) s'.heap all ys → RR (.ref D) C (.ok .next) s') :
  wpAny (model G.prog G.w) A (newList []) (fun acc s₃ => wpAny (model G.prog G.w) A (newFunctionEnv csc env.globals cl [] env.qual none .none (some env)) (fun cenv s₄ =>
   codeAny (model G.prog G.w) A (.compStart (.ListComp elt [⟨.Name x px, i1, [], 0⟩, ⟨.Name y py, i2, [], 0⟩] csc pos) 0 (.ref I) acc { cenv with scope := relabel csc env }) (RR acc cenv.locals) s₄) E s₃) E s₂ := by
 refine zc1 (xP hg) fun hcell zz1 hx zz3 => ?_
 have ti := c.cx.ti
 refine wpAny_newObj_type (wpAny_newFunctionEnv hcell (by intro y hy; simp at hy) (fun h₁ hns₁ hsb₁ => ?_) hkind)
 dsimp only at hns₁ hsb₁ ⊢
 generalize hH2 : s₂.heap.push { cls := .type "list", dict := none, data := .seq ([] : List Value).toArray } = H2 at hns₁ hsb₁ ⊢
 have hC : H2.objs.size = s₂.heap.objs.size + 1 := by rw [← hH2, Heap.size_push]
 have hDC : s₂.heap.objs.size ≠ H2.objs.size := by rw [hC]; exact Nat.ne_of_lt (Nat.lt_succ_self _)
 have below : ∀ b, b < s₂.heap.objs.size → b ≠ H2.objs.size ∧ b ≠ s₂.heap.objs.size := fun b hb => ⟨by rw [hC]; exact Nat.ne_of_lt (Nat.lt_succ_of_lt hb), Nat.ne_of_lt hb⟩
 have old : ∀ b o, s₂.heap.get? b = some o → h₁.get? b = some o := fun b o e => hsb₁.extBut b o (below b (Heap.lt_size e)).1 (Heap.get?_push_of_some _ (hH2 ▸ Heap.get?_push_of_some _ e))
 have hacc : h₁.get? s₂.heap.objs.size = some (zW [] 0) := hsb₁.extBut _ _ hDC (Heap.get?_push_of_some _ (hH2 ▸ Heap.get?_push_size _ rfl))
 have freshS : ∀ a, s₂.heap.objs.size ≤ a → h₀.get? a = none ∧ (a ∉ G.T → s.heap.get? a = none) := fun a ha => by
  have h2 : s₂.heap.get? a = none := zT ha
  have h0 : h₀.get? a = none := by
   cases q : h₀.get? a with
   | none => rfl
   | some o => rw [k2 a o q] at h2; exact zA h2.symm
  refine ⟨h0, fun hT => ?_⟩
  cases q : s.heap.get? a with
  | none => rfl
  | some o => rw [k0 a o hT q] at h0; exact zA h0.symm
 have ti₂ : G.TI s₂.heap := g.ti ti
 have notT : ∀ a, s₂.heap.objs.size ≤ a → a ∉ G.T := fun a ha hT => by
  refine zU (G.tabs _ ti₂ a hT) fun vs e => ?_
  rw [zT ha] at e; exact zA e
 refine zkd S fun St P W hst hwr hfp hlt hNT hrd => ?_
 have hst₁ : St 0 h₁ := W.frame _ _ _ hst fun b zz o e => old b o e
 have fC := freshS H2.objs.size (by rw [hC]; exact Nat.le_succ _)
 have fD := freshS s₂.heap.objs.size (Nat.le_refl _)
 have nC := notT H2.objs.size (by rw [hC]; exact Nat.le_succ _)
 have nD := notT s₂.heap.objs.size (Nat.le_refl _)
 have hfD : ∀ b, (b = s₂.heap.objs.size ∨ b = H2.objs.size) → b ∉ fp := fun b hb hm => by
  have := below b (hlt b hm)
  rcases hb with rfl | rfl
  ·exact this.2 rfl
  ·exact this.1 rfl
 have wS : ∀ b ∈ wr, s.heap.get? b = none ∧ b ∉ G.T := fun b hb => by
  have hT := (hfp b (W.sub b hb)).2
  refine ⟨?_, hT⟩
  cases q : s.heap.get? b with
  | none => rfl
  | some o => have := k0 b o hT q; rw [hwr b hb] at this; exact zA this
 generalize hD0 : s₂.heap.objs.size = Dd at *
 generalize hC0 : H2.objs.size = C at *
 have hs4 : ∀ s₄ : Shared, s₄ = { s₂ with heap := h₁, toks := s₂.toks + ([] : List (Str × Value)).length } → codeAny (model G.prog G.w) A (.compLoop (.ListComp elt [⟨.Name x px, i1, [], 0⟩, ⟨.Name y py, i2, [], 0⟩] csc pos) 0 (.ref I) (.ref Dd) (compEnvC csc cl C env)) (RR (.ref Dd) C) s₄ := by
  rintro s₄ rfl
  generalize hs4 : ({ s₂ with heap := h₁, toks := s₂.toks + ([] : List (Str × Value)).length } : Shared) = s₄
  have e4 : s₄.heap = h₁ := by rw [← hs4]
  have gs : Gr G s s₄ := by rw [← hs4]; exact g.trans (Gr.of old)
  rw [← e4] at hst₁ hacc hns₁ old
  have Xf : ∀ a ∈ (C :: Dd :: (wr ++ X)), a ∈ X ∨ s.heap.get? a = none := fun a ha => by
   simp only [List.mem_cons, List.mem_append] at ha
   rcases ha with rfl | rfl | ha | ha
   ·exact .inr (fC.2 nC)
   ·exact .inr (fD.2 nD)
   ·exact .inr (wS a ha).1
   ·exact .inl ha
  have toGr : ∀ s', GrB G (C :: Dd :: wr) s₄ s' → Gr G s s' := fun s' gb =>
   ⟨fun b o hb e => gb.heap b o hb (fun q => by
    simp only [List.mem_cons] at q
    rcases q with rfl | rfl | q
    ·rw [fC.2 nC] at e; exact zA e
    ·rw [fD.2 nD] at e; exact zA e
    ·rw [(wS b q).1] at e; exact zA e) (gs.heap b o hb e), fun t => gb.ti (gs.ti t), gb.os.trans gs.os, fun t => gb.bare (gs.bare t)⟩
  have xok4 : XOk G (C :: Dd :: (wr ++ X)) s₄.heap := by
   refine ⟨fun a ha => by simp [hX.tabs a ha], fun a ha => ?_⟩
   simp only [List.mem_cons, List.mem_append] at ha
   rcases ha with rfl | rfl | ha | ha
   ·refine zfg hns₁ fun o zz1 zz2 ho zz4 => ?_; exact ⟨o, ho⟩
   ·exact ⟨_, hacc⟩
   ·refine zQ (hNT 0 _ hst₁ a ha) fun o ho zz2 => ?_; exact ⟨o, ho⟩
   ·refine zU (hX.live a ha) fun o ho => ?_
    exact ⟨o, old _ _ (k2 _ _ ho)⟩
  refine zgY (env := compEnvC csc cl C env) (Xf := C :: Dd :: (wr ++ X)) (ds := ds) (pre0 := []) (all := all) (x := x) (zlK elt i1 i2 x y px py csc pos (.ref Dd) (compEnvC csc cl C env)) (fun zz => True) (zd8 cf n K ρ csc x y elt i2) (ze8 _ _ _ _ _ _ _ _ _ _ _ _) W hst₁ hNT (fun b hb => (hfp b hb).2) (hfD _ (.inr rfl)) (hfD _ (.inl rfl)) hDC (by simp [compEnvC]) (.tail _ (.head _)) (fun b hb => by simp [hb]) xok4 (gs.ti ti) (lookup_relabel_local hx) (by simp [compEnvC, relabel, hkind]) ?_ hns₁ trivial (fun zz zz zz => trivial) hacc .nil hc ?_ ?_
  ·intro i v hi hPv
   refine zQ (hrd i v hi hPv) fun d h1 h2 => ?_
   refine ⟨d, h1, fun s' gb => h2.imp fun b o hb e => ?_⟩
   have nb : b ∉ C :: Dd :: wr := fun q => by
    simp only [List.mem_cons] at q
    rcases q with rfl | rfl | q
    ·rw [fC.1] at e; exact zA e
    ·rw [fD.1] at e; exact zA e
    ·rw [hwr b q] at e; exact zA e
   refine ⟨fun q => ?_, gb.heap b o (fun q => hb (hX.tabs b q)) nb (old _ _ (k2 _ _ e))⟩
   simp only [List.mem_cons, List.mem_append] at q nb
   rcases q with q | q | q | q
   ·exact nb (.inl q)
   ·exact nb (.inr (.inl q))
   ·exact nb (.inr (.inr q))
   ·exact hb q
  ·intro i d v s₆ m₆ pre ys n6 qs E' hd hqs gb ti6 ok6 hn6 hm6 _ hr6 hacc6 hl6 hlen6
   unfold zd8 at hqs
   injection eS hqs fun d2 hd2 hqs => ?_
   injection eS hqs fun es hes hqs => ?_
   refine wpAny_mono (zkg ok c (C := C) (Dd := Dd) (Xi := C :: Dd :: (wr ++ X)) hg hkind hcl hy hxy (fun a ha => by simp [ha]) Xf (fC.2 nC) (fD.2 nD) (.head _) (.tail _ (.head _)) hDC (toGr _ gb) ti6 ok6 hn6 hm6 hr6 hd2 hes hqs hacc6 hl6 (Nat.le_trans hlen6 (by exact hlen))) (fun zz s₇ h7 => ?_) fun zz zz e => e
   refine zcj h7 fun m7 ys7 n7 g7 a7 b7 c7 d7 => ?_
   exact ⟨m7, ys7, n7, g7, a7, trivial, c7, d7⟩
  ·intro s' m' ys n' gb hn _ hg' hl
   exact hRR _ _ s' m' ys n' (fD.2 nD) (fC.2 nC) hDC (toGr _ gb) hn hg' (hl.less fun b hb => by
    simp only [List.mem_cons] at hb
    simp only [List.mem_cons, List.mem_append]
    rcases hb with hb | hb | hb
    ·exact .inl hb
    ·exact .inr (.inl hb)
    ·exact .inr (.inr (.inr hb)))
 exact codeAny_compStart_list (hs4 _ rfl) (W.self 0 _ _ _ hst₁ (hs4 _ rfl))
end
end
section
section
variable {G : Gd} {k n : Nat} {cf : Cf} {A : Around} {X Xc Y : List Addr} {s : Shared} {env : Env} {K : Kn} {ρ : Rho}
theorem zhW (c : Cxt G k A X s env K ρ) {iter : Expr} {d : D} {ds : List D} (hi : Ev G A X s (eval iter env) d) (hd : zu d = some ds) {E : Value → Shared → Prop} {Q : Value → Shared → Prop}
  (hq : ∀ (s₁ s₂ : Shared) I fp wr, Gr G s s₂ → XOk G X s₁.heap → (∀ b o, b ∉ G.T → s.heap.get? b = some o → s₁.heap.get? b = some o) → (∀ b o, s₁.heap.get? b = some o → s₂.heap.get? b = some o) → Src G A X s₁.heap s₂.heap I fp wr ds → Q (.ref I) s₂) :
  wpAny (model G.prog G.w) A (eval iter env) (fun xv s₁ => wpAny (model G.prog G.w) A (pyIter xv) Q E s₁) E s := by
 refine hi.post fun v s₁ g₁ r => ?_
 have c₁ := c.gr g₁
 refine wpAny_mono (zbO c₁.room.hh c₁.xok c₁.cx.ti (r.rd' (fun l q => by subst q; exact zA hd)) hd E) (fun it s₂ h₂ => ?_) fun zz zz e => e
 refine za4 h₂ fun I' fp wr zz3 g₂ up S => ?_; subst zz3
 exact hq s₁ s₂ I' fp wr (g₁.trans g₂) c₁.xok g₁.heap up S
theorem zlx (ok : zZ G cf k) (c : Cxt G k A X s env K ρ) {ds all : List D} {elt i1 i2 : Expr} {x y : Str} {px py : Pos} {csc : Scope} {pos : Pos} {d1 : D}
  (hg : z8 csc.names K ρ x = true) (hkind : csc.kind = .function) (hy : csc.names.lookup y = some .local) (hxy : x ≠ y) (hi : evD cf n K ρ i1 = some d1) (hd : zu d1 = some ds)
  (hc : zdi (zd8 cf n K ρ csc x y elt i2) ds = some all) (hlen : all.length ≤ 1000) : Ev G A X s (eval (.ListComp elt [⟨.Name x px, i1, [], 0⟩, ⟨.Name y py, i2, [], 0⟩] csc pos) env) (.lst all) := by
 intro E
 refine zc1 (xP hg) fun h1 h2 h3 h4 => ?_
 refine zQ (zam csc c.env hg) fun cl hcl hlk => ?_
 rw [eval_ListComp]
 refine wpAny_comprehension_free (use := none) rfl (yi hi env) hcl hkind h2 (zhW c ((zt ok n).ev _ _ _ _ hi A X s env c) hd fun s₁ s₂ I fp wr g hX k0 k2 S => ?_)
 refine zeQ (RR := fun acc C => compPost (model G.prog G.w) A E none (fun v s' => Gr G s s' ∧ Rv G.C X s'.heap (.lst all) v) acc C) ok c hg hkind hlk hy hxy hc hlen g hX k0 k2 S ?_
 intro D C s' m' ys n hD hC hDC gs hn hgt hl
 have nD : D ∉ X := c.xok.none hD
 have gr : ∀ h', Heap.SameBut C s'.heap h' → Gr G s { s' with heap := h' } := fun h' hs' =>
  ⟨fun b o hb e => (hs'.2 b (fun q => by rw [q, hC] at e; exact zA e)).trans (gs.heap b o hb e), fun t => G.frame _ _ (gs.ti t) fun b o tk e => (hs'.2 b (fun q => by
   refine zQ (NT.dict hn) fun oC e1 e2 => ?_
   rw [q, e1] at e; cases e
   exact e2 tk)).trans e, gs.os, gs.bare⟩
 refine ⟨m', hn, fun h' hs' => ⟨gr h' hs', Rd.rv (Rd.lst' nD ((hs'.2 D hDC).trans hgt) ?_)⟩⟩
 exact hl.imp fun b o hb e => ⟨fun q => hb (by simp [q]), (hs'.2 b (fun q => hb (by simp [q]))).trans e⟩
theorem zdu {z : Str} {pz : Pos} {e : Expr} {gs : List Comprehension} {cs : Scope} {p : Pos} {l : Nat} {env : Env} (h : K.lookup z = some .local) (ek : zfd env K) (hl : (pz.line == p.line && !(cs.names.any fun q => q.1 == z && (q.2 == .local || q.2 == .cell))) = true) : swapsWith (.ListComp e gs cs p) (some (.Name z pz)) l env = pure true := by
 have hk : env.kindOf z = some .local := by unfold Env.kindOf; rw [ek.names]; exact h
 have hb : env.blockKind = .function := by unfold Env.blockKind; rw [ek.kind]; rfl
 unfold swapsWith
 simp only [hk, hb]
 show pure _ = pure true
 congr 1
theorem lstC {A : Around} {Xc Y : List Addr} {s s' : Shared} {env : Env} (c : StC G k A Xc Y s env K ρ) {Dd C : Addr} {ys : List Value} {n : Nat} {all : List D} (hD : s.heap.get? Dd = none) (hDC : Dd ≠ C) (gs : Gr G s s') (hgt : s'.heap.get? Dd = some (zW ys n)) (hl : RdL G.C (C :: Dd :: (Y ++ Xc)) s'.heap all ys) :
  Rd G.C (C :: (Y ++ Xc)) s'.heap (.lst all) (.ref Dd) := by
 refine Rd.lst' (fun q => ?_) hgt ?_
 ·rcases List.mem_cons.mp q with q | q
  ·exact hDC q
  ·exact c.xok.none hD q
 ·exact hl.imp fun b o hb e => ⟨fun q => hb (by rcases List.mem_cons.mp q with q | q <;> simp [q]), e⟩
theorem zgA (ok : zZ G cf k) {A : Around} {Xc Y : List Addr} {s : Shared} {env : Env} (c : StC G k A Xc Y s env K ρ) {z x : Str} {pz px pos spos : Pos} {elt iter : Expr} {ifs : List Expr} {csc : Scope} {d : D} {ds ys : List D} (hz : K.lookup z = some .local) (hl : (pz.line == pos.line && !(csc.names.any fun q => q.1 == z && (q.2 == .local || q.2 == .cell))) = true)
  (hg : z8 csc.names K ρ x = true) (hk : csc.kind = .function) (hi : Ev G A (Y ++ Xc) s (eval iter env) d) (hfold : ∀ v, foldedSetIterable iter env v = pure v) (hd : zu d = some ds)
  (hc : xQ (fun d => tsL cf n (yD csc.names K) ((x, d) :: ρ.filter fun q => xE csc.names q.1) ifs) (fun d => evD cf n (yD csc.names K) ((x, d) :: ρ.filter fun q => xE csc.names q.1) elt) ds = some ys) :
  ∀ E, wpAny (model G.prog G.w) A (exec (.Assign [.Name z pz] (.ListComp elt [⟨.Name x px, iter, ifs, 0⟩] csc pos) spos) env) (x4 G k A Xc env K Y s (.next (stD ρ z (.lst ys)))) E s := by
 intro E
 refine zc1 (xP hg) fun h1 h2 h3 h4 => ?_
 refine zQ (zam csc c.cxt.env hg) fun cl hcl hlk => ?_
 rw [exec_Assign_Name_used _ _ _ _ (zdu hz c.cxt.env.k hl)]
 refine wpAny_bind (wpAny_standAt (wpAny_bind ?_))
 show wpAny _ A (do let _ ← comprehension (.ListComp elt [⟨.Name x px, iter, ifs, 0⟩] csc pos) csc env _ (newList []) false (eval iter env) (some (assign (.Name z pz) env))) _ _ s
 refine wpAny_bind (wpAny_mono (wpAny_comprehension_free (use := some (assign (.Name z pz) env)) (Q := fun zz s' => x4 G k A Xc env K Y s (.next (stD ρ z (.lst ys))) .next s') rfl hfold hcl hk h2
  (zhW c.cxt hi hd fun s₁ s₂ I fp wr g hX k0 k2 S => ?_)) (fun zz s' hq => wpAny_pure (wpAny_pure hq)) fun zz zz e => e)
 refine zfL (RR := fun acc C => compPost (model G.prog G.w) A E (some (assign (.Name z pz) env)) (fun zz s' => x4 G k A Xc env K Y s (.next (stD ρ z (.lst ys))) .next s') acc C) _ _ hc c.cx.ti g hX k0 k2 S h1 hk h3 ?_ ?_ (zeM hd) ?_
 ·intro C Xi d' v s₃ m₃ b E' hC hXs hXi ht g ti hX hn hm hr
  exact (zt ok n).tl _ _ _ _ ht A Xi s₃ _ (za2 c.cxt hg hk hlk hXs hXi g ti hX hn hm hr) E'
 ·intro C Xi d' v s₃ m₃ y E' hC hXs hXi ht hy g ti hX hn hm hr
  exact (zt ok n).ev _ _ _ _ hy A Xi s₃ _ (za2 c.cxt hg hk hlk hXs hXi g ti hX hn hm hr) E'
 ·intro D C s' m' ys n hD hC hDC gs hn hgt hl
  show wpAny _ A (assign (.Name z pz) env (.ref D)) _ _ _
  exact wpAny_assign_Name (zd7 c gs hz hC hn (lstC c hD hDC gs hgt hl) (u := .none) (Q := fun zz s' => x4 G k A Xc env K Y s (.next _) .next s') fun s₂ t c₂ => ⟨Y, t, rfl, c₂⟩)
theorem zia (ok : zZ G cf k) {z x : Str} {pz px pos spos : Pos} {elt iter : Expr} {ifs : List Expr} {csc : Scope} {d : D} {ds ys : List D} (hz : K.lookup z = some .local) (hl : (pz.line == pos.line && !(csc.names.any fun q => q.1 == z && (q.2 == .local || q.2 == .cell))) = true)
  (hg : z8 csc.names K ρ x = true) (hk : csc.kind = .function) (hi : evD cf n K ρ iter = some d) (hd : zu d = some ds)
  (hc : xQ (fun d => tsL cf n (yD csc.names K) ((x, d) :: ρ.filter fun q => xE csc.names q.1) ifs) (fun d => evD cf n (yD csc.names K) ((x, d) :: ρ.filter fun q => xE csc.names q.1) elt) ds = some ys) :
  ExS G k K ρ (.Assign [.Name z pz] (.ListComp elt [⟨.Name x px, iter, ifs, 0⟩] csc pos) spos) (.next (stD ρ z (.lst ys))) :=
 fun A Xc Y s env c => zgA ok c hz hl hg hk ((zt ok n).ev _ _ _ _ hi A _ s env c.cxt) (yi hi env) hd hc
theorem zh6 (ok : zZ G cf k) {z x y : Str} {pz px py pos spos : Pos} {elt i1 i2 : Expr} {csc : Scope} {d1 : D} {ds all : List D} (hz : K.lookup z = some .local) (hl : (pz.line == pos.line && !(csc.names.any fun q => q.1 == z && (q.2 == .local || q.2 == .cell))) = true)
  (hg : z8 csc.names K ρ x = true) (hk : csc.kind = .function) (hy : csc.names.lookup y = some .local) (hxy : x ≠ y) (hi : evD cf n K ρ i1 = some d1) (hd : zu d1 = some ds)
  (hc : zdi (zd8 cf n K ρ csc x y elt i2) ds = some all) (hlen : all.length ≤ 1000) :
  ExS G k K ρ (.Assign [.Name z pz] (.ListComp elt [⟨.Name x px, i1, [], 0⟩, ⟨.Name y py, i2, [], 0⟩] csc pos) spos) (.next (stD ρ z (.lst all))) := by
 intro A Xc Y s env c E
 refine zc1 (xP hg) fun h1 h2 h3 h4 => ?_
 refine zQ (zam csc c.cxt.env hg) fun cl hcl hlk => ?_
 rw [exec_Assign_Name_used _ _ _ _ (zdu hz c.cxt.env.k hl)]
 refine wpAny_bind (wpAny_standAt (wpAny_bind ?_))
 show wpAny _ A (do let _ ← comprehension (.ListComp elt [⟨.Name x px, i1, [], 0⟩, ⟨.Name y py, i2, [], 0⟩] csc pos) csc env _ (newList []) false (eval i1 env) (some (assign (.Name z pz) env))) _ _ s
 refine wpAny_bind (wpAny_mono (wpAny_comprehension_free (use := some (assign (.Name z pz) env)) (Q := fun zz s' => x4 G k A Xc env K Y s (.next (stD ρ z (.lst all))) .next s') rfl (yi hi env) hcl hk h2
  (zhW c.cxt ((zt ok n).ev _ _ _ _ hi A _ s env c.cxt) hd fun s₁ s₂ I fp wr g hX k0 k2 S => ?_)) (fun zz s' hq => wpAny_pure (wpAny_pure hq)) fun zz zz e => e)
 refine zeQ (RR := fun acc C => compPost (model G.prog G.w) A E (some (assign (.Name z pz) env)) (fun zz s' => x4 G k A Xc env K Y s (.next (stD ρ z (.lst all))) .next s') acc C) ok c.cxt hg hk hlk hy hxy hc hlen g hX k0 k2 S ?_
 intro D C s' m' ys n hD hC hDC gs hn hgt hl
 show wpAny _ A (assign (.Name z pz) env (.ref D)) _ _ _
 exact wpAny_assign_Name (zd7 c gs hz hC hn (lstC c hD hDC gs hgt hl) (u := .none) (Q := fun zz s' => x4 G k A Xc env K Y s (.next _) .next s') fun s₂ t c₂ => ⟨Y, t, rfl, c₂⟩)
end
end
section
noncomputable def zkB : Nm → Option Str
 | none => none
 | some (a, b) => some (zc6 a b)
noncomputable def z7 (t : List (Int × Nm)) (i : Nat) : Nd := ((i : Int), zkB (t[i]?.getD (0, none)).2)
noncomputable def zfa (t : List (Int × Nm)) (r : List Nat) : D := .lst ((r.map (z7 t)).map ndD)
noncomputable def zbe (t : List (Int × Nm)) : D := zfa t (List.range t.length)
noncomputable abbrev zfb : Kn := [("row", .local), ("path", .local), ("nodes", .free), ("tree", .free), ("list", .globalImplicit), ("_prepare_tag", .globalImplicit)]
noncomputable abbrev kIn : Kn := [(".0", .local), ("node", .local), ("k", .local), ("_law_below", .globalImplicit), ("nodes", .free), ("tree", .free)]
noncomputable abbrev zhO (t : List (Int × Nm)) (r : List Nat) (p : Str) : Rho := [("row", zfa t r), ("path", .str p), ("nodes", zbe t), ("tree", xD t)]
theorem zjP {t : List (Int × Nm)} {n : Int} {j : Nat} (h : j ∈ ze t n) : j < t.length ∧ 0 < j := by
 unfold ze at h
 simp only [List.mem_map, List.mem_filter, List.mem_range] at h
 refine zQ h fun i zz1 zz2 => ?_; rcases zz1 with ⟨h1, _⟩; subst zz2
 lia
theorem zbT {α β : Type} {els : D → Option (List D)} {g : α → D} {h : α → List β} {q : β → D} : ∀ (l : List α), (∀ a ∈ l, els (g a) = some ((h a).map q)) → zdi els (l.map g) = some ((l.flatMap h).map q)
 | [], _ => rfl
 | a :: l, H => by
  rw [List.map_cons, zdi, H a (.head _)]
  rw [zbT l fun b hb => H b (.tail _ hb)]
  simp
theorem zgZ {α : Type} {f : D → Option D} {g q : α → D} (l : List α) (H : ∀ a ∈ l, f (g a) = some (q a) ∧ (q a).pure = true) : zdi (zit f) (l.map g) = some (l.map q) := by
 have := zbT (els := zit f) (g := g) (h := fun a => [a]) (q := q) l fun a ha => by
  unfold zit; rw [(H a ha).1]; dsimp only; rw [(H a ha).2]; rfl
 simpa using this
theorem zcd (t : List (Int × Nm)) (r : List Nat) : (r.map (z7 t)).map ndD = r.map fun i => ndD (z7 t i) := List.map_map
theorem zla {cf : Cf} {t : List (Int × Nm)} (hB : ∀ i : Int, cf.Φ 125 [xD t, .int i] = some (.lst ((ze t i).map fun (k : Nat) => .int (k : Int)))) (hG : cf.Γ "_law_below" = some (.opq 125)) {csc : Scope} (hn : csc.names = kIn) (ht : t.length ≤ 100) {r : List Nat} {p : Str} (i : Nat) {p1 p2 p3 p4 p5 p6 p7 p8 : Pos} :
  zd8 cf 8 zfb (zhO t r p) csc "node" "k" (.Subscript (.Name "nodes" p1) (.Name "k" p2) p3) (.Call (.Name "_law_below" p4) [.Name "tree" p5, .Attribute (.Name "node" p6) "root" p7] [] p8) (ndD (z7 t i)) = some ((ze t i).map fun j => ndD (z7 t j)) := by
 have bd : zK = 1000000 := rfl
 have hf : (zhO t r p).filter (fun q => xE csc.names q.1) = ([("nodes", zbe t), ("tree", xD t)] : Rho) := by rw [hn]; rfl
 have hk : yD csc.names zfb = kIn := by rw [hn]; rfl
 have hlen : (ze t i).length ≤ 100 := by
  unfold ze
  rw [List.length_map]
  refine Nat.le_trans (List.length_filter_le _ _) ?_
  rw [List.length_range]; lia
 have e2 : evD cf 8 kIn [("node", ndD (z7 t i)), ("nodes", zbe t), ("tree", xD t)] (.Call (.Name "_law_below" p4) [.Name "tree" p5, .Attribute (.Name "node" p6) "root" p7] [] p8) = some (.lst ((ze t i).map fun (k : Nat) => .int (k : Int))) := by
  refine zq (n := 7) rfl (zV (n := 6) (by decide) rfl (by decide) hG) (zL (n := 6) (zH (n := 5) (by decide) rfl rfl) (zL (n := 5) (d := .int i) ?_ za)) rfl (hB i)
  have : evD cf 4 kIn [("node", ndD (z7 t i)), ("nodes", zbe t), ("tree", xD t)] (.Name "node" p6) = some (ndD (z7 t i)) := zH (n := 3) (by decide) rfl rfl
  rw [zkU, this]
  rfl
 unfold zd8
 rw [hf, hk, e2]
 dsimp only
 rw [xH (by rw [List.length_map]; lia)]
 refine zgZ _ fun j hj => ⟨?_, rfl⟩
 have hjl := (zjP hj).1
 rw [zeO]
 have e3 : evD cf 7 kIn [("k", .int (j : Int)), ("node", ndD (z7 t i)), ("nodes", zbe t), ("tree", xD t)] (.Name "nodes" p1) = some (zbe t) := zH (n := 6) (by decide) rfl rfl
 have e4 : evD cf 7 kIn [("k", .int (j : Int)), ("node", ndD (z7 t i)), ("nodes", zbe t), ("tree", xD t)] (.Name "k" p2) = some (.int (j : Int)) := zH (n := 6) (by decide) rfl rfl
 rw [e3, e4]
 dsimp only
 unfold zbe zfa
 rw [zcD (by simpa using hjl) (by simp; lia)]
 simp
noncomputable def zcV (t : List (Int × Nm)) (keep : Option Str → Bool) (r : List Nat) : List Nat := (r.flatMap fun (i : Nat) => ze t i).filter fun j => keep (z7 t j).2
inductive znX (body : Expr) : Prop
 | mk (a1 a2 a3 a4 a5 a6 a7 p1 p2 p3 p4 p5 p6 p7 p8 px py p9 cpos : Pos) (csc : Scope) (e : body = .Call (.Name "list" a1) [.Call (.Call (.Name "_prepare_tag" a2) [.Name "path" a3] [] a4) [.Constant .none 0 a5, .ListComp (.Subscript (.Name "nodes" p1) (.Name "k" p2) p3) [⟨.Name "node" px, .Name "row" p9, [], 0⟩, ⟨.Name "k" py, .Call (.Name "_law_below" p4) [.Name "tree" p5, .Attribute (.Name "node" p6) "root" p7] [] p8, [], 0⟩] csc cpos] [] a6] [] a7) (hn : csc.names = kIn) (hkd : csc.kind = .function) : znX body
structure zhS (params : Arguments) (scope : Scope) (body : Expr) : Prop where
 names : scope.names = zfb
 kind : scope.kind = .function
 co : scope.isCoroutine = false
 gen : scope.isGenerator = false
 bind : ∀ qual clos pm cv ctv a b, bindArgs (kla_fn "<lambda>" qual params body scope clos pm cv ctv) ⟨[a, b], []⟩ = pure [(("row" : Str), a), (("path" : Str), b)]
 shape : znX body
section
variable {G : Gd} {k : Nat} {cf : Cf} {A : Around} {X : List Addr} {s : Shared} {env : Env} {Kf : Frag} {C fI P : Addr} {t : List (Int × Nm)} {r : List Nat} {p : Str} {keep : Option Str → Bool}
theorem zj1 (PC : yS G k cf Kf C fI P) (hC : G.C = C) {o : Obj} {fd : FuncData} (fr : zn G 38 o fd (zM 2) (zE 2) ["tag"]) (hB : ∀ i : Int, cf.Φ 125 [xD t, .int i] = some (.lst ((ze t i).map fun (k : Nat) => .int (k : Int)))) (hG : cf.Γ "_law_below" = some (.opq 125)) (hL : cf.Γ "list" = some (.typ "list")) (hP : cf.Γ "_prepare_tag" = some (.opq 38)) (ht : t.length ≤ 100)
  (hw : ∀ i y, (z7 t i).2 = some y → 1 ≤ y.length ∧ y.length ≤ 1000) (hk : zac p = some keep) (hp : p.length ≤ 1000) (hr : r.length ≤ 1000) (hlen : (r.flatMap fun (i : Nat) => ze t i).length ≤ 1000)
  {params : Arguments} {scope : Scope} {body : Expr} (ID : zhS params scope body) (c : Cxt G (k + 1) A X s env zfb (zhO t r p)) : Ev G A X s (eval body env) (zfa t (zcV t keep r)) := by
 intro E
 obtain ⟨a1, a2, a3, a4, a5, a6, a7, p1, p2, p3, p4, p5, p6, p7, p8, px, py, p9, cpos, csc, rfl, hn, hkd⟩ := ID.shape
 have ok1 := PC.ok.le (Nat.le_succ k)
 refine PyProof.Rows.Call_ (zhQ ok1 (n := 1) (zV (n := 0) (by decide) rfl (by decide) hL) c fun s₁ g₁ => ?_)
 have c₁ := c.gr g₁
 refine PyProof.Rows.callWith_type1 (args_cons ?_)
 refine PyProof.Rows.Call_ ?_
 refine zfN (n := 3) ok1 c₁ (zV (n := 2) (by decide) rfl (by decide) hP) fr.ho fr.hd (zL (n := 2) (zH (n := 1) (by decide) rfl rfl) za) fun s₂ vs g₂ r₂ => ?_
 refine w1 r₂ fun zz rv => ?_
 have c₂ := c₁.gr g₂
 refine wpAny_mono (zjZ PC fr hk hp c₂.room c₂.cx c₂.xok (rv.rd rfl)) (fun u s₃ h₃ => ?_) fun zz zz e => e
 refine x2 h₃ fun f zz1 g₃ R => ?_; subst zz1
 have c₃ := c₂.gr g₃
 have RR := R
 obtain ⟨qual, params', scope', clos, doc, pm, cv, ctv, pre, test, qx, qr, q1, q2, q3, q4, bpos, pos, d, T, h1, h2, h3, h4, IS, h6⟩ := R
 refine callWith_def (o := zdy (fnX "select" qual params' (za0 "elem" "result" qx qr pre test q1 q2 q3 q4 bpos) scope' clos .none .none doc pm none cv ctv)) rfl (args_cons ?_)
 refine ((zt ok1 1).ev _ _ _ _ (yN (n := 0)) A X s₃ env c₃).post fun nv s₄ g₄ r₄ => ?_
 have r4n : nv = .none := r₄.none
 subst r4n
 have c₄ := c₃.gr g₄
 have hk1 : yD csc.names zfb = kIn := by rw [hn]; rfl
 have hgc : z8 csc.names zfb (zhO t r p) ("node" : Str) = true := by rw [hn]; rfl
 have hx1 : csc.names.lookup ("k" : Str) = some .local := by rw [hn]; decide
 have bd : zK = 1000000 := rfl
 have hrow : evD cf 8 zfb (zhO t r p) (.Name "row" p9) = some (zfa t r) := zH (n := 7) (by decide) rfl rfl
 have hit : zu (zfa t r) = some (r.map fun i => ndD (z7 t i)) := by unfold zfa; rw [xH (by simp; lia), zcd]
 have hcat := zbT (els := zd8 cf 8 zfb (zhO t r p) csc "node" "k" (.Subscript (.Name "nodes" p1) (.Name "k" p2) p3) (.Call (.Name "_law_below" p4) [.Name "tree" p5, .Attribute (.Name "node" p6) "root" p7] [] p8)) (g := fun i => ndD (z7 t i)) (h := fun (i : Nat) => ze t i) (q := fun j => ndD (z7 t j)) r fun i zz => zla hB hG hn ht i
 refine args_cons ?_
 refine (zlx (px := px) (py := py) (pos := cpos) ok1 c₄ hgc hkd hx1 (by decide) hrow hit hcat (by rw [List.length_map]; exact hlen)).post fun lv s₅ g₅ r₅ => ?_
 have c₅ := c₄.gr g₅
 have g35 := g₄.trans g₅
 refine args_nil ⟨g35.heap _ _ h1 h2, ?_⟩
 have rl : Rd G.C X s₅.heap (.lst (((r.flatMap fun (i : Nat) => ze t i).map (z7 t)).map ndD)) lv := by rw [zcd]; exact r₅.rd rfl
 have rm := c.room
 refine zmZ hC (RR.gr c₃.cx.ti g35) rm.hh (by have := rm.depth; lia) c₅.cx c₅.xok rl (by rw [List.length_map]; exact hlen) (fun q hq y hy => ?_) fun gv s₆ g₆ cont => ?_
 ·refine zQ (List.mem_map.mp hq) fun i zz1 zz2 => ?_; subst zz2
  exact hw i y hy
 ·refine args_nil (cont rm.hh (by have := rm.depth; lia) fun u s₇ g₇ r₇ => ?_)
  refine ⟨(((((g₁.trans g₂).trans g₃).trans g₄).trans g₅)).trans g₇, Rd.rv ?_⟩
  have e : zfa t (zcV t keep r) = .lst ((((r.flatMap fun (i : Nat) => ze t i).map (z7 t)).filter fun q => keep q.2).map ndD) := by
   rw [List.filter_map]
   rfl
  rw [e]; exact r₇
end
end
section
inductive xW (G : Gd) (X : List Addr) (h : Heap) (f : Addr) (t : List (Int × Nm)) : Prop
 | mk (qual : Str) (params : Arguments) (body : Expr) (scope : Scope) (clos : List (Str × Addr)) (pm cv ctv v1 v2 : Value) (c1 c2 : Addr) (h1 : zhS params scope body) (h2 : f ∉ G.T) (h3 : h.get? f = some (zdy (kla_fn "<lambda>" qual params body scope clos pm cv ctv))) (h4 : h.CodeRec cv qual) (h5 : (∀ a, cv = .ref a → a ∉ G.T)) (h6 : clos.lookup ("nodes" : Str) = some c1) (h7 : clos.lookup ("tree" : Str) = some c2) (h8 : c1 ∉ G.T) (h9 : c2 ∉ G.T) (h10 : h.IsCell c1 (some v1)) (h11 : h.IsCell c2 (some v2)) (h12 : Rd G.C X h (zbe t) v1) (h13 : Rd G.C X h (xD t) v2) : xW G X h f t
section
variable {G : Gd} {k : Nat} {cf : Cf} {A : Around} {X X' : List Addr} {s s' : Shared} {f : Addr} {Kf : Frag} {C fI P : Addr} {t : List (Int × Nm)} {r : List Nat} {p : Str} {keep : Option Str → Bool}
theorem xW.gr (R : xW G X s.heap f t) (hX : ∀ a ∈ G.T, a ∈ X) (g : Gr G s s') : xW G X s'.heap f t := by
 obtain ⟨qual, params, body, scope, clos, pm, cv, ctv, v1, v2, c1, c2, ID, h1, h2, h3, h4, h5, h6, h7, h8, h9, h10, h11, h12⟩ := R
 refine ⟨qual, params, body, scope, clos, pm, cv, ctv, v1, v2, c1, c2, ID, h1, g.heap _ _ h1 h2, ?_, h4, h5, h6, h7, h8, IsCell.at' h9 fun o e => g.heap _ _ h7 e, IsCell.at' h10 fun o e => g.heap _ _ h8 e, h11.gr hX g, h12.gr hX g⟩
 refine zbX h3 fun c oc vs tq zz4 hoc r => ?_; subst zz4
 exact ⟨c, oc, vs, tq, rfl, g.heap _ _ (h4 c rfl) hoc, r⟩
theorem xW.lift {h : Heap} (R : xW G X h f t) (hX : ∀ b ∈ X', b ∈ X ∨ h.get? b = none) : xW G X' h f t := by
 obtain ⟨qual, params, body, scope, clos, pm, cv, ctv, v1, v2, c1, c2, ID, h1, h2, h3, h4, h5, h6, h7, h8, h9, h10, h11, h12⟩ := R
 exact ⟨qual, params, body, scope, clos, pm, cv, ctv, v1, v2, c1, c2, ID, h1, h2, h3, h4, h5, h6, h7, h8, h9, h10, h11.lift hX fun b o zz e => e, h12.lift hX fun b o zz e => e⟩
theorem zjA (PC : yS G k cf Kf C fI P) (hC : G.C = C) {o : Obj} {fd : FuncData} (fr : zn G 38 o fd (zM 2) (zE 2) ["tag"]) (hB : ∀ i : Int, cf.Φ 125 [xD t, .int i] = some (.lst ((ze t i).map fun (k : Nat) => .int (k : Int)))) (hG : cf.Γ "_law_below" = some (.opq 125)) (hL : cf.Γ "list" = some (.typ "list")) (hP : cf.Γ "_prepare_tag" = some (.opq 38)) (ht : t.length ≤ 100)
  (hw : ∀ i y, (z7 t i).2 = some y → 1 ≤ y.length ∧ y.length ≤ 1000) (hk : zac p = some keep) (hp : p.length ≤ 1000) (hr : r.length ≤ 1000) (hlen : (r.flatMap fun (i : Nat) => ze t i).length ≤ 1000)
  (R : xW G X s.heap f t) (room : zby (k + 2) A) (cx : Cx G s.heap) (xok : XOk G X s.heap) {a b : Value} (ra : Rd G.C X s.heap (zfa t r) a) (rb : Rd G.C X s.heap (.str p) b) {E : Value → Shared → Prop} :
  wpAny (model G.prog G.w) A (call (.ref f) [a, b]) (fun u s' => Gr G s s' ∧ Rd G.C X s'.heap (zfa t (zcV t keep r)) u) E s := by
 obtain ⟨qual, params, body, scope, clos, pm, cv, ctv, v1, v2, c1, c2, ID, h1, h2, h3, h4, h5, h6, h7, h8, h9, h10, h11, h12⟩ := R
 have hroom : A.depth < recursionLimit := by have := room.depth; lia
 refine wpAny_call (kla_callFunE hroom h2 rfl ID.co ID.gen rfl h3 ?_)
 rw [ID.bind]
 refine wpAny_pure (wpAny_newFunctionEnv (by rw [ID.names]; decide) (fun x hx => ?_) (fun h₁ hns hsb => ⟨(G.nolim.keeps cx.hb).fresh _ hsb, kla_codeExpr ?_⟩) ID.kind)
 ·rw [ID.names]
  simp only [List.mem_cons, List.not_mem_nil, or_false] at hx
  rcases hx with rfl | rfl <;> (dsimp only; decide)
 ·have keepH : ∀ b o, s.heap.get? b = some o → h₁.get? b = some o := fun b o e => hsb.extBut b o (Nat.ne_of_lt (Heap.lt_size e)) (Heap.get?_push_of_some _ e)
  dsimp only at hns ⊢
  generalize henv : newEnv scope s.heap.objs.size mainGlobals clos (qual ++ ".<locals>.") (some f) cv none builtinsNs = env
  have eL : env.locals = s.heap.objs.size := by rw [← henv]; rfl
  have eS : env.scope = scope := by rw [← henv]; rfl
  have eC : env.cells = clos := by rw [← henv]; rfl
  obtain ⟨s₁, hs₁⟩ : ∃ z : Shared, z = { s with heap := h₁, toks := s.toks + [(("row" : Str), a), (("path" : Str), b)].length } := ⟨_, rfl⟩
  have g : Gr G s s₁ := by rw [hs₁]; exact Gr.of keepH
  have e1 : s₁.heap = h₁ := by rw [hs₁]
  have c : Cxt G (k + 1) (A.deeper env) X s₁ env zfb (zhO t r p) := by
   refine ⟨⟨room.hh, ?_, ?_⟩, g.cx cx, xok.gr cx.ti g, ⟨⟨fun cc q => (by exact zA q), by rw [eS]; exact ID.names, by rw [eS]; exact ID.kind, by rw [← henv]; rfl, by rw [← henv]; rfl⟩, _, (fun zz => none), by rw [e1, eL]; exact hns, (fun x y b h => (by exact zA h)), fun x d hd => .inr ?_⟩⟩
   ·have := room.depth
    show A.depth + 1 + 2 * (k + 1) < recursionLimit
    lia
   ·have := room.units
    show A.units + 3 + 40 * (k + 1) + 100 < cLine
    lia
   ·have kof : ∀ x, env.kindOf x = zfb.lookup x := fun x => by unfold Env.kindOf; rw [eS, ID.names]
    have hm := mem_of_lookup hd
    simp only [List.mem_cons, List.not_mem_nil, or_false, Prod.mk.injEq] at hm
    have T : ∀ a ∈ G.T, a ∈ X := xok.tabs
    rcases hm with ⟨rfl, rfl⟩ | ⟨rfl, rfl⟩ | ⟨rfl, rfl⟩ | ⟨rfl, rfl⟩
    ·exact ⟨a, .inl ⟨(kof _).trans (by decide), rfl⟩, ra.gr T g⟩
    ·exact ⟨b, .inl ⟨(kof _).trans (by decide), rfl⟩, rb.gr T g⟩
    ·exact ⟨v1, .inr ⟨.inr ((kof _).trans (by decide)), c1, by rw [eC]; exact h5, IsCell.at' h9 fun o e => g.heap _ _ h7 e⟩, h11.gr T g⟩
    ·exact ⟨v2, .inr ⟨.inr ((kof _).trans (by decide)), c2, by rw [eC]; exact h6, IsCell.at' h10 fun o e => g.heap _ _ h8 e⟩, h12.gr T g⟩
  rw [← hs₁]
  refine (zj1 PC hC fr hB hG hL hP ht hw hk hp hr hlen ID c).post fun u s₂ g₂ r₂ => ?_
  exact ⟨g.trans g₂, r₂.rd rfl⟩
end
end
section
theorem zh8 : entryFor table "iter" = some Builtin.«iter» := entryFor_of_fast (by kernel_rfl)
theorem zj7 (a : Value) : argsOk "iter" ⟨[a], []⟩ := by kernel_rfl
theorem zhH {prog : Program} {w : World} {A : Around} {E : Value → Shared → Prop} {s : Shared} {l : Addr} {items : Array Value} {Q : Value → Shared → Prop} (hl : s.heap.IsList l items) (h : Q (.ref s.heap.objs.size) { s with heap := s.heap.push { cls := .type "list_iterator", data := .fields #[.ref l, .int 0 0] } }) :
  wpAny (model prog w) A (call (.builtin "iter") [.ref l]) Q E s := by
 refine call_function_entry (by decide +kernel) (by decide +kernel) zh8 (zj7 _) ?_
 refine wpAny_bind (m := someArgs "iter" 1 2 _) (wpAny_of_eq (a := [Value.ref l]) (by first | rfl | kernel_rfl!) ?_)
 show wpAny _ _ (pyIter (.ref l) >>= _) _ _ _
 exact wpAny_bind (wpAny_pyIter_list hl (wpAny_pure ⟨_, rfl, h⟩))
structure znP (G : Gd) (k : Nat) (f : Addr) (Rdy : List Addr → Heap → Prop) (rs : Nat → List D) (ps : List Str) : Prop where
 gr : ∀ {X : List Addr} {s s' : Shared}, Rdy X s.heap → (∀ a ∈ G.T, a ∈ X) → Gr G s s' → Rdy X s'.heap
 lift : ∀ {X X' : List Addr} {h : Heap}, Rdy X h → (∀ b ∈ X', b ∈ X ∨ h.get? b = none) → Rdy X' h
 fn : ∀ {X : List Addr} {h : Heap}, Rdy X h → ∃ o fd, h.get? f = some o ∧ o.data = .func fd ∧ f ∉ G.T
 call : ∀ (i : Nat) (hi : i < ps.length) (A : Around) (X : List Addr) (s : Shared) (a b : Value), Rdy X s.heap → zby k A → Cx G s.heap → XOk G X s.heap → Rd G.C X s.heap (.lst (rs i)) a → Rd G.C X s.heap (.str ps[i]) b → ∀ E, wpAny (model G.prog G.w) A (call (.ref f) [a, b]) (fun u s' => Gr G s s' ∧ Rd G.C X s'.heap (.lst (rs (i + 1))) u) E s
noncomputable abbrev k15 : Kn := [("function", .local), ("sequence", .local), ("initial", .local), ("it", .local), ("value", .local), ("element", .local), ("iter", .globalImplicit), ("_initial_missing", .globalImplicit), ("next", .globalImplicit), ("StopIteration", .globalImplicit), ("TypeError", .globalImplicit)]
theorem n15 : zE 15 = k15 := by rfl
noncomputable abbrev zfW (f : Addr) (ps : List Str) (r0 : List D) (it v e : D) : Rho := [("function", .opq f), ("sequence", .lst (ps.map .str)), ("initial", .lst r0), ("it", it), ("value", v), ("element", e)]
section
variable {G : Gd} {k : Nat} {cf : Cf} {A : Around} {X : List Addr} {s : Shared}
theorem zhl (ok : zZ G cf k) {o : Obj} {fd : FuncData} (fr : zn G 106 o fd (zM 15) (zE 15) ["function", "sequence", "initial"]) (hit : cf.Γ "iter" = some (.blt "iter")) (hmis : cf.Γ "_initial_missing" = some (.opq 98)) {o98 : Obj} (h98 : G.hb.get? 98 = some o98) (n98 : ∀ vs n, o98 ≠ zW vs n)
  {f : Addr} {Rdy : List Addr → Heap → Prop} {rs : Nat → List D} {ps : List Str} (SF : znP G k f Rdy rs ps) (room : zby (k + 1) A) (cx : Cx G s.heap) (xok : XOk G X s.heap) (R : Rdy X s.heap) {vs : List Value} (rv : RdL G.C X s.heap [.opq f, .lst (ps.map .str), .lst (rs 0)] vs) {E : Value → Shared → Prop} :
  wpAny (model G.prog G.w) A (call (.ref 106) vs) (fun u s' => Gr G s s' ∧ Rd G.C X s'.heap (.lst (rs ps.length)) u) E s := by
 refine wpAny_call (zg4 fr room cx xok rv rfl fun env Y s₀ g₀ fresh c => ?_)
 rw [n15] at c
 have c : StC G k (A.deeper env) X Y s₀ env k15 (zfW f ps (rs 0) .unb .unb .unb) := c
 generalize A.deeper env = A' at c ⊢
 change wpAny _ _ (execs [.Assign [.Name "it" _] (.Call (.Name "iter" _) [.Name "sequence" _] [] _) _, .If (.Compare (.Name "initial" _) [.Is] [.Name "_initial_missing" _] _) _ [.Assign [.Name "value" _] (.Name "initial" _) _] _, .For (.Name "element" _) (.Name "it" _) [.Assign [.Name "value" _] (.Call (.Name "function" _) [.Name "value" _, .Name "element" _] [] _) _] [] _, .Return (some (.Name "value" _)) _] _) _ _ _
 refine wpAny_mono (Q := x4 G k A' X env k15 Y s₀ (.ret (.lst (rs ps.length)))) ?_ (fun fl s' p => ?_) fun zz zz e => e
 rotate_left
 ·obtain ⟨Y', t, v, rfl, rd⟩ := p
  exact ⟨⟨fun b o hT e => t.grb.heap b o hT (fun q => by rw [fresh b q] at e; exact zA e) (g₀.heap b o hT e), fun z => t.grb.ti (g₀.ti z), t.grb.os.trans g₀.os, fun z => t.grb.bare (g₀.bare z)⟩, rd⟩
 refine zds fun Q₀ E₀ kQ₀ zz => ?_
 refine wpAny_execs_cons (wpAny_Assign_Name (zfK (n := 3) ok c.cxt (zV (n := 2) (by decide) rfl (by decide) hit) (zL (n := 2) (zH (n := 1) (by decide) rfl rfl) za) fun s₁ ws g₁ rw' => ?_) (by rfl))
 refine zds fun Q₁ E₁ kQ kE => ?_
 refine w1 rw' fun zz rw' => ?_
 have c₁ := c.gr g₁
 refine yI (rw'.list rfl) fun l xs n1 zz3 hl rl => ?_; subst zz3
 have lX : l ∉ Y ++ X := Rd.out rw'
 have il : s₁.heap.IsList l xs.toArray := ⟨_, hl, rfl, n1, rfl⟩
 refine zhH il ?_
 obtain ⟨I, hI⟩ : ∃ z : Addr, s₁.heap.objs.size = z := ⟨_, rfl⟩
 have nI : s₁.heap.get? I = none := hI ▸ zT (Nat.le_refl _)
 have up : ∀ b o, s₁.heap.get? b = some o → (s₁.heap.push { cls := .type "list_iterator", data := .fields #[.ref l, .int 0 0] }).get? b = some o := fun b o e => Heap.get?_push_of_some _ e
 have hIt : (s₁.heap.push { cls := .type "list_iterator", data := .fields #[.ref l, .int 0 0] }).IsListIter I l 0 := ⟨_, hI ▸ Heap.get?_push_size _ rfl, rfl, rfl⟩
 rw [hI]
 generalize s₁.heap.push { cls := .type "list_iterator", data := .fields #[.ref l, .int 0 0] } = h₂ at up hIt ⊢
 have lI : l ≠ I := fun q => by rw [q, nI] at hl; exact zA hl
 have W : Walks G.prog G.w A' I [I, l] [I] xs.toArray.size (fun i v => xs.toArray[i]? = some v) (fun i h => h.IsListIter I l i ∧ h.IsList l xs.toArray) := Walks.list c.room.hh I l lI xs.toArray
 obtain ⟨St, hSt⟩ : ∃ St : Nat → Heap → Prop, St = fun i h => h.IsListIter I l i ∧ h.IsList l xs.toArray := ⟨_, rfl⟩
 rw [← hSt] at W
 have hst0 : St 0 h₂ := by rw [hSt]; exact ⟨hIt, ⟨_, up _ _ hl, rfl, n1, rfl⟩⟩
 have hNT : ∀ i h', St i h' → ∀ b ∈ [I], NT h' b := by
  rw [hSt]
  rintro i h' ⟨⟨o4, a4, b4, c4⟩, _⟩ b hb
  simp only [List.mem_cons, List.not_mem_nil, or_false] at hb
  subst hb
  exact ⟨_, a4, zbj b4 c4 (by simp) (by simp)⟩
 have hwr : ∀ b ∈ [I], s₁.heap.get? b = none := fun b hb => by rw [List.mem_singleton.mp hb]; exact nI
 have hbw : ∀ b ∈ [I], G.hb.get? b = none := fun b q => by
  cases z : G.hb.get? b with
  | none => rfl
  | some o => have := c₁.cx.hb b o z; rw [hwr b q] at this; exact zA this
 have g₂ : Gr G s₁ { s₁ with heap := h₂ } := Gr.of (tk := s₁.toks) up
 have c₂ := c₁.into g₂ up hwr (hNT 0 _ hst0)
 obtain ⟨s₂, hs₂⟩ : ∃ t : Shared, t = { s₁ with heap := h₂ } := ⟨_, rfl⟩
 have h2s : s₂.heap = h₂ := by rw [hs₂]
 rw [← hs₂] at g₂ c₂ ⊢
 have t₂ : Stp G Y s₀ Y s₂ := (Stp.gr g₁).trans c.cx.ti (Stp.gr g₂)
 have nIT : I ∉ G.T := fun q => by refine zU (G.tabs _ c₁.cx.ti _ q) fun us e => ?_; rw [nI] at e; exact zA e
 have lT : l ∉ G.T := c₁.cx.notTab hl zv
 have fpT : ∀ b ∈ [I, l], b ∉ G.T := fun b hb => by
  simp only [List.mem_cons, List.not_mem_nil, or_false] at hb
  rcases hb with rfl | rfl
  ·exact nIT
  ·exact lT
 have nI0 : s₀.heap.get? I = none := by
  cases q : s₀.heap.get? I with
  | none => rfl
  | some o => have := g₁.heap _ _ nIT q; rw [nI] at this; exact zA this
 have fpY : ∀ b ∈ [I, l], ∀ Y' s', Stp G Y s₂ Y' s' → b ∉ Y' := fun b hb Y' s' t q => by
  simp only [List.mem_cons, List.not_mem_nil, or_false] at hb
  rcases t.new b q with z | z
  ·rcases hb with rfl | rfl
   ·refine zU (c₁.xok.live _ (List.mem_append_left _ z)) fun o e => ?_; rw [nI] at e; exact zA e
   ·exact lX (List.mem_append_left _ z)
  ·rw [h2s] at z
   rcases hb with rfl | rfl
   ·refine zQ hIt fun zz0 e zz2 => ?_; rw [z] at e; exact zA e
   ·rw [up _ _ hl] at z; exact zA z.symm
 have keepSt : ∀ {i Ya Yb sa sb}, Stp G Y s₂ Ya sa → Stp G Ya sa Yb sb → St i sa.heap → St i sb.heap := fun {i Ya Yb sa sb} ta t st => W.frame _ _ _ st fun b hb' o e => t.grb.heap b o (fpT b hb') (fpY b hb' _ _ ta) e
 refine kQ _ _ ?_
 refine xa c₂ (x := "it") (d := .opq I) (.inl (by decide)) Rd.opq' fun s₃ t₃ c₃ => ?_
 have c₃ : StC G k A' ([I] ++ X) Y s₃ env k15 (zfW f ps (rs 0) (.opq I) .unb .unb) := c₃
 have hst₃ : St 0 s₃.heap := keepSt Stp.refl t₃ (by rw [h2s]; exact hst0)
 refine wpAny_execs_cons (wpAny_If (wpAny_isTrue_Compare1 ?_ rfl))
 refine ((zt ok 2).ev _ _ _ (.lst (rs 0)) (zH (n := 1) (by decide) rfl rfl) _ _ s₃ env c₃.cxt).post fun va s₄ g₄ ra => ?_
 have c₄ := c₃.gr g₄
 refine zaO ok (n := 2) (zV (n := 1) (by decide) rfl (by decide) hmis) c₄.cxt fun s₅ g₅ => ?_
 have c₅ := c₄.gr g₅
 refine yI ((ra.gr c₄.xok.tabs c₄.cx g₅).list rfl) fun l0 xs0 n0 zz3 hl0 zz5 => ?_; subst zz3
 have e98 := c₅.cx.hb _ _ h98
 have hne : l0 ≠ 98 := fun q => by rw [q, e98] at hl0; exact n98 _ _ (Option.some.inj hl0)
 refine wpAny_is_ref_other hne hl0 e98 (by simp) (wpAny_truthy_bool ?_)
 rw [if_neg (by decide)]
 have t₅ : Stp G Y s₂ Y s₅ := t₃.trans c₂.cx.ti (Stp.gr (g₄.trans g₅))
 have hst₅ : St 0 s₅.heap := keepSt t₃ (Stp.gr (g₄.trans g₅)) hst₃
 refine ExS.andThen (xq (n := 2) ok (d := .lst (rs 0)) (by decide) (zH (n := 1) (by decide) rfl rfl) rfl fun env zz => rfl) c₅ fun Y₆ s₆ t₆ c₆ => ?_
 have c₆ : StC G k A' ([I] ++ X) Y₆ s₆ env k15 (zfW f ps (rs 0) (.opq I) (.lst (rs 0)) .unb) := c₆
 have t₆' := t₅.trans c₂.cx.ti t₆
 have hst₆ : St 0 s₆.heap := keepSt t₅ t₆ hst₅
 refine wpAny_execs_nil ?_
 have len : xs.toArray.size = ps.length := by rw [z5, rl.length, List.length_map]
 rw [len] at W
 have none0 : ∀ b, s₀.heap.get? b = none → b ∈ X ∨ s.heap.get? b = none := fun b hb => by
  by_cases hT : b ∈ G.T
  ·exact .inl (xok.tabs b hT)
  ·cases q : s.heap.get? b with
   | none => exact .inr rfl
   | some o => have := g₀.heap b o hT q; rw [hb] at this; exact zA this
 have gr0 : ∀ {Y' s'}, Stp G Y s₀ Y' s' → Gr G s s' := fun {Y' s'} t => ⟨fun b o hT e => t.grb.heap b o hT (fun q => by rw [fresh b q] at e; exact zA e) (g₀.heap b o hT e), fun z => t.grb.ti (g₀.ti z), t.grb.os.trans g₀.os, fun z => t.grb.bare (g₀.bare z)⟩
 have rdy : ∀ {Y' s'}, Stp G Y s₀ Y' s' → Rdy (Y' ++ ([I] ++ X)) s'.heap := fun {Y' s'} t => by
  refine SF.gr (SF.lift R fun b hb => ?_) (fun a ha => List.mem_append_right _ (List.mem_append_right _ (xok.tabs a ha))) (gr0 t)
  rcases List.mem_append.mp hb with q | q
  ·rcases t.new b q with z | z
   ·exact .inr (fresh b z)
   ·exact none0 b z
  ·rcases List.mem_append.mp q with q | q
   ·exact none0 b (by rw [List.mem_singleton.mp q]; exact nI0)
   ·exact .inl q
 refine wpAny_execs_cons (wpAny_For (zaO ok (n := 2) (zH (n := 1) (by decide) rfl rfl) c₆.cxt fun s₇ g₇ => ?_) fun zz => rfl)
 have c₇ := c₆.gr g₇
 have t₇ := t₆'.trans c₂.cx.ti (Stp.gr g₇)
 have hst₇ : St 0 s₇.heap := keepSt t₆' (Stp.gr g₇) hst₆
 refine W.self 0 _ _ _ hst₇ ?_
 refine zpq fun R kR => ?_
 have ti₂ := c₂.cx.ti
 have bk : ∀ {Y' s'}, Stp G ([I] ++ Y₆) s₇ ([I] ++ Y') s' → (∀ a ∈ Y₆, a ∈ Y') → (∀ a ∈ Y', a ∉ [I]) → Stp G Y s₀ Y' s' := fun tb hs hd => (Stp.gr g₁).trans c.cx.ti (Stp.back g₂ c₁.cx.ti (fun b o e => by rw [h2s]; exact up b o e) hwr (t₇.more.trans ti₂ tb) hd fun a ha => hs a (t₇.sub a ha))
 refine znR (zcL.of W hNT) (fun b hb => ⟨fpY b hb _ _ t₇, ?_, fpT b hb⟩) hbw (fun b hb q => ?_) xok.tabs c₇ hst₇ (fun i ρ' => ∃ e, ρ' = zfW f ps (rs 0) (.opq I) (.lst (rs i)) e ∧ (e = .unb ∨ ∃ x, e = .str x)) ⟨.unb, rfl, .inl rfl⟩ (fun i v Y' s' ρ' hlt hj hPv tb hs c' => ?_) fun Y' s' ρ' hj tb hs hd c' => ?_
 ·rw [hSt] at hst₇
  refine zk hst₇ fun q1 q2 => ?_
  simp only [List.mem_cons, List.not_mem_nil, or_false] at hb
  rcases hb with rfl | rfl
  ·exact q1.elim fun o h => ⟨o, h.1⟩
  ·exact q2.elim fun o h => ⟨o, h.1⟩
 ·refine zU (c₁.xok.live b (List.mem_append_right _ q)) fun o e => ?_
  rw [hwr b hb] at e; exact zA e
 ·refine zQ hj fun e zz1 he => ?_; subst zz1
  have hd' : ∀ a ∈ Y', a ∉ [I] := fun a ha q => c'.dis a ha (List.mem_append_left _ q)
  have b0 := bk tb hs hd'
  obtain ⟨u, hu, ru⟩ := rl.get (i := i) (d := .str ps[i]) (by rw [List.getElem?_map, List.getElem?_eq_getElem hlt]; rfl)
  have huv : u = v := Option.some.inj (hu.symm.trans (by simpa using hPv))
  refine zU ((Rd.rv ru).str) fun tk hv => ?_
  rw [← huv, hv]
  refine wpAny_assign_Name (xa c' (x := "element") (d := .str ps[i]) (.inl (by decide)) Rd.str' fun s₉ t₉ c₉ => ?_)
  have c₉ : StC G k A' ([I] ++ X) Y' s₉ env k15 (zfW f ps (rs 0) (.opq I) (.lst (rs i)) (.str ps[i])) := by
   rcases he with rfl | ⟨z, rfl⟩ <;> exact c₉
  refine wpAny_execs_cons (wpAny_Assign_Name (PyProof.Rows.Call_ (zaO ok (n := 2) (zH (n := 1) (by decide) rfl rfl) c₉.cxt fun sa ga => ?_)) (by rfl))
  have ca := c₉.gr ga
  have taa := b0.trans c.cx.ti (t₉.trans c'.cx.ti (Stp.gr ga))
  refine xf (SF.fn (rdy taa)) fun of fdf hof hdf nfT => ?_
  have ha : ∀ p17 p18, evL cf 4 k15 (zfW f ps (rs 0) (.opq I) (.lst (rs i)) (.str ps[i])) [.Name "value" p17, .Name "element" p18] = some [.lst (rs i), .str ps[i]] := fun zz zz => zL (n := 3) (zH (n := 2) (by decide) rfl rfl) (zL (n := 2) (zH (n := 1) (by decide) rfl rfl) za)
  refine callWith_def (o := of) (fd := fdf) hdf (wpAny_mono ((zt ok 4).ls _ _ _ _ (ha _ _) A' _ sa env _ ca.cxt _) (fun ws sb hb => ?_) fun zz zz e => e) (y4 (ha _ _) env)
  refine zk hb fun gb rb' => ?_
  obtain - | ⟨rb1, rb'⟩ := rb'
  obtain - | ⟨rb2, rb'⟩ := rb'
  obtain - | _ := rb'
  have cb := ca.gr gb
  refine ⟨gb.heap _ _ nfT hof, wpAny_mono (SF.call i hlt A' _ sb _ _ (rdy (taa.trans c.cx.ti (Stp.gr gb))) cb.room cb.cx cb.xok (rb1.rd rfl) (rb2.rd rfl) _) (fun u sc hc => ?_) fun zz zz e => e⟩
  refine zk hc fun gc rc => ?_
  have cc := cb.gr gc
  refine xa cc (x := "value") (d := .lst (rs (i + 1))) (.inl (by decide)) rc fun sd td cd => ?_
  exact wpAny_execs_nil ⟨Y', _, (t₉.trans c'.cx.ti (Stp.gr ((ga.trans gb).trans gc))).trans c'.cx.ti td, cd, .str ps[i], rfl, .inr ⟨_, rfl⟩⟩
 ·refine zQ hj fun e zz1 zz2 => ?_; subst zz1
  refine kR _ _ ?_
  refine zde (((zt ok 2).ev _ _ _ (.lst (rs ps.length)) (zH (n := 1) (by decide) rfl rfl) _ _ _ env c'.cxt).post fun u sz gz rz => ?_)
  exact kQ₀ _ _ ⟨Y', (bk tb hs hd).trans c.cx.ti (Stp.gr gz), u, rfl, (rz.rd rfl).less fun b hb => List.mem_append_right _ hb⟩
end
end
section
noncomputable def xR (i : Nat) : Stmt := match (zM 26)[i]? with | some s => s | none => .Break default
theorem b26 : zM 26 = [xR 0, xR 1, xR 2, xR 3, xR 4, xR 5, xR 6, xR 7, xR 8, xR 9, xR 10, xR 11, xR 12, xR 13] := by rfl
noncomputable abbrev k26 : Kn := [("script", .local), ("numbers", .local), ("total", .local), ("n", .local), ("steps", .cell), ("step", .local), ("paths", .local), ("down", .local), ("found", .local), ("pieces", .local), ("level", .local), ("taken", .local), ("way", .local), ("nodes", .cell), ("tree", .cell),
 ("sum", .globalImplicit), ("_law_tree", .globalImplicit), ("range", .globalImplicit), ("len", .globalImplicit), ("_law_steps", .globalImplicit), ("_law_way", .globalImplicit), ("reduce", .globalImplicit), ("_law_pieces", .globalImplicit), ("translate", .globalImplicit), ("_law_taken", .globalImplicit)]
theorem n26 : zE 26 = k26 := by rfl
noncomputable abbrev xC (a1 a2 a3 a4 a5 a6 a7 a8 a9 a10 a11 a12 a13 a14 a15 : D) : Rho := [("script", a1), ("numbers", a2), ("total", a3), ("n", a4), ("steps", a5), ("step", a6), ("paths", a7), ("down", a8), ("found", a9), ("pieces", a10), ("level", a11), ("taken", a12), ("way", a13), ("nodes", a14), ("tree", a15)]
noncomputable def yU (sc : List Int) : List Int := [0, 5, 21, 46] ++ sc.take 6
noncomputable def zio (sc : List Int) : Int := (sc.take 6).sum
noncomputable def zF (sc : List Int) : List (Int × Nm) := zdk (yU sc)
noncomputable def zhJ (sc : List Int) : Int := (yU sc).length - (zio sc).fmod (yU sc).length
noncomputable def zI (sc : List Int) : List Sp := yZ (z9 (zF sc) (zhJ sc).toNat) ((zio sc).fdiv (yU sc).length + 5)
noncomputable def gNm (x : Nm) : Prop := ∀ a b, x = some (a, b) → a ∈ spS ∧ b ∈ wdS
noncomputable def gSp (s : Sp) : Prop := (∀ a, s.1 = some a → a ∈ spS) ∧ (∀ b, s.2 = some b → b ∈ wdS) ∧ (s.1 = none ∨ s.2 = none)
structure yM (cf : Cf) (sc : List Int) : Prop where
 sum : cf.Γ "sum" = some (.blt "sum")
 len : cf.Γ "len" = some (.blt "len")
 range : cf.Γ "range" = some (.typ "range")
 list : cf.Γ "list" = some (.typ "list")
 iter : cf.Γ "iter" = some (.blt "iter")
 mis : cf.Γ "_initial_missing" = some (.opq 98)
 gtree : cf.Γ "_law_tree" = some (.opq 113)
 gway : cf.Γ "_law_way" = some (.opq 120)
 gbelow : cf.Γ "_law_below" = some (.opq 125)
 gnode : cf.Γ "_law_node" = some (.opq 132)
 gsteps : cf.Γ "_law_steps" = some (.opq 139)
 gtext : cf.Γ "_law_text" = some (.opq 144)
 gfits : cf.Γ "_law_fits" = some (.opq 151)
 gpieces : cf.Γ "_law_pieces" = some (.opq 158)
 gtaken : cf.Γ "_law_taken" = some (.opq 165)
 greduce : cf.Γ "reduce" = some (.opq 106)
 gtrans : cf.Γ "translate" = some (.opq 71)
 gprep : cf.Γ "_prepare_tag" = some (.opq 38)
 tree : cf.Φ 113 [.lst ((yU sc).map .int)] = some (xD (zF sc))
 way : ∀ n : Nat, n < (zF sc).length → cf.Φ 120 [xD (zF sc), .int n] = some (.lst ((z9 (zF sc) n).map nmD))
 below : ∀ n : Int, cf.Φ 125 [xD (zF sc), .int n] = some (.lst ((ze (zF sc) n).map fun (k : Nat) => .int (k : Int)))
 node : ∀ (i : Int) (nm : Nm), gNm nm → cf.Φ 132 [.int i, nmD nm] = some (ndD (i, zkB nm))
 steps : ∀ (l : List Nm) (d : Int), l.length ≤ 900 → cf.Φ 139 [.lst (l.map nmD), .int d] = some (.lst ((yZ l d).map zY))
 text : ∀ s q, gSp s → cf.Φ 144 [zY s, .bool q] = some (.str (xm q s))
 trans : cf.Φ 71 [.str (st ((z4 (zI sc)).flatMap zf))] = some (.str (st (xz (y0 (z4 (zI sc))))))
 pieces : cf.Φ 158 [.str (st (xz (y0 (z4 (zI sc)))))] = some (.lst (lsD (zy (z4 (zI sc)))))
 taken : ∀ (ps : List Str) (x : Str), 2 ≤ ps.length → ps.length ≤ 1000 → (∀ p ∈ ps, p.length ≤ zK) → x.length ≤ zK → cf.Φ 165 [.lst (ps.map .str), .str x] = some (.bool (zaa ps x))
 fits : ∀ (l : List Nm) (ss : List Sp), cf.Φ 151 [.lst (l.map nmD), .lst (ss.map zY)] = some (.bool (xG l ss))
theorem yl (sc : List Int) : 4 ≤ (yU sc).length ∧ (yU sc).length ≤ 10 := by
 unfold yU
 simp
 lia
theorem zc3 (ns : List Int) : zdG (ns.map .int) = some ns := by
 induction ns with
 | nil => rfl
 | cons a r ih => rw [List.map_cons, zdG, ih]; rfl
theorem zeA {cf : Cf} {n : Nat} {K : Kn} {ρ : Rho} {es : List Expr} {p : Pos} {ds : List D} (h : evL cf n K ρ es = some ds) (hp : (ds.all D.pure && Nat.ble ds.length zK) = true) : evD cf (n + 1) K ρ (.List es p) = some (.lst ds) := by
 rw [zoQ, h]; dsimp only; rw [hp]
theorem zdC {cf : Cf} {n : Nat} {K : Kn} {ρ : Rho} {v : Expr} {i : Int} {kk : Nat} {p q r : Pos} {ds : List D} (h : evD cf (n + 1) K ρ v = some (.lst ds)) (hb : ds.length ≤ zK) : evD cf (n + 2) K ρ (.Subscript v (.Slice none (some (.Constant (.int i) kk p)) none q) r) = some (.lst (z6 ds none (some i))) := by
 rw [zmN, h]; dsimp only; rw [zo5]; dsimp only; exact ze1 _ _ _ hb
theorem zkx {cf : Cf} {n : Nat} {K : Kn} {ρ : Rho} {v : Expr} {x : Str} {p q : Pos} {a b d : D} (h1 : evD cf n K ρ v = some a) (h2 : evD cf n K ρ (.Name x p) = some b) (h3 : x7 a b = some d) : evD cf (n + 1) K ρ (.Subscript v (.Name x p) q) = some d := by
 rw [zeO, h1]; dsimp only; rw [h2]; exact h3
theorem zhc {cf : Cf} {n : Nat} {K : Kn} {ρ : Rho} {x : Bool} {k : Nat} {p : Pos} : evD cf (n + 1) K ρ (.Constant (.bool x) k p) = some (.bool x) := rfl
theorem zij (cf : Cf) (mu : List Str) (n : Nat) (K : Kn) (ρ : Rho) (x px e gs c p pos) : exD cf mu (n + 1) K ρ (.Assign [.Name x px] (.ListComp e gs c p) pos) = (match zd K x with
  | true => (match K.lookup x with | some .cell => (match evD cf (n + 1) K ρ (.ListComp e gs c p) with | some d => (match d.pure with | true => some (.next (stD ρ x d)) | false => none) | none => none) | _ => none)
  | false => none) := rfl
section
variable {G : Gd} {k : Nat} {cf : Cf} {sc : List Int}
theorem law0 (L : yM cf sc) (ok : zZ G cf k) (hs : sc.length ≤ 63) : ExS G k k26 (xC (.lst (sc.map .int)) .unb .unb .unb .unb .unb .unb .unb .unb .unb .unb .unb .unb .unb .unb) (xR 0) (.next (xC (.lst (sc.map .int)) (.lst ((yU sc).map .int)) .unb .unb .unb .unb .unb .unb .unb .unb .unb .unb .unb .unb .unb)) := by
 have bd : zK = 1000000 := rfl
 change ExS _ _ _ _ (.Assign [.Name "numbers" _] (.BinOp (.List [.Constant (.int 0) 0 _, .Constant (.int 5) 0 _, .Constant (.int 21) 0 _, .Constant (.int 46) 0 _] _) .Add (.Subscript (.Name "script" _) (.Slice none (some (.Constant (.int 6) 0 _)) none _) _) _) _) _
 refine xq (n := 9) ok (d := .lst ((yU sc).map .int)) (by decide) ?_ rfl fun env zz => rfl
 refine yX (n := 8) (zeA (n := 7) (ds := [.int 0, .int 5, .int 21, .int 46]) rfl rfl) (zdC (n := 6) (zH (n := 6) (by decide) rfl rfl) (by rw [List.length_map]; lia)) ?_
 have e6 : z6 (sc.map D.int) none (some 6) = (sc.take 6).map .int := by
  unfold z6
  rw [List.map_take]
  simp [clipAt]
  lia
 rw [e6]
 exact zfO (xs := [D.int 0, .int 5, .int 21, .int 46]) (by simp; lia)
end
end
theorem zgM (x : Int) : gNm (zaT x) := by
 intro a b h
 unfold zaT at h
 split at h
 ·cases h
 ·simp only [Option.some.injEq, Prod.mk.injEq] at h
  refine zk h fun zz0 zz1 => ?_; subst zz0; subst zz1
  obtain ⟨i, hi, h1⟩ := za8 x 4 (by lia)
  obtain ⟨j, hj, h2⟩ := za8 (x.fdiv 4) 5 (by lia)
  have hi' : x.fmod 4 = (i : Int) := hi
  have hj' : (x.fdiv 4).fmod 5 = (j : Int) := hj
  rw [hi', hj']
  constructor
  ·have : i = 0 ∨ i = 1 ∨ i = 2 ∨ i = 3 := by lia
   rcases this with rfl | rfl | rfl | rfl <;> decide
  ·have : j = 0 ∨ j = 1 ∨ j = 2 ∨ j = 3 ∨ j = 4 := by lia
   rcases this with rfl | rfl | rfl | rfl | rfl <;> decide
structure zbC (t : List (Int × Nm)) : Prop where
 par : ∀ i, (h : i < t.length) → i ≠ 0 → ∃ p : Nat, t[i].1 = (p : Int) ∧ p < i
 pos : 0 < t.length
 good : ∀ p ∈ t, gNm p.2
theorem zis {t : List (Int × Nm)} (g : zbC t) (x : Int) : zbC (xb t x) ∧ (xb t x).length = t.length + 1 := by
 unfold xb
 refine ⟨⟨fun i h h0 => ?_, by simp, fun p hp => ?_⟩, by simp⟩
 ·rw [List.length_append] at h
  by_cases q : i < t.length
  ·rw [List.getElem_append_left q]; exact g.par i q h0
  ·have : i = t.length := by simp at h; lia
   subst this
   refine zQ (za8 (x.fdiv 20) t.length g.pos) fun p hp hl => ?_
   refine ⟨p, ?_, hl⟩
   simp [hp]
 ·rcases List.mem_append.mp hp with q | q
  ·exact g.good p q
  ·rw [List.mem_singleton.mp q]; exact zgM x
theorem ze4 : ∀ (ns : List Int) {t : List (Int × Nm)}, zbC t → zbC (ns.foldl xb t) ∧ (ns.foldl xb t).length = t.length + ns.length
 | [], t, g => ⟨g, rfl⟩
 | x :: r, t, g => by
  refine zk (zis g x) fun g' l' => ?_
  refine zk (ze4 r g') fun g2 l2 => ?_
  refine ⟨g2, ?_⟩
  rw [List.foldl_cons, l2, l', List.length_cons]; lia
theorem zn5 : zbC [(0, none)] := ⟨fun i h h0 => by simp at h; lia, by decide, fun p hp a b h => by rw [List.mem_singleton.mp hp] at h; exact zA h⟩
theorem zdl (ns : List Int) : zbC (zdk ns) ∧ (zdk ns).length = ns.length + 1 := by
 refine zk (ze4 ns zn5) fun a b => ?_
 refine ⟨a, ?_⟩
 unfold zdk; rw [b]; simp; lia
theorem zkc (ns : List Int) (h : ns.length ≤ 90) : Wft (zdk ns) := by
 refine zk (zdl ns) fun a b => ?_
 exact ⟨a.par, by lia, a.pos⟩
theorem zdT {t : List (Int × Nm)} (g : zbC t) (i : Nat) : gNm (t[i]?.getD (0, none)).2 := by
 by_cases h : i < t.length
 ·rw [List.getElem?_eq_getElem h]; exact g.good _ (List.getElem_mem h)
 ·rw [List.getElem?_eq_none (by lia)]; intro a b q; exact zA q
theorem zcA {t : List (Int × Nm)} (g : zbC t) : ∀ f n, ∀ x ∈ zbA t f n, gNm x
 | 0, n, x, h => by cases h
 | f + 1, n, x, h => by
  unfold zbA at h
  split at h
  ·cases h
  ·rcases List.mem_append.mp h with q | q
   ·exact zcA g f _ x q
   ·rw [List.mem_singleton.mp q]; exact zdT g n
theorem zef : ∀ (l : List Nm) (d : Int), (∀ x ∈ l, gNm x) → ∀ s ∈ yZ l d, gSp s
 | [], d, _, s, h => by cases h
 | x :: r, d, H, s, h => by
  rcases List.mem_cons.mp h with q | q
  ·subst q
   unfold zca
   cases x with
   | none => exact ⟨fun a h => (by exact zA h), fun b h => (by exact zA h), .inl rfl⟩
   | some p =>
    obtain ⟨a, b⟩ := p
    refine zk (H _ (.head _) a b rfl) fun h1 h2 => ?_
    dsimp only
    split
    ·exact ⟨fun a h => (by exact zA h), fun b h => (by exact zA h), .inl rfl⟩
    ·split
     ·exact ⟨fun a' h => (by cases h; exact h1), fun b h => (by exact zA h), .inr rfl⟩
     ·exact ⟨fun a h => (by exact zA h), fun b' h => (by cases h; exact h2), .inl rfl⟩
  ·exact zef r _ (fun y hy => H y (.tail _ hy)) s q
theorem zck : ∀ (l : List Nm) (d : Int), (yZ l d).length = l.length
 | [], d => rfl
 | x :: r, d => by rw [yZ, List.length_cons, zck r, List.length_cons]
theorem xd (sc : List Int) : zbC (zF sc) ∧ Wft (zF sc) ∧ (zF sc).length = (yU sc).length + 1 := by
 refine zk (zdl (yU sc)) fun a b => ?_
 have := yl sc
 exact ⟨a, zkc _ (by lia), b⟩
theorem zdr (sc : List Int) : ∃ n : Nat, zhJ sc = n ∧ n < (zF sc).length ∧ 0 < n := by
 refine xr (xd sc) fun zz0 zz1 l => ?_
 have h := yl sc
 obtain ⟨j, h1, h2⟩ := za8 (zio sc) (yU sc).length (by lia)
 unfold zhJ
 rw [h1]
 exact ⟨(yU sc).length - j, by lia, by lia, by lia⟩
theorem zoP {t : List (Int × Nm)} {n : Nat} (h : 0 < n) : z9 t n ≠ [] := by
 unfold z9
 have : xu = 999999 + 1 := rfl
 rw [this]
 unfold zbA
 rw [if_neg (by lia)]
 simp
theorem x3 (sc : List Int) : (∀ s ∈ zI sc, gSp s) ∧ (zI sc).length ≤ 11 ∧ zI sc ≠ [] := by
 refine x2 (zdr sc) fun n h1 h2 h3 => ?_
 refine xr (xd sc) fun g w l => ?_
 have hn := yl sc
 unfold zI
 rw [h1]
 refine ⟨zef _ _ (zcA g _ _), ?_, fun q => ?_⟩
 ·rw [zck]
  have := zeJ w h2
  simp only [Int.toNat_natCast]
  lia
 ·have : (yZ (z9 (zF sc) (↑n : Int).toNat) ((zio sc).fdiv ↑(yU sc).length + 5)).length = 0 := by rw [q]; rfl
  rw [zck] at this
  exact zoP h3 (List.length_eq_zero_iff.mp this)
section
noncomputable abbrev scD (sc : List Int) : D := .lst (sc.map .int)
noncomputable abbrev nuD (sc : List Int) : D := .lst ((yU sc).map .int)
noncomputable abbrev toD (sc : List Int) : D := .int (zio sc)
noncomputable abbrev trD (sc : List Int) : D := .lst ((zF sc).map zbb)
noncomputable abbrev noD (sc : List Int) : D := .lst (((List.range (zF sc).length).map (z7 (zF sc))).map ndD)
noncomputable abbrev zb (sc : List Int) : D := .lst ((zI sc).map zY)
noncomputable abbrev paD (sc : List Int) : D := .lst ((zI sc).map fun s => .str (xm false s))
theorem zay {α : Type} (l : List α) : l.filter (fun zz => true) = l := List.filter_eq_self.mpr fun zz zz => rfl
theorem zar (s : Sp) : (zY s).pure = true := by
 obtain ⟨a, b⟩ := s
 cases a <;> cases b <;> rfl
section
variable {G : Gd} {k : Nat} {cf : Cf} {sc : List Int}
theorem law1 (L : yM cf sc) (ok : zZ G cf k) (hs : sc.length ≤ 63) : ExS G k k26 (xC (scD sc) (nuD sc) .unb .unb .unb .unb .unb .unb .unb .unb .unb .unb .unb .unb .unb) (xR 1) (.next (xC (scD sc) (nuD sc) (toD sc) .unb .unb .unb .unb .unb .unb .unb .unb .unb .unb .unb .unb)) := by
 have bd : zK = 1000000 := rfl
 change ExS _ _ _ _ (.Assign [.Name "total" _] (.Call (.Name "sum" _) [.Subscript (.Name "script" _) (.Slice none (some (.Constant (.int 6) 0 _)) none _) _] [] _) _) _
 have e6 : z6 (sc.map D.int) none (some 6) = (sc.take 6).map .int := by
  unfold z6
  rw [List.map_take]
  simp [clipAt]
  lia
 refine xq (n := 9) ok (d := toD sc) (by decide) ?_ rfl fun env zz => rfl
 refine zq (n := 8) rfl (zV (n := 7) (by decide) rfl (by decide) L.sum) (zL (n := 7) (zdC (n := 5) (zH (n := 5) (by decide) rfl rfl) (by rw [List.length_map]; lia)) za) rfl ?_
 rw [e6]
 show zjC (.lst ((sc.take 6).map .int)) = _
 unfold zjC
 simp only [D.list?, zc3]
 rfl
theorem law2 (L : yM cf sc) (ok : zZ G cf k) : ExS G k k26 (xC (scD sc) (nuD sc) (toD sc) .unb .unb .unb .unb .unb .unb .unb .unb .unb .unb .unb .unb) (xR 2) (.next (xC (scD sc) (nuD sc) (toD sc) .unb .unb .unb .unb .unb .unb .unb .unb .unb .unb .unb (trD sc))) := by
 change ExS _ _ _ _ (.Assign [.Name "tree" _] (.Call (.Name "_law_tree" _) [.Name "numbers" _] [] _) _) _
 have h := yl sc
 refine xq (n := 9) ok (d := trD sc) (by decide) ?_ rfl fun env zz => rfl
 exact zq (n := 8) rfl (zV (n := 7) (by decide) rfl (by decide) L.gtree) (zL (n := 7) (zH (n := 6) (by decide) rfl rfl) za) rfl L.tree
theorem law3 (L : yM cf sc) (ok : zZ G cf k) : ExS G k k26 (xC (scD sc) (nuD sc) (toD sc) .unb .unb .unb .unb .unb .unb .unb .unb .unb .unb .unb (trD sc)) (xR 3) (.next (xC (scD sc) (nuD sc) (toD sc) .unb .unb .unb .unb .unb .unb .unb .unb .unb .unb (noD sc) (trD sc))) := by
 have bd : zK = 1000000 := rfl
 change ExS _ _ _ _ (.Assign [.Name "nodes" _] (.ListComp (.Call (.Name "_law_node" _) [.Name "n" _, .Subscript (.Subscript (.Name "tree" _) (.Name "n" _) _) (.Constant (.int 1) 0 _) _] [] _) [⟨.Name "n" _, .Call (.Name "range" _) [.Call (.Name "len" _) [.Name "tree" _] [] _] [] _, [], 0⟩] _ _) _) _
 refine xr (xd sc) fun g w l => ?_
 have hl := yl sc
 have hlen : (zF sc).length ≤ 100 := w.len
 refine (yY ok [] 13).1 _ _ _ _ ?_
 rw [zij]
 have hst : zd k26 "nodes" = true := by decide
 have hlk : k26.lookup ("nodes" : Str) = some .cell := by decide
 rw [hst, hlk]
 dsimp only
 rw [za5 cf (n := 12) (ds := (List.range (zF sc).length).map fun (i : Nat) => .int ((0 : Nat) + i)) (ys := ((List.range (zF sc).length).map (z7 (zF sc))).map ndD) (d := .rng (0 : Nat) (zF sc).length) ?_ ?_ ?_ ?_]
 ·rfl
 ·rfl
 ·refine zq (n := 11) rfl (zV (n := 10) (by decide) rfl (by decide) L.range) (zL (n := 10) (d := .int (zF sc).length) (zq (n := 9) rfl (zV (n := 8) (by decide) rfl (by decide) L.len) (zL (n := 8) (zH (n := 7) (by decide) rfl rfl) za) rfl ?_) za) rfl rfl
  rw [zfG, zcy _ (by rw [List.length_map]; lia), List.length_map]
 ·exact zfD (Nat.zero_le _) (by lia)
 ·dsimp only
  have hr : yD ([(".0", .local), ("n", .local), ("_law_node", .globalImplicit), ("tree", .free)] : Kn) k26 = ([(".0", .local), ("n", .local), ("_law_node", .globalImplicit), ("tree", .cell)] : Kn) := by rfl
  have hf : (xC (scD sc) (nuD sc) (toD sc) .unb .unb .unb .unb .unb .unb .unb .unb .unb .unb .unb (trD sc)).filter (fun q => xE ([(".0", .local), ("n", .local), ("_law_node", .globalImplicit), ("tree", .free)] : Kn) q.1) = ([("tree", trD sc)] : Rho) := by rfl
  rw [hr, hf]
  refine (x9 _ _ (fun (i : Nat) => .int ((0 : Nat) + i)) (fun zz => true) (fun i => ndD (z7 (zF sc) i)) (List.range (zF sc).length) (fun i zz => rfl) (fun i hi zz => ?_) fun i zz zz => rfl).trans ?_
  ·have hi' := List.mem_range.mp hi
   have e0 : (((0 : Nat) : Int) + (i : Int)) = (i : Int) := by lia
   rw [e0]
   refine zq (n := 11) rfl (zV (n := 10) (by decide) rfl (by decide) L.gnode) (zL (n := 10) (zH (n := 9) (by decide) rfl rfl) (zL (n := 9) (d := nmD ((zF sc)[i]?.getD (0, none)).2) (yn (n := 7) (a := zbb ((zF sc)[i]?.getD (0, none))) (zkx (n := 7) (zH (n := 6) (by decide) rfl rfl) (zH (n := 6) (by decide) rfl rfl) ?_) (zkM _)) za)) ?_ (L.node _ _ (zdT g i))
   ·have := zec hi' (by lia)
    rw [zk1] at this
    rw [this, List.getElem?_eq_getElem hi']
    rfl
   ·simp only [List.all_cons, List.all_nil, Bool.and_true, zbl]
    rw [zeI]; rfl
  ·rw [zay, List.map_map]; rfl
theorem law4 (L : yM cf sc) (ok : zZ G cf k) : ExS G k k26 (xC (scD sc) (nuD sc) (toD sc) .unb .unb .unb .unb .unb .unb .unb .unb .unb .unb (noD sc) (trD sc)) (xR 4) (.next (xC (scD sc) (nuD sc) (toD sc) .unb (zb sc) .unb .unb .unb .unb .unb .unb .unb .unb (noD sc) (trD sc))) := by
 have bd : zK = 1000000 := rfl
 change ExS _ _ _ _ (.Assign [.Name "steps" _] (.Call (.Name "_law_steps" _) [.Call (.Name "_law_way" _) [.Name "tree" _, .BinOp (.Call (.Name "len" _) [.Name "numbers" _] [] _) .Sub (.BinOp (.Name "total" _) .Mod (.Call (.Name "len" _) [.Name "numbers" _] [] _) _) _] [] _,
   .BinOp (.BinOp (.Name "total" _) .FloorDiv (.Call (.Name "len" _) [.Name "numbers" _] [] _) _) .Add (.Constant (.int 5) 0 _) _] [] _) _) _
 refine xr (xd sc) fun g w l => ?_
 refine x2 (zdr sc) fun n0 h1 h2 h3 => ?_
 have hl := yl sc
 have elen : ∀ m q1 q2 q3, evD cf (m + 4) k26 (xC (scD sc) (nuD sc) (toD sc) .unb .unb .unb .unb .unb .unb .unb .unb .unb .unb (noD sc) (trD sc)) (.Call (.Name "len" q1) [.Name "numbers" q2] [] q3) = some (.int (yU sc).length) := fun m q1 q2 q3 => by
  refine zq (n := m + 3) rfl (zV (n := m + 2) (by decide) rfl (by decide) L.len) (zL (n := m + 2) (zH (n := m + 1) (by decide) rfl rfl) za) rfl ?_
  rw [zfG, zcy _ (by rw [List.length_map]; lia), List.length_map]
 refine xq (n := 13) ok (d := zb sc) (by decide) ?_ rfl fun env zz => rfl
 have hw := zeJ w h2
 have hst : zI sc = yZ (z9 (zF sc) n0) ((zio sc).fdiv (yU sc).length + 5) := by
  unfold zI; rw [h1]; rfl
 unfold zb
 rw [hst]
 refine zq (n := 12) rfl (zV (n := 11) (by decide) rfl (by decide) L.gsteps) (zL (n := 11) (d := .lst ((z9 (zF sc) n0).map nmD)) ?_ (zL (n := 10) (d := .int ((zio sc).fdiv (yU sc).length + 5)) ?_ za)) rfl (L.steps _ _ (by lia))
 ·refine zq (n := 10) rfl (zV (n := 9) (by decide) rfl (by decide) L.gway) (zL (n := 9) (d := xD (zF sc)) (zH (n := 8) (by decide) rfl rfl) (zL (n := 8) (d := .int n0) ?_ za)) rfl (L.way _ h2)
  refine yX (n := 7) (elen 3 _ _ _) (yX (n := 6) (zH (n := 5) (by decide) rfl rfl) (elen 2 _ _ _) (zfA _ _ (by lia))) ?_
  rw [zoY]
  exact congrArg (fun z => some (D.int z)) h1
 ·refine yX (n := 9) (yX (n := 8) (zH (n := 7) (by decide) rfl rfl) (elen 4 _ _ _) (ziG _ _ (by lia) (by lia))) zaG rfl
theorem law5 (L : yM cf sc) (ok : zZ G cf k) : ExS G k k26 (xC (scD sc) (nuD sc) (toD sc) .unb (zb sc) .unb .unb .unb .unb .unb .unb .unb .unb (noD sc) (trD sc)) (xR 5) (.next (xC (scD sc) (nuD sc) (toD sc) .unb (zb sc) .unb (paD sc) .unb .unb .unb .unb .unb .unb (noD sc) (trD sc))) := by
 have bd : zK = 1000000 := rfl
 change ExS _ _ _ _ (.Assign [.Name "paths" _] (.ListComp (.Call (.Name "_law_text" _) [.Name "step" _, .Constant (.bool false) 0 _] [] _) [⟨.Name "step" _, .Name "steps" _, [], 0⟩] _ _) _) _
 refine xr (x3 sc) fun s1 s2 s3 => ?_
 refine zia (n := 9) ok (d := zb sc) (ds := (zI sc).map zY) (by decide) (by decide) (by rfl) rfl (zH (n := 8) (by decide) rfl rfl) (xH (by rw [List.length_map]; lia)) ?_
 have hr : yD ([(".0", .local), ("step", .local), ("_law_text", .globalImplicit)] : Kn) k26 = ([(".0", .local), ("step", .local), ("_law_text", .globalImplicit)] : Kn) := by rfl
 have hf : (xC (scD sc) (nuD sc) (toD sc) .unb (zb sc) .unb .unb .unb .unb .unb .unb .unb .unb (noD sc) (trD sc)).filter (fun q => xE ([(".0", .local), ("step", .local), ("_law_text", .globalImplicit)] : Kn) q.1) = ([] : Rho) := by rfl
 rw [hr, hf]
 refine (x9 _ _ zY (fun zz => true) (fun s => .str (xm false s)) (zI sc) (fun i zz => rfl) (fun s hs zz => ?_) fun i zz zz => rfl).trans ?_
 ·exact zq (n := 8) rfl (zV (n := 7) (by decide) rfl (by decide) L.gtext) (zL (n := 7) (zH (n := 6) (by decide) rfl (zar s)) (zL (n := 6) zhc za)) (by simp only [List.all_cons, List.all_nil, Bool.and_true, zbl]; rw [zar]; rfl) (L.text _ _ (s1 s hs))
 ·rw [zay]
end
end
section
theorem s6 : ∃ p1 params body scope lp p2, xR 6 = .Assign [.Name "down" p1] (.Lambda params body scope lp) p2 ∧ zhS params scope body ∧ (∀ env, defaultsOf params env = ([], [])) := by
 refine ⟨_, _, _, _, _, _, rfl, ⟨rfl, rfl, rfl, rfl, fun zz zz zz zz zz zz zz => rfl, ⟨_, _, _, _, _, _, _, _, _, _, _, _, _, _, _, _, _, _, _, _, rfl, rfl, rfl⟩⟩, fun zz => rfl⟩
theorem K169 : x5 k26 = some ((Value.ref 169, ("law.<locals>." : Str)) : Value × Str) := by rfl
noncomputable def xK (t : List (Int × Nm)) (ks : List (Option Str → Bool)) (i : Nat) : List Nat := (ks.take i).foldl (fun r kp => zcV t kp r) [0]
theorem zet (t : List (Int × Nm)) (ks : List (Option Str → Bool)) (i : Nat) (h : i < ks.length) : xK t ks (i + 1) = zcV t ks[i] (xK t ks i) := by
 unfold xK
 rw [List.take_succ_eq_append_getElem h, List.foldl_append]
 rfl
section
variable {G : Gd} {k : Nat} {cf : Cf} {sc : List Int} {A : Around} {Xc Y : List Addr} {s : Shared} {env : Env} {Kf : Frag} {C fI P Q : Addr}
theorem law6 (TG : zeG G 169 Q (("law.<locals>." : Str) ++ ("<lambda>" : Str))) (c : StC G k A Xc Y s env k26 (xC (scD sc) (nuD sc) (toD sc) .unb (zb sc) .unb (paD sc) .unb .unb .unb .unb .unb .unb (noD sc) (trD sc))) {E : Value → Shared → Prop} :
  wpAny (model G.prog G.w) A (exec (xR 6) env) (fun fl s' => ∃ f, fl = .next ∧ Stp G Y s Y s' ∧ StC G k A Xc Y s' env k26 (xC (scD sc) (nuD sc) (toD sc) .unb (zb sc) .unb (paD sc) (.opq f) .unb .unb .unb .unb .unb (noD sc) (trD sc)) ∧ xW G (Y ++ Xc) s'.heap f (zF sc)) E s := by
 refine e6_3 s6 fun p1 params body scope lp p2 e ID hdf => ?_
 rw [e]
 have hcell : ∀ p ∈ scope.names, p.2 = .free → ∃ c, env.cells.lookup p.1 = some c := fun p hp hf => by
  rw [ID.names] at hp
  simp only [List.mem_cons, List.not_mem_nil, or_false] at hp
  rcases hp with rfl | rfl | rfl | rfl | rfl | rfl <;> first | exact c.celX _ (by dsimp only; decide) | cases hf
 refine x2 (zax env scope.names [] hcell) fun cl e' h1 h2 => ?_
 have hclos : closureFor scope env = pure cl := by
  exact (congrArg (fun t => t >>= fun r => (pure r : Sem (List (Str × Addr)))) e').trans (pure_bind _ _)
 refine zk (c.cxt.env.k.code _ K169) fun hcode hqual => ?_
 refine wpAny_Assign_Name (kla_eval (hdf env) ?_) (by rfl)
 rw [hqual]
 refine zky TG c.cx hclos hcode c.cxt.env.k.glob fun f s₁ cv ctv g nf nT hf hcv => ?_
 have c₁ := c.gr g
 refine zcY c₁ (x := "down") (d := .opq f) (by decide) Rd.opq' fun s₂ t₂ sb c₂ => ?_
 have c₂ : StC G k A Xc Y s₂ env k26 (xC (scD sc) (nuD sc) (toD sc) .unb (zb sc) .unb (paD sc) (.opq f) .unb .unb .unb .unb .unb (noD sc) (trD sc)) := c₂
 have fl : f ≠ env.locals := fun q => by
  refine zU (c.xok.live _ (List.mem_append_left _ c.loc)) fun o ho => ?_
  rw [← q, nf] at ho; exact zA ho
 obtain ⟨k1, v1, b1, i1, n1, r1⟩ := zah c₂ (y := "nodes") (d := noD sc) (by decide) rfl rfl
 obtain ⟨k2, v2, b2, i2, n2, r2⟩ := zah c₂ (y := "tree") (d := trD sc) (by decide) rfl rfl
 have lk : ∀ y, scope.names.lookup y = some .free → cl.lookup y = env.cells.lookup y := fun y hy => h1 y ⟨(y, .free), mem_of_lookup hy, rfl, rfl⟩
 refine ⟨f, rfl, (Stp.gr g).trans c.cx.ti t₂, c₂, _, params, body, scope, cl, _, cv, ctv, v1, v2, k1, k2, ID, nT, SameBut.up sb fl hf, ?_, fun a q => TG.notT _ _ _ c₁.cx.ti (q ▸ hcv), (lk _ (by rw [ID.names]; decide)).trans b1, (lk _ (by rw [ID.names]; decide)).trans b2, n1, n2, i1, i2, r1, r2⟩
 refine zmv hcv fun a oc vs tq zz4 hoc hd hq => ?_; subst zz4
 refine ⟨a, oc, vs, tq, rfl, SameBut.up sb (fun q => ?_) hoc, hd, hq⟩
 subst q
 refine xl c₁.ex fun m W ea zz3 => ?_
 refine yI ea.ns fun o es ep e1 e2 zz5 => ?_
 rw [hoc] at e1; cases e1
 rw [hd] at e2; cases e2
structure zk3 (G : Gd) (k : Nat) (cf : Cf) (Kf : Frag) (C fI P : Addr) : Prop where
 PC : yS G k cf Kf C fI P
 hC : G.C = C
 r38 : ∃ o fd, zn G 38 o fd (zM 2) (zE 2) ["tag"]
 r106 : ∃ o fd, zn G 106 o fd (zM 15) (zE 15) ["function", "sequence", "initial"]
 m98 : ∃ o98 : Obj, G.hb.get? 98 = some o98 ∧ ∀ vs n, o98 ≠ zW vs n
theorem zmf {t : List (Int × Nm)} (g : zbC t) (i : Nat) (y : Str) (h : (z7 t i).2 = some y) : 1 ≤ y.length ∧ y.length ≤ 1000 := by
 unfold z7 at h
 have hg := zdT g i
 generalize (t[i]?.getD (0, none)).2 = nm at h hg
 cases nm with
 | none => exact zA h
 | some p =>
  obtain ⟨a, b⟩ := p
  refine zk (hg a b rfl) fun h1 h2 => ?_
  cases h
  have : ∀ a ∈ spS, ∀ b ∈ wdS, 1 ≤ (zc6 a b).length ∧ (zc6 a b).length ≤ 1000 := by decide +kernel
  exact this a h1 b h2
theorem zg1 (s : Sp) (h : gSp s) (q : Bool) : (xm q s).length ≤ 60 := by
 obtain ⟨a, b⟩ := s
 refine xr h fun h1 h2 zz2 => ?_
 have H1 : ∀ q, ∀ a ∈ spS, (xh q (some a)).length ≤ 20 := by decide +kernel
 have H2 : ∀ q, ∀ a ∈ wdS, (xh q (some a)).length ≤ 20 := by decide +kernel
 have H0 : ∀ q, (xh q none).length ≤ 20 := by decide +kernel
 have e1 : (xh q a).length ≤ 20 := by cases a with
  | none => exact H0 q
  | some a => exact H1 q a (h1 a rfl)
 have e2 : (xh q b).length ≤ 20 := by cases b with
  | none => exact H0 q
  | some a => exact H2 q a (h2 a rfl)
 show (((("{" : Str) ++ xh q a) ++ ("}" : Str)) ++ xh q b).length ≤ 60
 rw [strLen_append, strLen_append, strLen_append]
 have l1 : ("{" : Str).length = 1 := rfl
 have l2 : ("}" : Str).length = 1 := rfl
 lia
end
end
section
noncomputable def x6 (s : Sp) : Option Str → Bool := (zac (xm false s)).getD fun zz => false
noncomputable def x8 (sc : List Int) : List (Option Str → Bool) := (zI sc).map x6
theorem zjS (s : Sp) (h : gSp s) : zac (xm false s) = some (x6 s) := by
 have H : (zac (xm false s)).isSome = true := by
  obtain ⟨a, b⟩ := s
  refine xr h fun h1 h2 h3 => ?_
  have H1 : ∀ a ∈ spS, (zac (xm false (some a, none))).isSome = true := by decide +kernel
  have H2 : ∀ b ∈ wdS, (zac (xm false (none, some b))).isSome = true := by decide +kernel
  have H0 : (zac (xm false (none, none))).isSome = true := by decide +kernel
  cases a with
  | none => cases b with
   | none => exact H0
   | some b => exact H2 b (h2 b rfl)
  | some a => cases b with
   | none => exact H1 a (h1 a rfl)
   | some b => rcases h3 with h | h <;> exact zA h.symm
 unfold x6
 cases q : zac (xm false s) with
 | none => rw [q] at H; cases H
 | some z => rfl
section
variable {G : Gd} {k : Nat} {cf : Cf} {sc : List Int} {A : Around} {Xc Y : List Addr} {s : Shared} {env : Env} {Kf : Frag} {C fI P : Addr}
theorem zn8 (L : yM cf sc) (R : zk3 G k cf Kf C fI P) (hrow : ∀ i, (xK (zF sc) (x8 sc) i).length ≤ 100 ∧ ((xK (zF sc) (x8 sc) i).flatMap fun (i : Nat) => ze (zF sc) i).length ≤ 100) {f : Addr} (DR : xW G (Y ++ Xc) s.heap f (zF sc))
  (c : StC G (k + 3) A Xc Y s env k26 (xC (scD sc) (nuD sc) (toD sc) .unb (zb sc) .unb (paD sc) (.opq f) .unb .unb .unb .unb .unb (noD sc) (trD sc))) {E : Value → Shared → Prop} {p1 p2 p3 p4 p5 p6 p7 p8 p9 pa pb pc pg ph : Pos} {csc : Scope} (hn : csc.names = ([(".0", .local), ("node", .local)] : Kn)) (hk : csc.kind = .function) (hl : (p1.line == pg.line) = true) :
  wpAny (model G.prog G.w) A (exec (.Assign [.Name "found" p1] (.ListComp (.Attribute (.Name "node" p2) "root" p3) [⟨.Name "node" p4, .Call (.Name "reduce" p5) [.Name "down" p6, .Name "paths" p7, .List [.Subscript (.Name "nodes" p8) (.Constant (.int 0) 0 p9) pa] pb] [] pc, [], 0⟩] csc pg) ph) env) (x4 G (k + 3) A Xc env k26 Y s (.next (xC (scD sc) (nuD sc) (toD sc) .unb (zb sc) .unb (paD sc) (.opq f) (.lst ((xK (zF sc) (x8 sc) (zI sc).length).map fun (i : Nat) => .int (i : Int))) .unb .unb .unb .unb (noD sc) (trD sc)))) E s := by
 have bd : zK = 1000000 := rfl
 refine xr (x3 sc) fun s1 s2 s3 => ?_
 refine xr (xd sc) fun g w l => ?_
 have hlen : (zF sc).length ≤ 100 := w.len
 have ok3 := R.PC.ok.le (k' := k + 3) (by lia)
 have ok2 := R.PC.ok.le (k' := k + 2) (by lia)
 refine zaP R.r38 fun o38 fd38 r38 => ?_
 refine zaP R.r106 fun o106 fd106 r106 => ?_
 refine zQ R.m98 fun o98 h98 n98 => ?_
 have hB : ∀ i : Int, cf.Φ 125 [xD (zF sc), .int i] = some (.lst ((ze (zF sc) i).map fun (k : Nat) => .int (k : Int))) := fun i => L.below i
 have hkl : (x8 sc).length = (zI sc).length := by unfold x8; rw [List.length_map]
 have SF : znP G (k + 2) f (fun X h => xW G X h f (zF sc)) (fun i => ((xK (zF sc) (x8 sc) i).map (z7 (zF sc))).map ndD) ((zI sc).map (xm false)) := by
  refine ⟨fun R hX g => R.gr hX g, fun R hX => R.lift hX, fun {X h} R => ?_, fun i hi A X s a b DR' room cx xok ra rb E => ?_⟩
  ·obtain ⟨qual, params, body, scope, clos, pm, cv, ctv, v1, v2, c1, c2, ID, h1, h2, _⟩ := R
   exact ⟨_, _, h2, rfl, h1⟩
  ·rw [List.length_map] at hi
   have hi' : i < (x8 sc).length := by lia
   have ek : (x8 sc)[i] = x6 (zI sc)[i] := by simp [x8]
   have hmem := List.getElem_mem hi
   have := zg1 _ (s1 _ hmem) false
   refine zk (hrow i) fun h1 h2 => ?_
   rw [List.getElem_map] at rb
   refine wpAny_mono (zjA R.PC R.hC r38 hB L.gbelow L.list L.gprep hlen (zmf g) (zjS _ (s1 _ hmem)) (by lia) (by lia) (by lia) DR' room cx xok ra rb) (fun u s' h => ⟨h.1, ?_⟩) fun zz zz e => e
   have e1 := zet (zF sc) (x8 sc) i hi'
   rw [ek] at e1
   show Rd G.C X s'.heap (.lst (((xK (zF sc) (x8 sc) (i + 1)).map (z7 (zF sc))).map ndD)) u
   rw [e1]
   exact h.2
 refine zgA (n := 9) ok3 c (z := "found") (x := "node") (d := .lst (((xK (zF sc) (x8 sc) (zI sc).length).map (z7 (zF sc))).map ndD)) (ds := (xK (zF sc) (x8 sc) (zI sc).length).map fun i => ndD (z7 (zF sc) i)) (by decide) (by rw [hl, hn]; decide) (by rw [hn]; rfl) hk ?_ (fun zz => rfl) ?_ ?_ E
 ·intro E'
  have e0 : evD cf 6 k26 (xC (scD sc) (nuD sc) (toD sc) .unb (zb sc) .unb (paD sc) (.opq f) .unb .unb .unb .unb .unb (noD sc) (trD sc)) (.List [.Subscript (.Name "nodes" p8) (.Constant (.int 0) 0 p9) pa] pb) = some (.lst (((xK (zF sc) (x8 sc) 0).map (z7 (zF sc))).map ndD)) := by
   refine zeA (n := 5) (zL (n := 4) (d := ndD (z7 (zF sc) 0)) (yn (n := 2) (zH (n := 2) (by decide) rfl rfl) ?_) za) rfl
   have hz := zcD (ds := ((List.range (zF sc).length).map (z7 (zF sc))).map ndD) (n := 0) (by simpa using w.pos) (by simp; lia)
   exact hz.trans (congrArg some (by simp))
  have ha : evL cf 9 k26 (xC (scD sc) (nuD sc) (toD sc) .unb (zb sc) .unb (paD sc) (.opq f) .unb .unb .unb .unb .unb (noD sc) (trD sc)) [.Name "down" p6, .Name "paths" p7, .List [.Subscript (.Name "nodes" p8) (.Constant (.int 0) 0 p9) pa] pb] = some [.opq f, .lst (((zI sc).map (xm false)).map .str), .lst (((xK (zF sc) (x8 sc) 0).map (z7 (zF sc))).map ndD)] := by
   refine zL (n := 8) (zH (n := 7) (by decide) rfl rfl) (zL (n := 7) ?_ (zL (n := 6) e0 za))
   rw [List.map_map]
   exact zH (n := 6) (by decide) rfl rfl
  refine zfN (n := 9) ok3 c.cxt (zV (n := 8) (by decide) rfl (by decide) L.greduce) r106.ho r106.hd ha fun s₁ vs g₁ rv => ?_
  have c₁ := c.gr g₁
  refine wpAny_mono (zhl ok2 r106 L.iter L.mis h98 n98 SF c₁.room c₁.cx c₁.xok (DR.gr c.xok.tabs g₁) (yA rv rfl)) (fun u s₂ h => ⟨g₁.trans h.1, Rd.rv ?_⟩) fun zz zz e => e
  have := h.2
  rw [List.length_map] at this
  exact this
 ·rw [xH (by simp; have := (hrow (zI sc).length).1; lia), zcd]
 ·rw [hn]
  refine (x9 _ _ (fun i => ndD (z7 (zF sc) i)) (fun zz => true) (fun (i : Nat) => .int (i : Int)) _ (fun i zz => rfl) (fun i zz zz => ?_) fun i zz zz => rfl).trans ?_
  ·rw [zkU]
   rfl
  ·rw [zay]
theorem law7 (L : yM cf sc) (R : zk3 G k cf Kf C fI P) (hrow : ∀ i, (xK (zF sc) (x8 sc) i).length ≤ 100 ∧ ((xK (zF sc) (x8 sc) i).flatMap fun (i : Nat) => ze (zF sc) i).length ≤ 100) {f : Addr} (DR : xW G (Y ++ Xc) s.heap f (zF sc))
  (c : StC G (k + 3) A Xc Y s env k26 (xC (scD sc) (nuD sc) (toD sc) .unb (zb sc) .unb (paD sc) (.opq f) .unb .unb .unb .unb .unb (noD sc) (trD sc))) {E : Value → Shared → Prop} :
  wpAny (model G.prog G.w) A (exec (xR 7) env) (x4 G (k + 3) A Xc env k26 Y s (.next (xC (scD sc) (nuD sc) (toD sc) .unb (zb sc) .unb (paD sc) (.opq f) (.lst ((xK (zF sc) (x8 sc) (zI sc).length).map fun (i : Nat) => .int (i : Int))) .unb .unb .unb .unb (noD sc) (trD sc)))) E s := by
 apply zn8 <;> first | assumption | rfl | decide
end
end
section
theorem zdU : (∀ a ∈ spS, ∀ c ∈ a.cps.toList, c = 97 ∨ c = 98 ∨ c = 117 ∨ c = 42 ∨ c = 63 ∨ c = 91) ∧ (∀ b ∈ wdS, ∀ c ∈ b.cps.toList, c = 97 ∨ c = 98 ∨ c = 117 ∨ c = 42 ∨ c = 63 ∨ c = 91) := by decide +kernel
theorem zhD {s : Sp} (h : gSp s) : zdN s := ⟨fun x q => zdU.1 x (h.1 x q), fun x q => zdU.2 x (h.2.1 x q)⟩
theorem zoW {a b : Str} (h : gNm (some (a, b))) : zgS (a, b) := ⟨zdU.1 a (h a b rfl).1, zdU.2 b (h a b rfl).2⟩
theorem zfY {cf : Cf} {n : Nat} {K : Kn} {ρ : Rho} {x : Str} {kk : Nat} {p apos pos : Pos} {a : Expr} {xs : List Str} (hc : (apos.endLine == pos.line) = true) (ha : evD cf n K ρ a = some (.lst (xs.map .str))) (hb : z3 xs + xs.length * x.length ≤ zK) :
  evD cf (n + 2) K ρ (.Call (.Attribute (.Constant (.str x) kk p) "join" apos) [a] [] pos) = some (.str (Txt.join x xs)) := by
 have hn : ∃ m, n = m + 1 := by
  cases n with
  | zero => exact zA ha
  | succ m => exact ⟨m, rfl⟩
 refine zU hn fun m zz1 => ?_; subst zz1
 rw [zok]
 have h1 : (zgC (.Constant (.str x) kk p) && (apos.endLine == pos.line) && Nat.ble ([] : List Expr).length 20) = true := by rw [hc]; rfl
 rw [h1]
 dsimp only
 rw [zo6]
 rw [zL (n := m + 1) ha za]
 dsimp only
 have h2 : ([D.lst (xs.map .str)]).all (zbl (.blt "")) = true := rfl
 rw [h2]
 dsimp only
 rw [zjM, ziN x xs hb]
theorem zeu {xs : List Str} {m : Nat} (h : ∀ x ∈ xs, x.length ≤ m) : z3 xs ≤ xs.length * m := by
 induction xs with
 | nil => exact Nat.zero_le _
 | cons a r ih =>
  have h1 := h a (.head _)
  have h2 := ih fun x hx => h x (.tail _ hx)
  show a.length + z3 r ≤ (r.length + 1) * m
  rw [Nat.succ_mul]; lia
noncomputable def zlB (cf : Cf) (n : Nat) (K : Kn) (csc : Scope) (z x y : Str) (elt i1 i2 : Expr) (ρ : Rho) : Option Out := match z8 csc.names K ρ x with
 | true => (match evD cf n K ρ i1 with
  | some d => (match zu d with
   | some ds => (match zdi (zd8 cf n K ρ csc x y elt i2) ds with
    | some all => (match Nat.ble all.length 1000 with | true => some (.next (stD ρ z (.lst all))) | false => none)
    | none => none)
   | none => none)
  | none => none)
 | false => none
theorem ExS.one {G : Gd} {k : Nat} {K : Kn} {ρ ρ' : Rho} {st : Stmt} (h : ExS G k K ρ st (.next ρ')) : ExL G k K ρ [st] (.next ρ') := by
 intro A Xc Y s env c E
 refine wpAny_execs_cons (wpAny_mono (h A Xc Y s env c E) (fun f s₁ p => ?_) fun zz zz e => e)
 have p' := p
 refine x2 p fun Y₁ t zz2 c₁ => ?_; subst zz2
 exact wpAny_execs_nil p'
section
variable {G : Gd} {k : Nat} {cf : Cf} {sc : List Int}
theorem zmX (ok : zZ G cf k) {n : Nat} {K : Kn} {ρ : Rho} {z x y : Str} {pz px py pos spos : Pos} {elt i1 i2 : Expr} {csc : Scope} (hz : K.lookup z = some .local) (hl : (pz.line == pos.line && !(csc.names.any fun q => q.1 == z && (q.2 == .local || q.2 == .cell))) = true)
  (hk : csc.kind = .function) (hy : csc.names.lookup y = some .local) (hxy : x ≠ y) {o : Out} (h : zlB cf n K csc z x y elt i1 i2 ρ = some o) : ExL G k K ρ [.Assign [.Name z pz] (.ListComp elt [⟨.Name x px, i1, [], 0⟩, ⟨.Name y py, i2, [], 0⟩] csc pos) spos] o := by
 unfold zlB at h
 injection eT h fun hg h => ?_
 injection eS h fun d hi h => ?_
 injection eS h fun ds hd h => ?_
 injection eS h fun all hc h => ?_
 injection eT h fun hb h => ?_
 cases h
 exact ExS.one (zh6 ok hz hl hg hk hy hxy hi hd hc (Nat.le_of_ble_eq_true hb))
noncomputable abbrev foD (sc : List Int) : D := .lst ((xK (zF sc) (x8 sc) (zI sc).length).map fun (i : Nat) => .int (i : Int))
noncomputable abbrev pcD (sc : List Int) : D := .lst (lsD (zy (z4 (zI sc))))
noncomputable abbrev lvD (r : List Nat) : D := .lst (r.map fun (i : Nat) => .int (i : Int))
theorem law8 (L : yM cf sc) (ok : zZ G cf k) {f : Addr} : ExS G k k26 (xC (scD sc) (nuD sc) (toD sc) .unb (zb sc) .unb (paD sc) (.opq f) (foD sc) .unb .unb .unb .unb (noD sc) (trD sc)) (xR 8) (.next (xC (scD sc) (nuD sc) (toD sc) .unb (zb sc) .unb (paD sc) (.opq f) (foD sc) (pcD sc) .unb .unb .unb (noD sc) (trD sc))) := by
 have bd : zK = 1000000 := rfl
 change ExS _ _ _ _ (.Assign [.Name "pieces" _] (.Call (.Name "_law_pieces" _) [.Call (.Name "translate" _) [.Call (.Attribute (.Constant (.str "/") 0 _) "join" _) [.ListComp (.Call (.Name "_law_text" _) [.Name "step" _, .Constant (.bool true) 0 _] [] _) [⟨.Name "step" _, .Name "steps" _, [], 0⟩] _ _] [] _] [] _] [] _) _) _
 refine xr (x3 sc) fun s1 s2 s3 => ?_
 have hp := zjp (zI sc) fun s hs => zhD (s1 s hs)
 refine xq (n := 13) ok (d := pcD sc) (by decide) ?_ rfl fun env zz => rfl
 refine zq (n := 12) rfl (zV (n := 11) (by decide) rfl (by decide) L.gpieces) (zL (n := 11) ?_ za) rfl L.pieces
 refine zq (n := 10) rfl (zV (n := 9) (by decide) rfl (by decide) L.gtrans) (zL (n := 9) ?_ za) rfl L.trans
 rw [← hp]
 refine zfY (n := 7) (by decide) (xs := (zI sc).map (xm true)) ?_ ?_
 ·rw [List.map_map]
  refine za5 cf (n := 6) (d := zb sc) (ds := (zI sc).map zY) (by rfl) (zH (n := 5) (by decide) rfl rfl) (xH (by rw [List.length_map]; lia)) ?_
  have hr : yD ([(".0", .local), ("step", .local), ("_law_text", .globalImplicit)] : Kn) k26 = ([(".0", .local), ("step", .local), ("_law_text", .globalImplicit)] : Kn) := by rfl
  have hf : (xC (scD sc) (nuD sc) (toD sc) .unb (zb sc) .unb (paD sc) (.opq f) (foD sc) .unb .unb .unb .unb (noD sc) (trD sc)).filter (fun q => xE ([(".0", .local), ("step", .local), ("_law_text", .globalImplicit)] : Kn) q.1) = ([] : Rho) := by rfl
  rw [hr, hf]
  refine (x9 _ _ zY (fun zz => true) (fun s => .str (xm true s)) (zI sc) (fun i zz => rfl) (fun s hs zz => ?_) fun i zz zz => rfl).trans ?_
  ·exact zq (n := 5) rfl (zV (n := 4) (by decide) rfl (by decide) L.gtext) (zL (n := 4) (zH (n := 3) (by decide) rfl (zar s)) (zL (n := 3) zhc za)) (by simp only [List.all_cons, List.all_nil, Bool.and_true, zbl]; rw [zar]; rfl) (L.text _ _ (s1 s hs))
  ·rw [zay]; rfl
 ·have h1 : z3 ((zI sc).map (xm true)) ≤ ((zI sc).map (xm true)).length * 60 := zeu fun x hx => by
   refine zQ (List.mem_map.mp hx) fun s hs zz2 => ?_; subst zz2
   exact zg1 s (s1 s hs) true
  have h2 : ("/" : Str).length = 1 := rfl
  rw [h2]
  rw [List.length_map] at *
  lia
theorem law9 (ok : zZ G cf k) {f : Addr} : ExS G k k26 (xC (scD sc) (nuD sc) (toD sc) .unb (zb sc) .unb (paD sc) (.opq f) (foD sc) (pcD sc) .unb .unb .unb (noD sc) (trD sc)) (xR 9) (.next (xC (scD sc) (nuD sc) (toD sc) .unb (zb sc) .unb (paD sc) (.opq f) (foD sc) (pcD sc) (lvD [0]) .unb .unb (noD sc) (trD sc))) := by
 change ExS _ _ _ _ (.Assign [.Name "level" _] (.List [.Constant (.int 0) 0 _] _) _) _
 exact xq (n := 9) ok (d := lvD [0]) (by decide) (zeA (n := 8) (zL (n := 7) zaG za) rfl) rfl fun env zz => rfl
noncomputable def xF (t : List (Int × Nm)) (r : List Nat) : Nat → List Nat
 | 0 => r
 | i + 1 => xF t (r.flatMap fun (i : Nat) => ze t i) i
theorem zjK {t : List (Int × Nm)} (L : yM cf sc) (e0 : t = zF sc) {K : Kn} {ρ : Rho} {csc : Scope} (hn : csc.names = ([(".0", .local), ("n", .local), ("k", .local), ("_law_below", .globalImplicit), ("tree", .free)] : Kn)) (hf : ρ.filter (fun q => xE csc.names q.1) = ([("tree", xD t)] : Rho)) (hr : yD csc.names K = ([(".0", .local), ("n", .local), ("k", .local), ("_law_below", .globalImplicit), ("tree", .cell)] : Kn))
  (ht : t.length ≤ 100) (h0 : 0 < t.length) (i : Nat) {p2 p4 p5 p6 p7 : Pos} :
  zd8 cf 8 K ρ csc "n" "k" (.Name "k" p2) (.Call (.Name "_law_below" p4) [.Name "tree" p5, .Name "n" p6] [] p7) (.int (i : Int)) = some ((ze t i).map fun (j : Nat) => .int (j : Int)) := by
 have bd : zK = 1000000 := rfl
 have hlen : (ze t i).length ≤ 100 := by
  unfold ze
  rw [List.length_map]
  refine Nat.le_trans (List.length_filter_le _ _) ?_
  rw [List.length_range]; lia
 have e2 : evD cf 8 ([(".0", .local), ("n", .local), ("k", .local), ("_law_below", .globalImplicit), ("tree", .cell)] : Kn) [("n", .int (i : Int)), ("tree", xD t)] (.Call (.Name "_law_below" p4) [.Name "tree" p5, .Name "n" p6] [] p7) = some (.lst ((ze t i).map fun (k : Nat) => .int (k : Int))) :=
  zq (n := 7) rfl (zV (n := 6) (by decide) rfl (by decide) L.gbelow) (zL (n := 6) (zH (n := 5) (by decide) rfl rfl) (zL (n := 5) (zH (n := 4) (by decide) rfl rfl) za)) rfl (by subst e0; exact L.below i)
 unfold zd8
 rw [hf, hr, e2]
 dsimp only
 rw [xH (by rw [List.length_map]; lia)]
 exact zgZ _ fun j hj => ⟨zH (n := 7) (by decide) rfl rfl, rfl⟩
theorem zeD (L : yM cf sc) {f : Addr} {csc : Scope} (hn : csc.names = ([(".0", .local), ("n", .local), ("k", .local), ("_law_below", .globalImplicit), ("tree", .free)] : Kn)) {p2 p3 p4 p5 p6 p7 : Pos} (d12 d13 : D) (h12 : d12 = .unb) (h13 : d13 = .unb) : ∀ (ss : List Sp) (r : List Nat) (a6 : D), (a6 = .unb ∨ ∃ s, a6 = zY s) → (∀ i, (xF (zF sc) r i).length ≤ 100) →
  ∃ a6', zb0 (zlB cf 8 k26 csc "level" "n" "k" (.Name "k" p2) (.Name "level" p3) (.Call (.Name "_law_below" p4) [.Name "tree" p5, .Name "n" p6] [] p7)) "step" (ss.map zY) (xC (scD sc) (nuD sc) (toD sc) .unb (zb sc) a6 (paD sc) (.opq f) (foD sc) (pcD sc) (lvD r) d12 d13 (noD sc) (trD sc)) = some (.next (xC (scD sc) (nuD sc) (toD sc) .unb (zb sc) a6' (paD sc) (.opq f) (foD sc) (pcD sc) (lvD (xF (zF sc) r ss.length)) d12 d13 (noD sc) (trD sc))) ∧ (a6' = .unb ∨ ∃ s, a6' = zY s)
 | [], r, a6, h6, _ => ⟨a6, rfl, h6⟩
 | s :: ss, r, a6, h6, hb => by
  subst h12 h13
  have bd : zK = 1000000 := rfl
  refine xr (xd sc) fun g w l => ?_
  have h0 := hb 0
  have h1 := hb 1
  have hr0 : r.length ≤ 100 := h0
  have hr1 : (r.flatMap fun (i : Nat) => ze (zF sc) i).length ≤ 100 := h1
  refine zQ (zeD L (f := f) hn (p2 := p2) (p3 := p3) (p4 := p4) (p5 := p5) (p6 := p6) (p7 := p7) .unb .unb rfl rfl ss (r.flatMap fun (i : Nat) => ze (zF sc) i) (zY s) (.inr ⟨s, rfl⟩) (fun i => hb (i + 1))) fun a6' e q => ?_
  refine ⟨a6', ?_, q⟩
  rw [List.map_cons, zb0, zar]
  dsimp only
  have es : stD (xC (scD sc) (nuD sc) (toD sc) .unb (zb sc) a6 (paD sc) (.opq f) (foD sc) (pcD sc) (lvD r) .unb .unb (noD sc) (trD sc)) "step" (zY s) = xC (scD sc) (nuD sc) (toD sc) .unb (zb sc) (zY s) (paD sc) (.opq f) (foD sc) (pcD sc) (lvD r) .unb .unb (noD sc) (trD sc) := by
   rcases h6 with rfl | ⟨z, rfl⟩ <;> rfl
  rw [es]
  have hgc : z8 csc.names k26 (xC (scD sc) (nuD sc) (toD sc) .unb (zb sc) (zY s) (paD sc) (.opq f) (foD sc) (pcD sc) (lvD r) .unb .unb (noD sc) (trD sc)) ("n" : Str) = true := by rw [hn]; rfl
  have hex : zlB cf 8 k26 csc "level" "n" "k" (.Name "k" p2) (.Name "level" p3) (.Call (.Name "_law_below" p4) [.Name "tree" p5, .Name "n" p6] [] p7) (xC (scD sc) (nuD sc) (toD sc) .unb (zb sc) (zY s) (paD sc) (.opq f) (foD sc) (pcD sc) (lvD r) .unb .unb (noD sc) (trD sc)) =
    some (.next (xC (scD sc) (nuD sc) (toD sc) .unb (zb sc) (zY s) (paD sc) (.opq f) (foD sc) (pcD sc) (lvD (r.flatMap fun (i : Nat) => ze (zF sc) i)) .unb .unb (noD sc) (trD sc))) := by
   unfold zlB
   rw [hgc]
   rw [zH (n := 7) (d := lvD r) (by decide) rfl rfl]
   dsimp only
   rw [xH (by rw [List.length_map]; lia)]
   dsimp only
   rw [zbT r fun i zz => zjK (t := zF sc) L rfl hn (by rw [hn]; rfl) (by rw [hn]; rfl) w.len w.pos i]
   dsimp only
   rw [Nat.ble_eq_true_of_le (by rw [List.length_map]; lia)]
   rfl
  rw [hex]
  exact e
theorem zmR (L : yM cf sc) (ok : zZ G cf k) (hb : ∀ i, (xF (zF sc) [0] i).length ≤ 100) {f : Addr} {p1 p2 p3 p4 p5 p6 p7 p8 p9 pa pb pc pd pe : Pos} {csc : Scope} (hn : csc.names = ([(".0", .local), ("n", .local), ("k", .local), ("_law_below", .globalImplicit), ("tree", .free)] : Kn)) (hk : csc.kind = .function) (hl : (p9.line == pc.line) = true) : ∃ a6, (a6 = .unb ∨ ∃ s, a6 = zY s) ∧ ExS G k k26 (xC (scD sc) (nuD sc) (toD sc) .unb (zb sc) .unb (paD sc) (.opq f) (foD sc) (pcD sc) (lvD [0]) .unb .unb (noD sc) (trD sc)) (.For (.Name "step" p1) (.Name "steps" p8) [.Assign [.Name "level" p9] (.ListComp (.Name "k" p2) [⟨.Name "n" pa, .Name "level" p3, [], 0⟩, ⟨.Name "k" pb, .Call (.Name "_law_below" p4) [.Name "tree" p5, .Name "n" p6] [] p7, [], 0⟩] csc pc) pd] [] pe) (.next (xC (scD sc) (nuD sc) (toD sc) .unb (zb sc) a6 (paD sc) (.opq f) (foD sc) (pcD sc) (lvD (xF (zF sc) [0] (zI sc).length)) .unb .unb (noD sc) (trD sc))) := by
 have bd : zK = 1000000 := rfl
 refine xr (x3 sc) fun s1 s2 s3 => ?_
 refine zQ (zeD L (f := f) hn (p2 := p2) (p3 := p3) (p4 := p4) (p5 := p5) (p6 := p6) (p7 := p7) .unb .unb rfl rfl (zI sc) [0] .unb (.inl rfl) hb) fun a6 h q => ?_
 refine ⟨a6, q, ziv (n := 9) ok (by decide) (zH (n := 8) (by decide) rfl rfl) (xH (by rw [List.length_map]; lia)) _ (fun ρ o h => zmX ok (by decide) (by rw [hl, hn]; decide) hk (by rw [hn]; decide) (by decide) h) h⟩
theorem zpl (L : yM cf sc) (ok : zZ G cf k) (hb : ∀ i, (xF (zF sc) [0] i).length ≤ 100) {f : Addr} : ∃ a6, (a6 = .unb ∨ ∃ s, a6 = zY s) ∧ ExS G k k26 (xC (scD sc) (nuD sc) (toD sc) .unb (zb sc) .unb (paD sc) (.opq f) (foD sc) (pcD sc) (lvD [0]) .unb .unb (noD sc) (trD sc)) (xR 10) (.next (xC (scD sc) (nuD sc) (toD sc) .unb (zb sc) a6 (paD sc) (.opq f) (foD sc) (pcD sc) (lvD (xF (zF sc) [0] (zI sc).length)) .unb .unb (noD sc) (trD sc))) := by
 apply zmR <;> first | assumption | rfl | decide
end
end
section
noncomputable abbrev x1 (r : List Nat) : D := .own (r.map fun (i : Nat) => .int (i : Int))
noncomputable def zbc : List Nm → Option (List (Str × Str))
 | [] => some []
 | none :: _ => none
 | some p :: r => (match zbc r with | some l => some (p :: l) | none => none)
theorem zd2 : ∀ {l : List Nm} {ns : List (Str × Str)}, zbc l = some ns → l = ns.map some
 | [], ns, h => by cases h; rfl
 | none :: r, ns, h => by exact zA h
 | some p :: r, ns, h => by
  unfold zbc at h
  cases q : zbc r with
  | none => rw [q] at h; exact zA h
  | some l => rw [q] at h; cases h; rw [List.map_cons, zd2 q]
noncomputable def yx (ss : List Sp) (w : List Nm) : Bool := match zbc w with
 | none => false
 | some ns => zaa ((zy (z4 ss)).map st) (st (xL ns))
theorem zjr : ∀ (w : List Nm), yB .NotIn .none (.lst (w.map nmD)) = some (zbc w).isSome := by
 have key : ∀ (w : List Nm), zaM .none (w.map nmD) = some (!(zbc w).isSome) := by
  intro w
  induction w with
  | nil => rfl
  | cons x r ih =>
   cases x with
   | none => rw [List.map_cons, zaM]; simp only [nmD, zc2]; rw [ih]; simp [zbc]
   | some p =>
    obtain ⟨a, b⟩ := p
    rw [List.map_cons, zaM]; simp only [nmD, zc2]; rw [ih]
    have e : zbc (some (a, b) :: r) = (match zbc r with | some l => some ((a, b) :: l) | none => none) := rfl
    rw [e]
    cases zbc r <;> rfl
 intro w
 show (match inD .none (.lst (w.map nmD)) with | some c => some (!c) | none => none) = _
 have : inD .none (.lst (w.map nmD)) = zaM .none (w.map nmD) := rfl
 rw [this, key]
 simp
theorem zpf (cf : Cf) (mu : List Str) (n : Nat) (K : Kn) (ρ : Rho) {t : Expr} {b o : List Stmt} {pos : Pos} {c : Bool} {r : Option Out} (h : tsD cf n K ρ t = some c) (h' : exL cf mu n K ρ (if c then b else o) = r) : exD cf mu (n + 1) K ρ (.If t b o pos) = r := by
 rw [znT, h]; cases c <;> exact h'
theorem zlt (a b : List Nat) : yB .Eq (lvD a) (x1 b) = some (decide (a = b)) := by
 have e : ∀ a : List Nat, (a.map fun (i : Nat) => D.int (i : Int)) = (a.map fun (i : Nat) => (i : Int)).map .int := fun a => by rw [List.map_map]; rfl
 show two zdG (fun ns ms => some (decide (ns = ms))) (a.map fun (i : Nat) => D.int (i : Int)) (b.map fun (i : Nat) => D.int (i : Int)) = _
 unfold two
 rw [e a, e b, zc3, zc3]
 dsimp only
 congr 1
 refine decide_eq_decide.mpr ⟨fun h => ?_, fun h => by rw [h]⟩
 have := congrArg (List.map Int.toNat) h
 simpa [List.map_map, Function.comp_def] using this
theorem zon (a b : List Nat) : yB .Eq (lvD a) (lvD b) = some (decide (a = b)) := zlt a b
section
variable {G : Gd} {k : Nat} {cf : Cf} {sc : List Int}
noncomputable abbrev yJ (sc : List Int) (f : Addr) (n a6 : D) (lv : List Nat) (tk way : D) : Rho := xC (scD sc) (nuD sc) (toD sc) n (zb sc) a6 (paD sc) (.opq f) (foD sc) (pcD sc) (lvD lv) tk way (noD sc) (trD sc)
theorem zo3 (ok : zZ G cf k) {f : Addr} {a6 : D} (h6 : a6 = .unb ∨ ∃ s, a6 = zY s) {lv : List Nat} : ExS G k k26 (yJ sc f .unb a6 lv .unb .unb) (xR 11) (.next (yJ sc f .unb a6 lv (x1 []) .unb)) := by
 obtain ⟨p1, p3, p4, e⟩ : ∃ p1 p3 p4, xR 11 = .Assign [.Name "taken" p1] (.List [] p3) p4 := ⟨_, _, _, rfl⟩
 rw [e]
 have := znH (G := G) (k := k) (n := 9) (cf := cf) ok (x := "taken") (px := p1) (pos := p4) (p := p3) (K := k26) (ρ := yJ sc f .unb a6 lv .unb .unb) (es := []) (ds := []) (by decide) za rfl
 rcases h6 with rfl | ⟨z, rfl⟩ <;> exact this
theorem zmd (ps : List (List Nat)) : lsD ps = (ps.map st).map .str := by rw [List.map_map]; rfl
theorem zlE {w : List Nm} (h : ∀ x ∈ w, gNm x) {ns : List (Str × Str)} (e : w = ns.map some) : ∀ n ∈ ns, (zae n).length ≤ 60 ∧ n.1.length ≤ 20 ∧ n.2.length ≤ 20 := by
 intro n hn
 have H1 : ∀ a ∈ spS, a.length ≤ 20 := by decide +kernel
 have H2 : ∀ a ∈ wdS, a.length ≤ 20 := by decide +kernel
 obtain ⟨a, b⟩ := n
 obtain ⟨h1, h2⟩ := h (some (a, b)) (by rw [e]; exact List.mem_map_of_mem hn) a b rfl
 have g1 := H1 a h1
 have g2 := H2 b h2
 refine ⟨?_, g1, g2⟩
 show (((("{" : Str) ++ a) ++ ("}" : Str)) ++ b).length ≤ 60
 rw [strLen_append, strLen_append, strLen_append]
 have l1 : ("{" : Str).length = 1 := rfl
 have l2 : ("}" : Str).length = 1 := rfl
 lia
end
end
section
noncomputable abbrev zib (q1 q2 q3 q4 q5 q6 q7 q8 q9 qa qb : Pos) : Expr := .BinOp (.BinOp (.BinOp (.Constant (.str "{") 0 q1) .Add (.Subscript (.Name "name" q2) (.Constant (.int 0) 0 q3) q4) q5) .Add (.Constant (.str "}") 0 q6) q7) .Add (.Subscript (.Name "name" q8) (.Constant (.int 1) 0 q9) qa) qb
noncomputable abbrev zhU (p3 p4 p5 p6 p7 p8 p9 pa pb pc pd pe pf pg ph pi pj pk pl pm pn po pp pq pr q1 q2 q3 q4 q5 q6 q7 q8 q9 qa qb : Pos) (csc : Scope) : List Stmt := [.Assign [.Name "way" p3] (.Call (.Name "_law_way" p4) [.Name "tree" p5, .Name "n" p6] [] p7) p8, .If (.BoolOp .And [.Compare (.Constant .none 0 p9) [.NotIn] [.Name "way" pa] pb, .Call (.Name "_law_taken" pc) [.Name "pieces" pd, .Call (.Attribute (.Constant (.str "/") 0 pe) "join" pf) [.ListComp (zib q1 q2 q3 q4 q5 q6 q7 q8 q9 qa qb) [⟨.Name "name" pg, .Name "way" ph, [], 0⟩] csc pi] [] pj] [] pk] pl) [.Expr (.Call (.Attribute (.Name "taken" pm) "append" pn) [.Name "n" po] [] pp) pq] [] pr]
section
variable {G : Gd} {k : Nat} {cf : Cf} {sc : List Int}
theorem zkC {cf : Cf} {K : Kn} {n : Str × Str} (h1 : n.1.length ≤ 20) (h2 : n.2.length ≤ 20) {q1 q2 q3 q4 q5 q6 q7 q8 q9 qa qb : Pos} : evD cf 8 K [("name", nmD (some n))] (zib q1 q2 q3 q4 q5 q6 q7 q8 q9 qa qb) = some (.str (zae n)) := by
 have bd : zK = 1000000 := rfl
 have l1 : ("{" : Str).length = 1 := rfl
 have l2 : ("}" : Str).length = 1 := rfl
 obtain ⟨a, b⟩ := n
 refine yX (n := 7) (yX (n := 6) (yX (n := 5) yo (yn (n := 3) (zH (n := 3) (d := nmD (some (a, b))) (by decide) rfl rfl) (d := .str a) rfl) (za7 ?_)) yo (za7 ?_)) (yn (n := 5) (zH (n := 5) (d := nmD (some (a, b))) (by decide) rfl rfl) (d := .str b) rfl) (za7 ?_)
 ·dsimp only at h1; lia
 ·rw [strLen_append]; dsimp only at h1; lia
 ·rw [strLen_append, strLen_append]; dsimp only at h1 h2; lia
theorem zhI (L : yM cf sc) {f : Addr} {a6 : D} (h6 : a6 = .unb ∨ ∃ s, a6 = zY s) {lv ts : List Nat} (hts : ts.length ≤ 1000) {wy : D} (hw : wy = .unb ∨ ∃ w, wy = .lst w) {i : Nat} (hi : i < (zF sc).length) {p3 p4 p5 p6 p7 p8 p9 pa pb pc pd pe pf pg ph pi pj pk pl pm pn po pp pq pr q1 q2 q3 q4 q5 q6 q7 q8 q9 qa qb : Pos} {csc : Scope}
  (hn : csc.names = ([(".0", .local), ("name", .local)] : Kn)) (hk : csc.kind = .function) (hp1 : (pf.endLine == pj.line) = true) (hp2 : (pn.endLine == pp.line) = true) (hps : 2 ≤ (zy (z4 (zI sc))).length ∧ (zy (z4 (zI sc))).length ≤ 1000 ∧ ∀ p ∈ zy (z4 (zI sc)), p.length ≤ zK) :
  exL cf ["taken"] 21 k26 (yJ sc f (.int (i : Int)) a6 lv (x1 ts) wy) (zhU p3 p4 p5 p6 p7 p8 p9 pa pb pc pd pe pf pg ph pi pj pk pl pm pn po pp pq pr q1 q2 q3 q4 q5 q6 q7 q8 q9 qa qb csc) =
   some (.next (yJ sc f (.int (i : Int)) a6 lv (x1 (ts ++ if yx (zI sc) (z9 (zF sc) i) then [i] else [])) (.lst ((z9 (zF sc) i).map nmD)))) := by
 have bd : zK = 1000000 := rfl
 refine xr (xd sc) fun g w l => ?_
 have wl := zeJ w hi
 have wlen : (z9 (zF sc) i).length ≤ 100 := by have := w.len; lia
 have wg : ∀ x ∈ z9 (zF sc) i, gNm x := zcA g _ _
 have e1 : exD cf ["taken"] 20 k26 (yJ sc f (.int (i : Int)) a6 lv (x1 ts) wy) (.Assign [.Name "way" p3] (.Call (.Name "_law_way" p4) [.Name "tree" p5, .Name "n" p6] [] p7) p8) = some (.next (yJ sc f (.int (i : Int)) a6 lv (x1 ts) (.lst ((z9 (zF sc) i).map nmD)))) := by
  rw [zhV]
  unfold asgD
  have hs : zd k26 "way" = true := by decide
  rw [hs]
  dsimp only
  have ev : evD cf 20 k26 (yJ sc f (.int (i : Int)) a6 lv (x1 ts) wy) (.Call (.Name "_law_way" p4) [.Name "tree" p5, .Name "n" p6] [] p7) = some (.lst ((z9 (zF sc) i).map nmD)) :=
   zq (n := 19) rfl (zV (n := 18) (by decide) rfl (by decide) L.gway) (zL (n := 18) (d := trD sc) (zH (n := 17) (by decide) rfl rfl) (zL (n := 17) (zH (n := 16) (by decide) rfl rfl) za)) rfl (L.way i hi)
  rw [ev]
  rcases h6 with rfl | ⟨z, rfl⟩ <;> rcases hw with rfl | ⟨y, rfl⟩ <;> rfl
 have hrho : (yJ sc f (.int (i : Int)) a6 lv (x1 ts) (.lst ((z9 (zF sc) i).map nmD))).lookup ("way" : Str) = some (.lst ((z9 (zF sc) i).map nmD)) := rfl
 have t1 : tsD cf 16 k26 (yJ sc f (.int (i : Int)) a6 lv (x1 ts) (.lst ((z9 (zF sc) i).map nmD))) (.Compare (.Constant .none 0 p9) [.NotIn] [.Name "way" pa] pb) = some (zbc (z9 (zF sc) i)).isSome :=
  yP (n := 15) yN (zH (n := 14) (by decide) hrho rfl) (zjr _)
 have t2 : ∀ ns, zbc (z9 (zF sc) i) = some ns → tsD cf 15 k26 (yJ sc f (.int (i : Int)) a6 lv (x1 ts) (.lst ((z9 (zF sc) i).map nmD))) (.Call (.Name "_law_taken" pc) [.Name "pieces" pd, .Call (.Attribute (.Constant (.str "/") 0 pe) "join" pf) [.ListComp (zib q1 q2 q3 q4 q5 q6 q7 q8 q9 qa qb) [⟨.Name "name" pg, .Name "way" ph, [], 0⟩] csc pi] [] pj] [] pk) = some (zaa ((zy (z4 (zI sc))).map st) (st (xL ns))) := by
  intro ns hns
  have em := zd2 hns
  have nl := zlE wg em
  have hll : ns.length ≤ 100 := by rw [em, List.length_map] at wlen; exact wlen
  have hbound : z3 (ns.map zae) + (ns.map zae).length * ("/" : Str).length ≤ 10000 := by
   have h1 : z3 (ns.map zae) ≤ (ns.map zae).length * 60 := zeu fun x hx => by
    refine zQ (List.mem_map.mp hx) fun n hn' zz2 => ?_; subst zz2
    exact (nl n hn').1
   have h2 : ("/" : Str).length = 1 := rfl
   rw [h2]
   rw [List.length_map] at *
   lia
  have hjoin : evD cf 11 k26 (yJ sc f (.int (i : Int)) a6 lv (x1 ts) (.lst ((z9 (zF sc) i).map nmD))) (.Call (.Attribute (.Constant (.str "/") 0 pe) "join" pf) [.ListComp (zib q1 q2 q3 q4 q5 q6 q7 q8 q9 qa qb) [⟨.Name "name" pg, .Name "way" ph, [], 0⟩] csc pi] [] pj) = some (.str (st (xL ns))) := by
   rw [← zgP ns]
   refine zfY (n := 9) hp1 (xs := ns.map zae) ?_ (by lia)
   rw [List.map_map]
   refine za5 cf (n := 8) (d := .lst ((z9 (zF sc) i).map nmD)) (ds := (z9 (zF sc) i).map nmD) (by rw [hn, hk]; rfl) (zH (n := 7) (by decide) hrho rfl) (xH (by rw [List.length_map]; lia)) ?_
   rw [hn]
   have hr : yD ([(".0", .local), ("name", .local)] : Kn) k26 = ([(".0", .local), ("name", .local)] : Kn) := by rfl
   have hf : (yJ sc f (.int (i : Int)) a6 lv (x1 ts) (.lst ((z9 (zF sc) i).map nmD))).filter (fun q => xE ([(".0", .local), ("name", .local)] : Kn) q.1) = ([] : Rho) := by rfl
   rw [hr, hf, em, List.map_map]
   refine (x9 _ _ (nmD ∘ some) (fun zz => true) (fun n => .str (zae n)) ns (fun i zz => rfl) (fun n hn' zz => ?_) fun i zz zz => rfl).trans ?_
   ·refine xr (nl n hn') fun zz0 h1 h2 => ?_
    exact zkC h1 h2
   ·rw [zay]; rfl
  have hx : (st (xL ns)).length ≤ zK := by
   rw [← zgP ns]
   have := StrLaws.join_length_le ("/" : Str) (ns.map zae)
   rw [zed]
   have e1 : ((ns.map zae).map (·.length)).sum = z3 (ns.map zae) := rfl
   rw [e1] at this
   lia
  have hcall : evD cf 14 k26 (yJ sc f (.int (i : Int)) a6 lv (x1 ts) (.lst ((z9 (zF sc) i).map nmD))) (.Call (.Name "_law_taken" pc) [.Name "pieces" pd, .Call (.Attribute (.Constant (.str "/") 0 pe) "join" pf) [.ListComp (zib q1 q2 q3 q4 q5 q6 q7 q8 q9 qa qb) [⟨.Name "name" pg, .Name "way" ph, [], 0⟩] csc pi] [] pj] [] pk) = some (.bool (zaa ((zy (z4 (zI sc))).map st) (st (xL ns)))) := by
   refine zq (n := 13) rfl (zV (n := 12) (by decide) rfl (by decide) L.gtaken) (zL (n := 12) (d := .lst (((zy (z4 (zI sc))).map st).map .str)) ?_ (zL (n := 11) hjoin za)) rfl (L.taken _ _ (by rw [List.length_map]; exact hps.1) (by rw [List.length_map]; exact hps.2.1) (fun p hp => ?_) hx)
   ·rw [← zmd]
    exact zH (n := 11) (by decide) rfl rfl
   ·refine zQ (List.mem_map.mp hp) fun q hq zz2 => ?_; subst zz2
    rw [xI]; exact hps.2.2 q hq
  rw [zlI, hcall]
  rfl
 have tt : tsD cf 18 k26 (yJ sc f (.int (i : Int)) a6 lv (x1 ts) (.lst ((z9 (zF sc) i).map nmD))) (.BoolOp .And [.Compare (.Constant .none 0 p9) [.NotIn] [.Name "way" pa] pb, .Call (.Name "_law_taken" pc) [.Name "pieces" pd, .Call (.Attribute (.Constant (.str "/") 0 pe) "join" pf) [.ListComp (zib q1 q2 q3 q4 q5 q6 q7 q8 q9 qa qb) [⟨.Name "name" pg, .Name "way" ph, [], 0⟩] csc pi] [] pj] [] pk] pl) = some (yx (zI sc) (z9 (zF sc) i)) := by
  rw [zpy, zi7, t1]
  unfold yx
  cases hq : zbc (z9 (zF sc) i) with
  | none => rfl
  | some ns =>
   rw [Option.isSome_some]
   dsimp only
   rw [zi7, t2 ns hq]
   cases zaa ((zy (z4 (zI sc))).map st) (st (xL ns)) <;> rfl
 have e2 : exD cf ["taken"] 19 k26 (yJ sc f (.int (i : Int)) a6 lv (x1 ts) (.lst ((z9 (zF sc) i).map nmD))) (.If (.BoolOp .And [.Compare (.Constant .none 0 p9) [.NotIn] [.Name "way" pa] pb, .Call (.Name "_law_taken" pc) [.Name "pieces" pd, .Call (.Attribute (.Constant (.str "/") 0 pe) "join" pf) [.ListComp (zib q1 q2 q3 q4 q5 q6 q7 q8 q9 qa qb) [⟨.Name "name" pg, .Name "way" ph, [], 0⟩] csc pi] [] pj] [] pk] pl) [.Expr (.Call (.Attribute (.Name "taken" pm) "append" pn) [.Name "n" po] [] pp) pq] [] pr) =
   some (.next (yJ sc f (.int (i : Int)) a6 lv (x1 (ts ++ if yx (zI sc) (z9 (zF sc) i) then [i] else [])) (.lst ((z9 (zF sc) i).map nmD)))) := by
  refine zpf cf ["taken"] 18 k26 _ tt ?_
  cases yx (zI sc) (z9 (zF sc) i) with
  | false =>
   rw [if_neg (by decide), if_neg (by decide), List.append_nil]
   rfl
  | true =>
   rw [if_pos rfl, if_pos rfl, zga, zkt]
   have h1 : ((("append" : Str) == ("append" : Str)) && (pn.endLine == pp.line) && zR "taken") = true := by rw [hp2]; rfl
   rw [h1]
   dsimp only
   have h2 : (yJ sc f (.int (i : Int)) a6 lv (x1 ts) (.lst ((z9 (zF sc) i).map nmD))).lookup ("taken" : Str) = some (x1 ts) := rfl
   rw [h2]
   rw [zH (n := 15) (d := .int (i : Int)) (by decide) rfl rfl]
   dsimp only
   have h3 : ((D.int (i : Int)).pure && Nat.ble (ts.map fun (i : Nat) => D.int (i : Int)).length zK) = true := by
    rw [Nat.ble_eq_true_of_le (by rw [List.length_map]; lia)]; rfl
   rw [h3]
   dsimp only
   have e : x1 (ts ++ [i]) = .own ((ts.map fun (i : Nat) => D.int (i : Int)) ++ [.int (i : Int)]) := by unfold x1; rw [List.map_append]; rfl
   rw [e]
   rfl
 rw [zga, e1]
 dsimp only
 rw [zga, e2]
 rfl
end
end
section
theorem zmY {cf : Cf} {n : Nat} {K : Kn} {ρ : Rho} {x : Str} {p : Pos} {ds : List D} (hx : zR x = true) (hl : ρ.lookup x = some (.own ds)) : evD cf (n + 1) K ρ (.Name x p) = some (.own ds) := by
 show yb cf K ρ x = _
 unfold yb
 rw [if_neg (zaU hx), hl]
noncomputable abbrev zfo (d : D) : Prop := d = .unb ∨ ∃ w, d = .lst w
noncomputable abbrev zfj (d : D) : Prop := d = .unb ∨ ∃ i, d = .int i
section
variable {G : Gd} {k : Nat} {cf : Cf} {sc : List Int}
noncomputable def zaD (sc : List Int) : Prop := 2 ≤ (zy (z4 (zI sc))).length ∧ (zy (z4 (zI sc))).length ≤ 1000 ∧ ∀ p ∈ zy (z4 (zI sc)), p.length ≤ zK
theorem ze6 (L : yM cf sc) {f : Addr} {a6 : D} (h6 : a6 = .unb ∨ ∃ s, a6 = zY s) {lv : List Nat} {p3 p4 p5 p6 p7 p8 p9 pa pb pc pd pe pf pg ph pi pj pk pl pm pn po pp pq pr q1 q2 q3 q4 q5 q6 q7 q8 q9 qa qb : Pos} {csc : Scope}
  (hn : csc.names = ([(".0", .local), ("name", .local)] : Kn)) (hk : csc.kind = .function) (hp1 : (pf.endLine == pj.line) = true) (hp2 : (pn.endLine == pp.line) = true) (hps : zaD sc) : ∀ (l ts : List Nat) (n wy : D), zfj n → zfo wy → ts.length + l.length ≤ 1000 → (∀ i ∈ l, i < (zF sc).length) →
  ∃ n' wy', zfj n' ∧ zfo wy' ∧ zb0 (fun ρ => exL cf ["taken"] 21 k26 ρ (zhU p3 p4 p5 p6 p7 p8 p9 pa pb pc pd pe pf pg ph pi pj pk pl pm pn po pp pq pr q1 q2 q3 q4 q5 q6 q7 q8 q9 qa qb csc)) "n" (l.map fun (i : Nat) => .int (i : Int)) (yJ sc f n a6 lv (x1 ts) wy) =
   some (.next (yJ sc f n' a6 lv (x1 (ts ++ l.filter fun i => yx (zI sc) (z9 (zF sc) i))) wy'))
 | [], ts, n, wy, hn', hw, _, _ => ⟨n, wy, hn', hw, by rw [List.filter_nil, List.append_nil]; rfl⟩
 | i :: l, ts, n, wy, hn', hw, hlen, hlt => by
  have hi := hlt i (.head _)
  have hl2 : (ts ++ if yx (zI sc) (z9 (zF sc) i) then [i] else []).length + l.length ≤ 1000 := by
   rw [List.length_cons] at hlen
   rw [List.length_append]
   split <;> simp <;> lia
  refine xf (ze6 L h6 (f := f) (lv := lv) (p3 := p3) (p4 := p4) (p5 := p5) (p6 := p6) (p7 := p7) (p8 := p8) (p9 := p9) (pa := pa) (pb := pb) (pc := pc) (pd := pd) (pe := pe) (pg := pg) (ph := ph) (pi := pi) (pk := pk) (pl := pl) (pm := pm) (po := po) (pq := pq) (pr := pr) (q1 := q1) (q2 := q2) (q3 := q3) (q4 := q4) (q5 := q5) (q6 := q6) (q7 := q7) (q8 := q8) (q9 := q9) (qa := qa) (qb := qb) hn hk hp1 hp2 hps l (ts ++ if yx (zI sc) (z9 (zF sc) i) then [i] else []) (.int (i : Int)) (.lst ((z9 (zF sc) i).map nmD)) (.inr ⟨_, rfl⟩) (.inr ⟨_, rfl⟩) hl2 fun j hj => hlt j (.tail _ hj)) fun n' wy' a b e => ?_
  refine ⟨n', wy', a, b, ?_⟩
  rw [List.map_cons, zb0]
  have es : stD (yJ sc f n a6 lv (x1 ts) wy) "n" (.int (i : Int)) = yJ sc f (.int (i : Int)) a6 lv (x1 ts) wy := by
   rcases h6 with rfl | ⟨z, rfl⟩ <;> rcases hn' with rfl | ⟨z', rfl⟩ <;> rcases hw with rfl | ⟨z'', rfl⟩ <;> rfl
  rw [es, znB]
  dsimp only
  rw [zhI L h6 (by rw [List.length_cons] at hlen; lia) hw hi hn hk hp1 hp2 hps]
  dsimp only
  rw [e]
  have ef : (ts ++ if yx (zI sc) (z9 (zF sc) i) then [i] else []) ++ l.filter (fun i => yx (zI sc) (z9 (zF sc) i)) = ts ++ (i :: l).filter (fun i => yx (zI sc) (z9 (zF sc) i)) := by
   rw [List.filter_cons, List.append_assoc]
   split <;> rfl
  rw [ef]
theorem zmB (L : yM cf sc) (ok : zZ G cf k) {f : Addr} {a6 : D} (h6 : a6 = .unb ∨ ∃ s, a6 = zY s) {lv : List Nat} (hps : zaD sc) (hl : lv.length ≤ 1000) (hlt : ∀ i ∈ lv, i < (zF sc).length) {p1 p2 p3 p4 p5 p6 p7 p8 p9 pa pb pc pd pe pf pg ph pi pj pk pl pm pn po pp pq pr ps q1 q2 q3 q4 q5 q6 q7 q8 q9 qa qb : Pos} {csc : Scope} (hn : csc.names = ([(".0", .local), ("name", .local)] : Kn)) (hk : csc.kind = .function) (hp1 : (pf.endLine == pj.line) = true) (hp2 : (pn.endLine == pp.line) = true) :
  ∃ n' wy', zfj n' ∧ zfo wy' ∧ ExS G k k26 (yJ sc f .unb a6 lv (x1 []) .unb) (.For (.Name "n" p1) (.Name "level" p2) (zhU p3 p4 p5 p6 p7 p8 p9 pa pb pc pd pe pf pg ph pi pj pk pl pm pn po pp pq pr q1 q2 q3 q4 q5 q6 q7 q8 q9 qa qb csc) [] ps) (.next (yJ sc f n' a6 lv (x1 (lv.filter fun i => yx (zI sc) (z9 (zF sc) i))) wy')) := by
 have bd : zK = 1000000 := rfl
 obtain ⟨n', wy', a, b, h⟩ := ze6 L h6 (f := f) (lv := lv) (p3 := p3) (p4 := p4) (p5 := p5) (p6 := p6) (p7 := p7) (p8 := p8) (p9 := p9) (pa := pa) (pb := pb) (pc := pc) (pd := pd) (pe := pe) (pg := pg) (ph := ph) (pi := pi) (pk := pk) (pl := pl) (pm := pm) (po := po) (pq := pq) (pr := pr) (q1 := q1) (q2 := q2) (q3 := q3) (q4 := q4) (q5 := q5) (q6 := q6) (q7 := q7) (q8 := q8) (q9 := q9) (qa := qa) (qb := qb) hn hk hp1 hp2 hps lv [] .unb .unb (.inl rfl) (.inl rfl) (by simpa using hl) hlt
 refine ⟨n', wy', a, b, ziv (n := 21) ok (by decide) (d := lvD lv) (zH (n := 20) (by decide) rfl rfl) (xH (by rw [List.length_map]; lia)) (fun ρ => exL cf ["taken"] 21 _ ρ _) (fun ρ o => (yY ok ["taken"] 21).2 k26 ρ _ o) h⟩
theorem zo8 (L : yM cf sc) (ok : zZ G cf k) {f : Addr} {a6 : D} (h6 : a6 = .unb ∨ ∃ s, a6 = zY s) {lv : List Nat} (hps : zaD sc) (hl : lv.length ≤ 1000) (hlt : ∀ i ∈ lv, i < (zF sc).length) :
  ∃ n' wy', zfj n' ∧ zfo wy' ∧ ExS G k k26 (yJ sc f .unb a6 lv (x1 []) .unb) (xR 12) (.next (yJ sc f n' a6 lv (x1 (lv.filter fun i => yx (zI sc) (z9 (zF sc) i))) wy')) := by
 apply zmB <;> first | assumption | rfl | decide
theorem znk (L : yM cf sc) (ok : zZ G cf k) {f : Addr} {a6 n wy : D} (h6 : a6 = .unb ∨ ∃ s, a6 = zY s) (hn' : zfj n) (hw : zfo wy) {lv tk : List Nat} (hl : lv.length ≤ 1000) (hlt : ∀ i ∈ lv, i < (zF sc).length)
  (h1 : xK (zF sc) (x8 sc) (zI sc).length = tk) (h2 : xK (zF sc) (x8 sc) (zI sc).length = lv.filter fun i => xG (z9 (zF sc) i) (zI sc)) {p1 p2 p3 p4 p5 p6 p7 p8 p9 pa pb pc pd pe pf pg ph pi : Pos} {csc : Scope} (hn : csc.names = ([(".0", .local), ("n", .local), ("_law_fits", .globalImplicit), ("_law_way", .globalImplicit), ("steps", .free), ("tree", .free)] : Kn)) (hk : csc.kind = .function) : ExS G k k26 (yJ sc f n a6 lv (x1 tk) wy) (.Return (some (.BoolOp .And [.Compare (.Name "found" p1) [.Eq] [.Name "taken" p2] p3, .Compare (.Name "found" p4) [.Eq] [.ListComp (.Name "n" p5) [⟨.Name "n" p6, .Name "level" p7, [.Call (.Name "_law_fits" p8) [.Call (.Name "_law_way" p9) [.Name "tree" pa, .Name "n" pb] [] pc, .Name "steps" pd] [] pe], 0⟩] csc pf] pg] ph)) pi) (.ret (.bool true)) := by
 have bd : zK = 1000000 := rfl
 refine xr (xd sc) fun g w l => ?_
 have hcomp : evD cf 16 k26 (yJ sc f n a6 lv (x1 tk) wy) (.ListComp (.Name "n" p5) [⟨.Name "n" p6, .Name "level" p7, [.Call (.Name "_law_fits" p8) [.Call (.Name "_law_way" p9) [.Name "tree" pa, .Name "n" pb] [] pc, .Name "steps" pd] [] pe], 0⟩] csc pf) = some (lvD (lv.filter fun i => xG (z9 (zF sc) i) (zI sc))) := by
  refine za5 cf (n := 15) (d := lvD lv) (ds := lv.map fun (i : Nat) => .int (i : Int)) (by rw [hn, hk]; rfl) (zH (n := 14) (by decide) rfl rfl) (xH (by rw [List.length_map]; lia)) ?_
  rw [hn]
  have hr : yD ([(".0", .local), ("n", .local), ("_law_fits", .globalImplicit), ("_law_way", .globalImplicit), ("steps", .free), ("tree", .free)] : Kn) k26 = ([(".0", .local), ("n", .local), ("_law_fits", .globalImplicit), ("_law_way", .globalImplicit), ("steps", .cell), ("tree", .cell)] : Kn) := by rfl
  have hf : (yJ sc f n a6 lv (x1 tk) wy).filter (fun q => xE ([(".0", .local), ("n", .local), ("_law_fits", .globalImplicit), ("_law_way", .globalImplicit), ("steps", .free), ("tree", .free)] : Kn) q.1) = ([("steps", zb sc), ("tree", trD sc)] : Rho) := by rfl
  rw [hr, hf]
  refine x9 _ _ (fun (i : Nat) => .int (i : Int)) (fun i => xG (z9 (zF sc) i) (zI sc)) (fun (i : Nat) => .int (i : Int)) lv (fun i hi => ?_) (fun i zz zz => zH (n := 14) (by decide) rfl rfl) fun i zz zz => rfl
  have hc : evD cf 13 ([(".0", .local), ("n", .local), ("_law_fits", .globalImplicit), ("_law_way", .globalImplicit), ("steps", .cell), ("tree", .cell)] : Kn) [("n", .int (i : Int)), ("steps", zb sc), ("tree", trD sc)] (.Call (.Name "_law_fits" p8) [.Call (.Name "_law_way" p9) [.Name "tree" pa, .Name "n" pb] [] pc, .Name "steps" pd] [] pe) = some (.bool (xG (z9 (zF sc) i) (zI sc))) := by
   refine zq (n := 12) rfl (zV (n := 11) (by decide) rfl (by decide) L.gfits) (zL (n := 11) (d := .lst ((z9 (zF sc) i).map nmD)) ?_ (zL (n := 10) (d := zb sc) (zH (n := 9) (by decide) rfl rfl) za)) rfl (L.fits _ _)
   exact zq (n := 10) rfl (zV (n := 9) (by decide) rfl (by decide) L.gway) (zL (n := 9) (d := trD sc) (zH (n := 8) (by decide) rfl rfl) (zL (n := 8) (zH (n := 7) (by decide) rfl rfl) za)) rfl (L.way i (hlt i hi))
  rw [znj, zlI, hc]
  show (match (some (xG (z9 (zF sc) i) (zI sc)) : Option Bool) with | some true => tsL cf 14 _ _ [] | some false => some false | none => none) = _
  cases xG (z9 (zF sc) i) (zI sc) <;> rfl
 refine (yY ok [] 19).1 _ _ _ _ ?_
 rw [zjU, zlS, zpz, znI]
 have f1 : ∀ m p, evD cf (m + 1) k26 (yJ sc f n a6 lv (x1 tk) wy) (.Name "found" p) = some (foD sc) := fun m p => zH (by decide) rfl rfl
 have f2 : ∀ m p, evD cf (m + 1) k26 (yJ sc f n a6 lv (x1 tk) wy) (.Name "taken" p) = some (x1 tk) := fun m p => zmY (by decide) rfl
 rw [f1, f2]
 dsimp only
 have c1 : yB .Eq (foD sc) (x1 tk) = some true := by rw [zlt]; exact congrArg some (decide_eq_true h1)
 have c2 : yB .Eq (foD sc) (lvD (lv.filter fun i => xG (z9 (zF sc) i) (zI sc))) = some true := by rw [zon]; exact congrArg some (decide_eq_true h2)
 rw [c1]
 have ht : zan (.bool true) = some true := rfl
 dsimp only
 rw [ht]
 dsimp only
 rw [znI, f1, hcomp]
 dsimp only
 rw [c2]
 rfl
theorem zo9 (L : yM cf sc) (ok : zZ G cf k) {f : Addr} {a6 n wy : D} (h6 : a6 = .unb ∨ ∃ s, a6 = zY s) (hn' : zfj n) (hw : zfo wy) {lv tk : List Nat} (hl : lv.length ≤ 1000) (hlt : ∀ i ∈ lv, i < (zF sc).length)
  (h1 : xK (zF sc) (x8 sc) (zI sc).length = tk) (h2 : xK (zF sc) (x8 sc) (zI sc).length = lv.filter fun i => xG (z9 (zF sc) i) (zI sc)) : ExS G k k26 (yJ sc f n a6 lv (x1 tk) wy) (xR 13) (.ret (.bool true)) := by
 apply znk <;> first | assumption | rfl | decide
theorem zoV (L : yM cf sc) {Kf : Frag} {C fI P Q : Addr} (R : zk3 G k cf Kf C fI P) (TG : zeG G 169 Q (("law.<locals>." : Str) ++ ("<lambda>" : Str))) {o : Obj} {fd : FuncData} (fr : zn G 170 o fd (zM 26) (zE 26) ["script"]) (hs : sc.length ≤ 63) (hps : zaD sc)
  (hrow : ∀ i, (xK (zF sc) (x8 sc) i).length ≤ 100 ∧ ((xK (zF sc) (x8 sc) i).flatMap fun (i : Nat) => ze (zF sc) i).length ≤ 100) (hlv : ∀ i, (xF (zF sc) [0] i).length ≤ 100) (hlt : ∀ j ∈ xF (zF sc) [0] (zI sc).length, j < (zF sc).length)
  (h1 : xK (zF sc) (x8 sc) (zI sc).length = (xF (zF sc) [0] (zI sc).length).filter fun i => yx (zI sc) (z9 (zF sc) i)) (h2 : xK (zF sc) (x8 sc) (zI sc).length = (xF (zF sc) [0] (zI sc).length).filter fun i => xG (z9 (zF sc) i) (zI sc)) :
  FnC G (k + 4) 170 [.lst (sc.map .int)] (.bool true) := by
 refine zcT fr rfl fun A X Y s env c E => ?_
 have ok := R.PC.ok.le (k' := k + 3) (by lia)
 rw [n26] at c ⊢
 have c : StC G (k + 3) A X Y s env k26 (xC (scD sc) .unb .unb .unb .unb .unb .unb .unb .unb .unb .unb .unb .unb .unb .unb) := c
 rw [b26]
 have ti := c.cx.ti
 refine ExS.andThen (law0 L ok hs) c fun Y0 s0 t0 c0 => ?_
 refine ExS.andThen (law1 L ok hs) c0 fun Y1 s1 t1 c1 => ?_
 refine ExS.andThen (law2 L ok) c1 fun Y2 s2 t2 c2 => ?_
 refine ExS.andThen (law3 L ok) c2 fun Y3 s3 t3 c3 => ?_
 refine ExS.andThen (law4 L ok) c3 fun Y4 s4 t4 c4 => ?_
 refine ExS.andThen (law5 L ok) c4 fun Y5 s5 t5 c5 => ?_
 have T5 := ((((t0.trans ti t1).trans ti t2).trans ti t3).trans ti t4).trans ti t5
 refine wpAny_execs_cons (wpAny_mono (law6 TG c5) (fun fl s6 h6 => ?_) fun zz zz e => e)
 refine e1_4 h6 fun f zz1 t6 c6 DR => ?_; subst zz1
 refine wpAny_execs_cons (wpAny_mono (law7 L R hrow DR c6) (fun fl s7 h7 => ?_) fun zz zz e => e)
 refine x2 h7 fun Y7 t7 zz2 c7 => ?_; subst zz2
 have T7 := (T5.trans ti t6).trans ti t7
 refine ExS.andThen (law8 L ok) c7 fun Y8 s8 t8 c8 => ?_
 refine ExS.andThen (law9 ok) c8 fun Y9 s9 t9 c9 => ?_
 refine zQ (zpl (G := G) (sc := sc) L ok hlv (f := f)) fun a6 q6 e10 => ?_
 refine ExS.andThen e10 c9 fun Y10 s10 t10 c10 => ?_
 refine ExS.andThen (zo3 ok q6) c10 fun Y11 s11 t11 c11 => ?_
 have hll := hlv (zI sc).length
 obtain ⟨n', wy', qn, qw, e12⟩ := zo8 (G := G) (sc := sc) L ok (f := f) q6 hps (lv := xF (zF sc) [0] (zI sc).length) (by lia) hlt
 refine ExS.andThen e12 c11 fun Y12 s12 t12 c12 => ?_
 have T12 := ((((T7.trans ti t8).trans ti t9).trans ti t10).trans ti t11).trans ti t12
 exact ExS.last (zo9 L ok q6 qn qw (by lia) hlt h1 h2) c12 ti T12
end
end
section
theorem zj6 (s : Sp) (nm : Nm) (hs : gSp s) (hn : gNm nm) : x6 s (zkB nm) = ya nm s := by
 have H1 : ∀ a ∈ spS, (x6 (some a, none) none = false ∧ ∀ p ∈ spS, ∀ q ∈ wdS, x6 (some a, none) (some (zc6 p q)) = ya (some (p, q)) (some a, none)) := by decide +kernel
 have H2 : ∀ b ∈ wdS, (x6 (none, some b) none = false ∧ ∀ p ∈ spS, ∀ q ∈ wdS, x6 (none, some b) (some (zc6 p q)) = ya (some (p, q)) (none, some b)) := by decide +kernel
 have H0 : x6 (none, none) none = false ∧ ∀ p ∈ spS, ∀ q ∈ wdS, x6 (none, none) (some (zc6 p q)) = ya (some (p, q)) (none, none) := by decide +kernel
 obtain ⟨a, b⟩ := s
 refine xr hs fun h1 h2 h3 => ?_
 have F : ∀ s : Sp, (x6 s none = false ∧ ∀ p ∈ spS, ∀ q ∈ wdS, x6 s (some (zc6 p q)) = ya (some (p, q)) s) → x6 s (zkB nm) = ya nm s := by
  intro s h
  cases nm with
  | none => exact h.1
  | some pq =>
   obtain ⟨p, q⟩ := pq
   refine zk (hn p q rfl) fun g1 g2 => ?_
   exact h.2 p g1 q g2
 cases a with
 | none => cases b with
  | none => exact F _ H0
  | some b => exact F _ (H2 b (h2 b rfl))
 | some a => cases b with
  | none => exact F _ (H1 a (h1 a rfl))
  | some b => rcases h3 with h | h <;> exact zA h.symm
section
variable {t : List (Int × Nm)}
theorem zaA {n : Int} {j : Nat} (h : j ∈ ze t n) : ∃ hj : j < t.length, 0 < j ∧ t[j].1 = n := by
 unfold ze at h
 simp only [List.mem_map, List.mem_filter, List.mem_range] at h
 refine zQ h fun i zz1 zz2 => ?_; rcases zz1 with ⟨h1, h2⟩; subst zz2
 have hj : i + 1 < t.length := by omega
 refine ⟨hj, by lia, ?_⟩
 rw [List.getElem?_eq_getElem hj] at h2
 simpa using h2
theorem zfl (wf : Wft t) : ∀ f f' n, n < t.length → n < f → n < f' → zbA t f n = zbA t f' n
 | 0, f', n, _, h, _ => absurd h (Nat.not_lt_zero _)
 | f + 1, 0, n, _, _, h => absurd h (Nat.not_lt_zero _)
 | f + 1, f' + 1, n, hn, h, h' => by
  unfold zbA
  by_cases h0 : n = 0
  ·rw [if_pos h0, if_pos h0]
  ·rw [if_neg h0, if_neg h0]
   refine zQ (wf.par n hn h0) fun p hp hpn => ?_
   have e : (t[n]?.getD (0, none)).1.toNat = p := by rw [List.getElem?_eq_getElem hn]; show t[n].1.toNat = p; rw [hp]; rfl
   rw [e, zfl wf f f' p (by lia) (by lia) (by lia)]
theorem zf1 (wf : Wft t) {n j : Nat} (h : j ∈ ze t n) : z9 t j = z9 t n ++ [(t[j]?.getD (0, none)).2] := by
 refine zQ (zaA h) fun hj h0 hp => ?_
 obtain ⟨p, hp', hpn⟩ := wf.par j hj (by lia)
 have epn : p = n := by rw [hp] at hp'; exact_mod_cast hp'.symm
 subst epn
 have hl := wf.len
 unfold z9
 have e : xu = 999999 + 1 := rfl
 have e1 : zbA t xu j = zbA t 999999 p ++ [(t[j]?.getD (0, none)).2] := by
  rw [e]
  conv => lhs; unfold zbA
  rw [if_neg (by lia)]
  have : (t[j]?.getD (0, none)).1.toNat = p := by rw [List.getElem?_eq_getElem hj]; show t[j].1.toNat = p; rw [hp]; rfl
  rw [this]
 rw [e1, zfl wf 999999 xu p (by lia) (by lia) (by rw [e]; lia)]
theorem y5 : ∀ (i : Nat) (r : List Nat), xF t r (i + 1) = (xF t r i).flatMap fun (i : Nat) => ze t i
 | 0, r => rfl
 | i + 1, r => by
  show xF t (r.flatMap _) (i + 1) = _
  rw [y5 i]
  rfl
theorem zgG (h0 : 0 < t.length) (i : Nat) : ∀ j ∈ xF t [0] i, j < t.length := by
 cases i with
 | zero => intro j hj; rw [List.mem_singleton.mp hj]; exact h0
 | succ i =>
  rw [y5]
  intro j hj
  refine zQ (List.mem_flatMap.mp hj) fun n zz1 h => ?_
  exact (zaA h).1
theorem zdS (wf : Wft t) : ∀ i, ∀ j ∈ xF t [0] i, (z9 t j).length = i
 | 0, j, h => by
  rw [List.mem_singleton.mp h]
  have e : xu = 999999 + 1 := rfl
  unfold z9
  rw [e]
  rfl
 | i + 1, j, h => by
  rw [y5] at h
  refine zQ (List.mem_flatMap.mp h) fun n hn h => ?_
  rw [zf1 wf h, List.length_append, zdS wf i n hn]
  rfl
theorem zgs (n : Int) : (ze t n).Nodup := by
 have h : ((List.range (t.length - 1)).filter fun i => (t[i + 1]?.getD (0, none)).1 == n).Pairwise (fun a b => a ≠ b) := List.Pairwise.filter _ List.nodup_range
 exact List.Pairwise.map (S := fun a b => a ≠ b) _ (fun a b (q : a ≠ b) e => q (by lia)) h
theorem zcl : ∀ (r : List Nat), r.Nodup → (r.flatMap fun (i : Nat) => ze t i).Nodup
 | [], _ => List.nodup_nil
 | a :: r, h => by
  rw [List.nodup_cons] at h
  rw [List.flatMap_cons]
  refine List.nodup_append.mpr ⟨zgs _, zcl r h.2, fun x hx y hy q => ?_⟩
  subst q
  refine zQ (List.mem_flatMap.mp hy) fun b hb hy => ?_
  refine zQ (zaA hx) fun h1 zz1 e1 => ?_
  refine zQ (zaA hy) fun h2 zz1 e2 => ?_
  have : a = b := by rw [e1] at e2; exact_mod_cast e2
  exact h.1 (this ▸ hb)
theorem zbQ : ∀ (n : Nat) (l : List Nat), l.Nodup → (∀ x ∈ l, x < n) → l.length ≤ n
 | 0, [], _, _ => Nat.le_refl _
 | 0, a :: l, _, h => absurd (h a (.head _)) (Nat.not_lt_zero _)
 | n + 1, l, hd, h => by
  by_cases q : n ∈ l
  ·have h1 : (l.erase n).length = l.length - 1 := List.length_erase_of_mem q
   have := zbQ n (l.erase n) (hd.erase n) fun x hx => by
    have hx' := (List.Nodup.mem_erase_iff hd).mp hx
    have := h x hx'.2
    have := hx'.1
    lia
   have : 0 < l.length := List.length_pos_of_mem q
   lia
  ·have := zbQ n l hd fun x hx => by
    have := h x hx
    have : x ≠ n := fun e => q (e ▸ hx)
    lia
   lia
theorem zlO (r : List Nat) (h : r.Nodup) : (r.flatMap fun (i : Nat) => ze t i).length ≤ t.length :=
 zbQ _ _ (zcl r h) fun x hx => by
  refine zQ (List.mem_flatMap.mp hx) fun n zz1 q => ?_
  exact (zaA q).1
theorem zbH : ∀ i, (xF t [0] i).Nodup
 | 0 => by unfold xF; simp
 | i + 1 => by rw [y5]; exact zcl _ (zbH i)
theorem zfi : ∀ (w : List Nm) (ss : List Sp) (x : Nm) (s : Sp), w.length = ss.length → xG (w ++ [x]) (ss ++ [s]) = (xG w ss && ya x s)
 | [], [], x, s, _ => by simp [xG]
 | [], _ :: _, _, _, h => by cases h
 | _ :: _, [], _, _, h => by cases h
 | a :: w, b :: ss, x, s, h => by
  show (ya a b && xG (w ++ [x]) (ss ++ [s])) = ((ya a b && xG w ss) && ya x s)
  rw [zfi w ss x s (by simpa using h), Bool.and_assoc]
theorem zdq {F F' g : Nat → Bool} : ∀ (l : List Nat), (∀ n ∈ l, ∀ j ∈ ze t n, F' j = (F n && g j)) → ((l.filter F).flatMap fun (i : Nat) => ze t i).filter g = (l.flatMap fun (i : Nat) => ze t i).filter F'
 | [], _ => rfl
 | n :: l, h => by
  have ih := zdq l fun m hm => h m (.tail _ hm)
  have hn := h n (.head _)
  rw [List.flatMap_cons, List.filter_append, ← ih, List.filter_cons]
  cases hF : F n with
  | true =>
   rw [if_pos rfl, List.flatMap_cons, List.filter_append]
   congr 1
   refine List.filter_congr fun j hj => ?_
   rw [hn j hj, hF]; rfl
  | false =>
   rw [if_neg (by decide)]
   have : (ze t n).filter F' = [] := by
    rw [List.filter_eq_nil_iff]
    intro j hj
    rw [hn j hj, hF]; simp
   rw [this]; rfl
end
end
section
section
variable {t : List (Int × Nm)}
theorem zfB (g : zbC t) (wf : Wft t) (ss : List Sp) (hs : ∀ s ∈ ss, gSp s) : ∀ i, i ≤ ss.length → xK t (ss.map x6) i = (xF t [0] i).filter fun j => xG (z9 t j) (ss.take i)
 | 0, _ => by
  have : (z9 t 0) = [] := List.length_eq_zero_iff.mp (zdS wf 0 0 (by simp [xF]))
  unfold xK xF
  simp [this, xG]
 | i + 1, h => by
  have hi : i < (ss.map x6).length := by rw [List.length_map]; lia
  rw [zet t _ i hi, zfB g wf ss hs i (by lia), y5]
  refine zdq _ fun n hn j hj => ?_
  have hi' : i < ss.length := by lia
  rw [List.getElem_map, List.take_succ_eq_append_getElem hi', zf1 wf hj, zfi _ _ _ _ (by rw [zdS wf i n hn, List.length_take]; lia)]
  congr 1
  exact (zj6 _ _ (hs _ (List.getElem_mem hi')) (zdT g j)).symm
theorem zgF : ∀ (ns : List (Str × Str)) (ss : List Sp), ns.length = ss.length → (xG (ns.map some) ss = true ↔ zaJ ns ss)
 | [], [], _ => by simp [xG, zaJ]
 | [], _ :: _, h => by cases h
 | _ :: _, [], h => by cases h
 | (a, b) :: ns, (x, y) :: ss, h => by
  show (ya (some (a, b)) (x, y) && xG (ns.map some) ss) = true ↔ zfn (a, b) (x, y) ∧ zaJ ns ss
  rw [Bool.and_eq_true, zgF ns ss (by simpa using h)]
  have : ya (some (a, b)) (x, y) = true ↔ zfn (a, b) (x, y) := by
   unfold ya zfn
   rw [Bool.and_eq_true]
   have one : ∀ (a : Str) (o : Option Str), zb7 a o = true ↔ (o = none ∨ o = some a) := by
    intro a o
    cases o with
    | none => simp [zb7]
    | some z => simp [zb7]
   rw [one, one]
  rw [this]
theorem zfs : ∀ (w : List Nm) (ss : List Sp), w.length = ss.length → zbc w = none → xG w ss = false
 | [], _, _, h => by exact zA h.symm
 | none :: w, [], h, _ => by cases h
 | none :: w, s :: ss, _, _ => rfl
 | some p :: w, [], h, _ => by cases h
 | some p :: w, s :: ss, hl, h => by
  have : zbc w = none := by
   unfold zbc at h
   cases q : zbc w with
   | none => rfl
   | some l => rw [q] at h; exact zA h.symm
  show (ya (some p) s && xG w ss) = false
  rw [zfs w ss (by simpa using hl) this, Bool.and_false]
theorem zhR (ss : List Sp) (w : List Nm) (hne : ss ≠ []) (hs : ∀ s ∈ ss, gSp s) (hw : ∀ x ∈ w, gNm x) (hl : w.length = ss.length) : yx ss w = xG w ss := by
 unfold yx
 cases h : zbc w with
 | none => exact (zfs w ss hl h).symm
 | some ns =>
  have e := zd2 h
  subst e
  have hl' : ns.length = ss.length := by simpa using hl
  have key := ziw ss ns hne (fun s q => (hs s q).2.2) hl' (fun s q => zhD (hs s q)) (fun n q => zoW (hw (some n) (List.mem_map_of_mem q)))
  have k2 := zgF ns ss hl'
  dsimp only
  cases q1 : zaa ((zy (z4 ss)).map st) (st (xL ns)) <;> cases q2 : xG (ns.map some) ss <;> try rfl
  ·rw [q1] at key; rw [q2] at k2
   exact absurd (key.mpr (k2.mp rfl)) (by decide)
  ·rw [q1] at key; rw [q2] at k2
   exact absurd (k2.mpr (key.mp rfl)) (by decide)
theorem zfP : ∀ (o : Option Str), (∀ x, o = some x → x.cps.toList.length ≤ 4) → (yr o).length ≤ 4 := by
 intro o h
 cases o with
 | none => simp [yr]
 | some x => simp only [yr, List.length_map]; exact h x rfl
theorem ziK {s : Sp} (h : gSp s) : (xk s).length ≤ 10 := by
 have H1 : ∀ a ∈ spS, a.cps.toList.length ≤ 4 := by decide +kernel
 have H2 : ∀ a ∈ wdS, a.cps.toList.length ≤ 4 := by decide +kernel
 have a := zfP s.1 fun x q => H1 x (h.1 x q)
 have b := zfP s.2 fun x q => H2 x (h.2.1 x q)
 unfold xk
 simp only [List.length_cons, List.length_append]
 lia
theorem zeY : ∀ (ss : List Sp), (∀ s ∈ ss, gSp s) → (z4 ss).length ≤ 11 * ss.length
 | [], _ => by simp [z4]
 | [s], h => by have := ziK (h s (.head _)); show (xk s).length ≤ _; simp; lia
 | s :: u :: r, h => by
  have e : z4 (s :: u :: r) = xk s ++ .lit 47 :: z4 (u :: r) := rfl
  have h1 := ziK (h s (.head _))
  have h2 := zeY (u :: r) fun q hq => h q (.tail _ hq)
  rw [e, List.length_append, List.length_cons]
  simp only [List.length_cons] at *
  lia
theorem zas : ∀ (l : List Tk), (chunks l).1.length ≤ l.length ∧ (chunks l).2.length ≤ l.length ∧ ∀ c ∈ (chunks l).2, c.length ≤ l.length
 | [] => ⟨Nat.le_refl _, Nat.le_refl _, fun c h => by cases h⟩
 | .star :: r => by
  refine xr (zas r) fun a b c => ?_
  refine ⟨Nat.zero_le _, by simp [chunks]; omega, fun x hx => ?_⟩
  rcases List.mem_cons.mp hx with q | q
  ·subst q; simp; lia
  ·have := c x q; simp; lia
 | .lit d :: r => by
  refine xr (zas r) fun a b c => ?_
  exact ⟨by simp [chunks]; lia, by simp [chunks]; lia, fun x hx => by have := c x hx; simp; lia⟩
 | .cls d :: r => by
  refine xr (zas r) fun a b c => ?_
  exact ⟨by simp [chunks]; lia, by simp [chunks]; lia, fun x hx => by have := c x hx; simp; lia⟩
theorem zg5 (sc : List Int) : zaD sc := by
 refine xr (x3 sc) fun h1 h2 h3 => ?_
 have hl := zeY _ h1
 refine xr (zas (z4 (zI sc))) fun a b c => ?_
 refine zoE (zcz (zeh h3 fun s q => (h1 s q).2.2)) fun p0 mids last e => ?_
 have bd : zK = 1000000 := rfl
 refine ⟨by rw [e]; simp, ?_, fun p hp => ?_⟩
 ·unfold zy
  simp only [List.length_cons, List.length_map]
  lia
 ·rcases List.mem_cons.mp hp with q | q
  ·subst q; rw [List.length_map]; lia
  ·refine zQ (List.mem_map.mp q) fun z hz zz2 => ?_; subst zz2
   have := c z hz
   rw [List.length_map]; lia
end
theorem zjI (sc : List Int) : (∀ i, (xK (zF sc) (x8 sc) i).length ≤ 100 ∧ ((xK (zF sc) (x8 sc) i).flatMap fun (i : Nat) => ze (zF sc) i).length ≤ 100) ∧ (∀ i, (xF (zF sc) [0] i).length ≤ 100) ∧ (∀ j ∈ xF (zF sc) [0] (zI sc).length, j < (zF sc).length) ∧
  xK (zF sc) (x8 sc) (zI sc).length = (xF (zF sc) [0] (zI sc).length).filter (fun i => yx (zI sc) (z9 (zF sc) i)) ∧ xK (zF sc) (x8 sc) (zI sc).length = (xF (zF sc) [0] (zI sc).length).filter fun i => xG (z9 (zF sc) i) (zI sc) := by
 refine xr (xd sc) fun g w l => ?_
 refine xr (x3 sc) fun h1 h2 h3 => ?_
 have ht := w.len
 have lv : ∀ i, (xF (zF sc) [0] i).length ≤ 100 := fun i => Nat.le_trans (zbQ _ _ (zbH i) (zgG w.pos i)) ht
 have rl := zfB g w (zI sc) h1
 have ek : x8 sc = (zI sc).map x6 := rfl
 have cap : ∀ i, ∃ i', i' ≤ (zI sc).length ∧ xK (zF sc) (x8 sc) i = xK (zF sc) (x8 sc) i' := by
  intro i
  rcases Nat.le_total i (zI sc).length with q | q
  ·exact ⟨i, q, rfl⟩
  ·refine ⟨(zI sc).length, Nat.le_refl _, ?_⟩
   unfold xK
   rw [List.take_of_length_le (by rw [ek, List.length_map]; exact q), List.take_of_length_le (by rw [ek, List.length_map]; exact Nat.le_refl _)]
 have full := rl (zI sc).length (Nat.le_refl _)
 rw [List.take_length] at full
 refine ⟨fun i => ?_, lv, zgG w.pos _, ?_, full⟩
 ·refine zQ (cap i) fun i' hi e => ?_
  rw [e]
  have e2 := rl i' hi
  rw [← ek] at e2
  rw [e2]
  refine ⟨Nat.le_trans (List.length_filter_le _ _) (lv i'), Nat.le_trans (zlO _ ((zbH i').filter _)) ht⟩
 ·rw [← ek] at full
  rw [full]
  refine List.filter_congr fun j hj => ?_
  exact (zhR _ _ h3 h1 (zcA g _ _) (zdS w _ j hj)).symm
end
theorem zcI : ∀ (toks : List Tk), (y0 toks).length ≤ 2 * toks.length
 | [] => Nat.le_refl _
 | .star :: r => by
  have ih := zcI r
  unfold y0 at ih ⊢
  rw [chunks]
  simp only [List.map_nil, List.nil_append, zal, List.length_append, List.length_map, List.length_cons] at ih ⊢
  generalize (chunks r).2 = cs at ih ⊢
  cases cs with
  | nil => simp [zal] at ih ⊢; lia
  | cons a b => simp only [List.length_cons, List.length_append, List.length_map, List.length_nil] at ih ⊢; lia
 | .lit c :: r => by
  have ih := zcI r
  unfold y0 at ih ⊢
  rw [chunks]
  simp only [List.map_cons, List.length_append, List.length_cons] at ih ⊢
  lia
 | .cls c :: r => by
  have ih := zcI r
  unfold y0 at ih ⊢
  rw [chunks]
  simp only [List.map_cons, List.length_append, List.length_cons] at ih ⊢
  lia
theorem zgc {α β : Type} {f : α → List β} {m : Nat} : ∀ (l : List α), (∀ a ∈ l, (f a).length ≤ m) → (l.flatMap f).length ≤ l.length * m
 | [], _ => by simp
 | a :: l, h => by
  have h1 := h a (.head _)
  have h2 := zgc l fun b hb => h b (.tail _ hb)
  rw [List.flatMap_cons, List.length_append, List.length_cons, Nat.succ_mul]
  lia
theorem zix (i : It) : (zh i).length ≤ 6 := by
 cases i with
 | cls c => show (zid c).length ≤ 6; unfold zid; split <;> simp
 | chr c => show (zeL c).length ≤ 6; unfold zeL; split <;> simp
 | _ => decide
theorem zkH (toks : List Tk) : (xz (y0 toks)).length ≤ 7 + 12 * toks.length := by
 have h := zgc (y0 toks) fun a zz => zix a
 have h2 := zcI toks
 unfold xz
 simp only [List.length_append, List.length_cons, List.length_nil]
 lia
theorem zhK (t : Tk) : (zf t).length ≤ 3 := by cases t <;> simp [zf]
theorem zjl (t : Tk) : (yT t).length ≤ 5 := by
 cases t with
 | star => show Str.empty.length ≤ 5; decide
 | lit c => show (ze7 c).length ≤ 5; unfold ze7; rw [xI]; unfold zeL; split <;> simp
 | cls c => show (st ([91] ++ yj c ++ [93])).length ≤ 5; rw [xI]; unfold yj; split <;> simp
theorem zfp (a b : List Str) : z3 (a ++ b) = z3 a + z3 b := by
 induction a with
 | nil => show z3 b = 0 + _; lia
 | cons x r ih => show x.length + z3 (r ++ b) = x.length + z3 r + z3 b; rw [ih]; lia
theorem zhy (c : List Tk) : z3 (c.map yT) ≤ c.length * 5 := by
 have := zeu (xs := c.map yT) (m := 5) fun x hx => by
  refine zQ (List.mem_map.mp hx) fun t zz1 zz2 => ?_; subst zz2
  exact zjl t
 rwa [List.length_map] at this
theorem zlJ (c : List Str) (r : List (List Str)) : z3 (match r with | [] => (match c with | [] => [st [46, 42]] | _ => [st [46, 42], jS c]) | _ => [gS (jS c)]) ≤ z3 c + 20 := by
 have hj := zle c
 cases r with
 | nil =>
  cases c with
  | nil => show (st [46, 42]).length + 0 ≤ _; rw [xI]; simp
  | cons a b => show (st [46, 42]).length + ((jS (a :: b)).length + 0) ≤ _; rw [xI]; simp; lia
 | cons a b =>
  show (gS (jS c)).length + 0 ≤ _
  have : (gS (jS c)).length = (jS c).length + 7 := by
   unfold gS
   simp only [List.foldl_cons, List.foldl_nil]
   rw [strLen_append, strLen_append, strLen_append]
   have l0 : Str.empty.length = 0 := rfl
   have l1 : ("(?>.*?" : Str).length = 6 := rfl
   have l2 : (")" : Str).length = 1 := rfl
   lia
  lia
theorem zja : ∀ (cs : List (List Str)) (m : Nat), (∀ c ∈ cs, z3 c ≤ m) → z3 (yW cs) ≤ cs.length * (m + 20)
 | [], m, _ => by show 0 ≤ _; lia
 | c :: r, m, h => by
  have h1 := h c (.head _)
  have h2 := zja r m fun d hd => h d (.tail _ hd)
  have h3 := zlJ c r
  unfold yW
  rw [zfp, List.length_cons, Nat.succ_mul]
  refine Nat.le_trans (Nat.add_le_add (Nat.le_trans h3 (Nat.add_le_add_right h1 20)) h2) ?_
  rw [Nat.add_comm]
  exact Nat.le_refl _
section
open PySem.Builtin PySem.Builtin.Re
open Classical in
noncomputable def zjV (P : D → Prop) : Option D := if h : ∃ d, P d then some h.choose else none
theorem zi6 {P : D → Prop} {d : D} (h : P d) (u : ∀ d', P d' → d' = d) : zjV P = some d := by
 unfold zjV
 have hx : ∃ d, P d := ⟨d, h⟩
 rw [dif_pos hx]
 exact congrArg some (u _ hx.choose_spec)
theorem zfJ {P : D → Prop} {d : D} (h : zjV P = some d) : P d := by
 unfold zjV at h
 split at h
 ·rename_i hx
  have := Option.some.inj h
  rw [← this]; exact hx.choose_spec
 ·exact zA h
noncomputable abbrev Tbl := List (Addr × (List D → D → Prop))
noncomputable def zgW (T : Tbl) (a : Addr) (ds : List D) : Option D := match T.lookup a with
 | some P => zjV (P ds)
 | none => none
noncomputable def zls : List (Str × D) := [("len", .blt "len"), ("sum", .blt "sum"), ("isinstance", .blt "isinstance"), ("iter", .blt "iter"), ("range", .typ "range"), ("list", .typ "list"), ("str", .typ "str"), ("slice", .typ "slice"), ("object", .typ "object"), ("zip", .typ "zip"),
 ("escape", .opq 83), ("_special_chars_map", .opq 73), ("_translate", .opq 90), ("_join_translated_parts", .opq 97), ("_SelectorContext", .opq 55), ("_prepare_tag", .opq 38), ("reduce", .opq 106), ("_initial_missing", .opq 98), ("translate", .opq 71),
 ("_law_tree", .opq 113), ("_law_way", .opq 120), ("_law_below", .opq 125), ("_law_node", .opq 132), ("_law_steps", .opq 139), ("_law_text", .opq 144), ("_law_fits", .opq 151), ("_law_pieces", .opq 158), ("_law_taken", .opq 165)]
inductive znz (K : Kn) (ρ : Rho) (e : Expr) (d : D) : Prop
 | mk (k : Nat) (fp apos : Pos) (ps : Arguments) (bd : Expr) (sc : Scope) (lp sp pos : Pos) (hk : k = 42 ∨ k = 63 ∨ k = 91) (e1 : e = .Call (.Attribute (.Name "_twin_re_1" fp) "sub" apos) [.Lambda ps bd sc lp, .Name "stuff" sp] [] pos) (h1 : (apos.endLine == pos.line) = true) (h2 : zft ps sc = true)
  (h3 : x5 K = some ((Value.ref 89, ("_translate.<locals>." : Str)) : Value × Str)) (h4 : K.lookup ("_twin_re_1" : Str) = some .globalImplicit) (h5 : ρ.lookup ("stuff" : Str) = some (D.str (st [k]))) (e2 : d = .str (st [k])) : znz K ρ e d
noncomputable def znJ (K : Kn) (ρ : Rho) (e : Expr) : Option D := zjV (znz K ρ e)
noncomputable def cfT (T : Tbl) : Cf := { Γ := fun x => zls.lookup x, Φ := zgW T, H := znJ }
inductive ReP (G : Gd) : Prop
 | mk (a b : Addr) (t1 t2 : Tok) (x : Str) (vs : Array Value) (m : Nat) (ob : Obj) (g1 : G.mg "_twin_re_1" = some (.ref a)) (g2 : G.hb.get? a = some (zdh b t1 t2 x)) (g3 : G.hb.get? b = some ob) (g4 : ob.data = .seq vs m) (g5 : (vs.map reRawOf).map (·.toNat) = zbB) : ReP G
structure zgr (G : Gd) (Kf : Frag) (P1 P2 P3 : Addr) : Prop where
 X₀ : Kf.In G.hb
 hC : G.C = 55
 NC : x0 Kf 55 52
 hnc : ∃ oc : Obj, Kf.lookup 55 = some oc
 gam : ∀ p ∈ zls, ∃ v, (G.mg p.1 = some v ∨ (G.mg p.1 = none ∧ G.mb p.1 = some v)) ∧ ∀ X h, Rd G.C X h p.2 v
 rI : ∃ p1 p2 p3 p4 o fd, zn G 52 o fd (zg7 p1 p2 p3 p4) zfx ["self", "root"]
 r38 : ∃ o fd, zn G 38 o fd (zM 2) (zE 2) ["tag"]
 r71 : ∃ o fd, zn G 71 o fd (zM 6) (zE 6) ["pat"]
 r83 : ∃ o fd, zn G 83 o fd (zM 9) (zE 9) ["pattern"]
 r90 : ∃ o fd, zn G 90 o fd (zM 11) (zE 11) ["pat", "STAR", "QUESTION_MARK"]
 r97 : ∃ o fd, zn G 97 o fd (zM 12) (zE 12) ["inp", "STAR"]
 r106 : ∃ o fd, zn G 106 o fd (zM 15) (zE 15) ["function", "sequence", "initial"]
 r113 : ∃ o fd, zn G 113 o fd (zM 17) (zE 17) ["numbers"]
 r120 : ∃ o fd, zn G 120 o fd (zM 18) (zE 18) ["tree", "n"]
 r125 : ∃ o fd, zn G 125 o fd (zM 19) (zE 19) ["tree", "n"]
 r132 : ∃ o fd, zn G 132 o fd (zM 20) (zE 20) ["number", "name"]
 r139 : ∃ o fd, zn G 139 o fd (zM 21) (zE 21) ["way", "digits"]
 r144 : ∃ o fd, zn G 144 o fd (zM 22) (zE 22) ["step", "quoted"]
 r151 : ∃ o fd, zn G 151 o fd (zM 23) (zE 23) ["way", "steps"]
 r158 : ∃ o fd, zn G 158 o fd (zM 24) (zE 24) ["told"]
 r165 : ∃ o fd, zn G 165 o fd (zM 25) (zE 25) ["pieces", "text"]
 r170 : ∃ o fd, zn G 170 o fd (zM 26) (zE 26) ["script"]
 re : ReP G
 t89 : zeG G 89 P1 (("_translate.<locals>." : Str) ++ ("<lambda>" : Str))
 t37 : zeG G 37 P2 (("_prepare_tag.<locals>." : Str) ++ ("select" : Str))
 t169 : zeG G 169 P3 (("law.<locals>." : Str) ++ ("<lambda>" : Str))
 map : ∃ f, G.hb.MapOf (intKind G.prog G.w) 73 f ∧ ∀ c : Nat, (c = 47 ∨ c = 97 ∨ c = 98 ∨ c = 117 ∨ c = 123 ∨ c = 125) → (f c = none ∧ ze7 c = (⟨#[c]⟩ : Str)) ∨ ∃ a b u, f c = some (.str (⟨#[a, b]⟩ : Str) u) ∧ ze7 c = (⟨#[a, b]⟩ : Str)
 m98 : ∃ o98 : Obj, G.hb.get? 98 = some o98 ∧ ∀ vs n, o98 ≠ zW vs n
structure Con (G : Gd) (k : Nat) (p : Addr × (List D → D → Prop)) : Prop where
 fn : ∃ o fd, G.hb.get? p.1 = some o ∧ o.data = .func fd
 ok : ∀ ds d, p.2 ds d → FnC G k p.1 ds d
theorem Con.le {G : Gd} {k k' : Nat} {p} (h : k ≤ k') (c : Con G k p) : Con G k' p := ⟨c.fn, fun ds d q => (c.ok ds d q).le h⟩
section
variable {G : Gd} {k : Nat} {Kf : Frag} {P1 P2 P3 : Addr}
theorem zmS (B : zgr G Kf P1 P2 P3) : zZ G { Γ := fun x => zls.lookup x, Φ := fun zz zz => none, H := fun zz zz zz => none } k where
 gam := fun x d e => B.gam (x, d) (mem_of_lookup e)
 fn := fun a ds d e => by exact zA e
 hook := fun K ρ e d q => by exact zA q
 root := ziY B.X₀ B.NC B.hC
theorem zjd (B : zgr G Kf P1 P2 P3) (T : Tbl) (h : ∀ p ∈ T, Con G k p) : zZ G (cfT T) k where
 gam := fun x d e => B.gam (x, d) (mem_of_lookup e)
 fn := fun a ds d e => by
  have e' : zgW T a ds = some d := e
  unfold zgW at e'
  set_option tactic.hygienic true in split at e'
  ·rename_i P hP
   have hm : (a, P) ∈ T := by
    clear e e' h
    induction T with
    | nil => exact zA hP
    | cons q r ih =>
     obtain ⟨b, Q⟩ := q
     rw [List.lookup_cons] at hP
     split at hP
     ·rename_i hb
      have := eq_of_beq hb
      cases hP
      subst this
      exact .head _
     ·exact .tail _ (ih hP)
   have c := h _ hm
   refine xl c.fn fun o fd h1 h2 => ?_
   exact ⟨o, fd, h1, h2, fun q => (by have := G.hT a q; rw [h1] at this; exact zA this.symm), c.ok ds d (zfJ e')⟩
  ·exact zA e'
 hook := fun K ρ e d q A X s env r cx xok en => by
  obtain ⟨k', fp, apos, ps, bd, sc, lp, sp, pos, hk, rfl, h1, h2, h3, h4, h5, rfl⟩ := zfJ q
  obtain ⟨a, b, t1, t2, x, vs, m, ob, g1, g2, g3, g4, g5⟩ := B.re
  exact zlP (zmS (k := k) B) ⟨r, cx, xok, en⟩ B.t89 h3 h1 h2 g1 h4 hk g2 ⟨ob, g3, g4⟩ g5 h5
 root := ziY B.X₀ B.NC B.hC
end
end
section
noncomputable def six (c : Nat) : Prop := c = 47 ∨ c = 97 ∨ c = 98 ∨ c = 117 ∨ c = 123 ∨ c = 125
noncomputable abbrev yk (sc : List Int) : List Tk := z4 (zI sc)
noncomputable def T1 (sc : List Int) : Tbl := [
 (83, fun ds d => ∃ c, six c ∧ ds = [.str (st [c])] ∧ d = .str (ze7 c)),
 (97, fun ds d => ∃ S, ds = [.lst ((yk sc).map (yw S)), .opq S] ∧ d = .str (st (xz (y0 (yk sc))))),
 (113, fun ds d => ds = [.lst ((yU sc).map .int)] ∧ d = xD (zF sc)),
 (120, fun ds d => ∃ n : Nat, n < (zF sc).length ∧ ds = [xD (zF sc), .int n] ∧ d = .lst ((z9 (zF sc) n).map nmD)),
 (125, fun ds d => ∃ n : Int, ds = [xD (zF sc), .int n] ∧ d = .lst ((ze (zF sc) n).map fun (k : Nat) => .int (k : Int))),
 (132, fun ds d => ∃ (i : Int) (nm : Nm), gNm nm ∧ ds = [.int i, nmD nm] ∧ d = ndD (i, zkB nm)),
 (139, fun ds d => ∃ (l : List Nm) (e : Int), l.length ≤ 900 ∧ ds = [.lst (l.map nmD), .int e] ∧ d = .lst ((yZ l e).map zY)),
 (144, fun ds d => ∃ s q, gSp s ∧ ds = [zY s, .bool q] ∧ d = .str (xm q s)),
 (151, fun ds d => ∃ (l : List Nm) (ss : List Sp), ds = [.lst (l.map nmD), .lst (ss.map zY)] ∧ d = .bool (xG l ss)),
 (158, fun ds d => ds = [.str (st (xz (y0 (yk sc))))] ∧ d = .lst (lsD (zy (yk sc)))),
 (165, fun ds d => ∃ (ps : List Str) (x : Str), 2 ≤ ps.length ∧ ps.length ≤ 1000 ∧ (∀ p ∈ ps, p.length ≤ zK) ∧ x.length ≤ zK ∧ ds = [.lst (ps.map .str), .str x] ∧ d = .bool (zaa ps x))]
noncomputable def T2 (sc : List Int) : Tbl := (90, fun ds d => ∃ S, ds = [.str (st ((yk sc).flatMap zf)), .opq S, .str "."] ∧ d = .lst ((yk sc).map (yw S))) :: T1 sc
noncomputable def T3 (sc : List Int) : Tbl := (71, fun ds d => ds = [.str (st ((yk sc).flatMap zf))] ∧ d = .str (st (xz (y0 (yk sc))))) :: T2 sc
theorem yg {T : Tbl} {a : Addr} {P : List D → D → Prop} {ds : List D} {d : D} (hl : T.lookup a = some P) (h : P ds d) (u : ∀ d', P ds d' → d' = d) : (cfT T).Φ a ds = some d := by
 show zgW T a ds = _
 unfold zgW
 rw [hl]
 exact zi6 h u
theorem zcC {α : Type} {f : α → D} (hf : ∀ a b, f a = f b → a = b) : ∀ {l l' : List α}, l.map f = l'.map f → l = l'
 | [], [], _ => rfl
 | [], _ :: _, h => by cases h
 | _ :: _, [], h => by cases h
 | a :: l, b :: l', h => by
  simp only [List.map_cons, List.cons.injEq] at h
  rw [hf _ _ h.1, zcC hf h.2]
theorem zge : ∀ a b : Nm, nmD a = nmD b → a = b
 | none, none, _ => rfl
 | none, some (_, _), h => by cases h
 | some (_, _), none, h => by cases h
 | some (a, b), some (c, d), h => by simp only [nmD, D.tup.injEq, List.cons.injEq, D.str.injEq, and_true] at h; rw [h.1, h.2]
theorem zgJ : ∀ a b : Option Str, yK a = yK b → a = b
 | none, none, _ => rfl
 | none, some _, h => by cases h
 | some _, none, h => by cases h
 | some a, some b, h => by simp only [yK, D.str.injEq] at h; rw [h]
theorem zfz (a b : Sp) (h : zY a = zY b) : a = b := by
 obtain ⟨a1, a2⟩ := a; obtain ⟨b1, b2⟩ := b
 simp only [zY, D.tup.injEq, List.cons.injEq, and_true] at h
 rw [zgJ _ _ h.1, zgJ _ _ h.2]
theorem zkD (a b : Str) (h : D.str a = D.str b) : a = b := by simpa using h
section
variable {G : Gd} {k : Nat} {Kf : Frag} {P1 P2 P3 : Addr} {sc : List Int}
theorem zr {T : Tbl} {x : Str} {d : D} (h : zls.lookup x = some d) : (cfT T).Γ x = some d := h
theorem zcc (sc : List Int) : (yk sc).length ≤ 121 ∧ (∀ t ∈ yk sc, zaR t) ∧ yv false (yk sc) := by
 refine xr (x3 sc) fun h1 h2 h3 => ?_
 have := zeY _ h1
 exact ⟨by show (z4 (zI sc)).length ≤ 121; lia, zi8 _ fun s hs => zhD (h1 s hs), ze5 _ _⟩
theorem zot (B : zgr G Kf P1 P2 P3) (ok : zZ G (cfT []) k) (S : Addr) : FnC G (k + 1) 97 [.lst ((yk sc).map (yw S)), .opq S] (.str (st (xz (y0 (yk sc))))) := by
 refine zaP B.r97 fun o fd fr => ?_
 refine xr (zcc sc) fun h1 h2 h3 => ?_
 have e := zbg S (yk sc)
 rw [e, ← zml _ h2]
 refine xr (zas (yk sc)) fun a b c => ?_
 have hl : (((chunks (yk sc)).1.map yT).map D.str ++ xB S ((chunks (yk sc)).2.map (·.map yT))).length = (yk sc).length := by rw [← e, List.length_map]
 have hL : ∀ c ∈ (chunks (yk sc)).2.map (·.map yT), z3 c ≤ 605 := fun x hx => by
  refine zQ (List.mem_map.mp hx) fun y hy zz2 => ?_; subst zz2
  have g1 := zhy y
  have g2 := c y hy
  lia
 refine zcq ok fr rfl (zlj _ (zr rfl) S _ _ ?_ (zaI _ _ h3).1 ?_ ?_ ?_)
 ·rw [hl]; lia
 ·rw [List.length_map, List.length_map]; lia
 ·exact fun c hc => Nat.le_trans (hL c hc) (by lia)
 ·rw [zfp]
  have g1 := zhy (chunks (yk sc)).1
  have g2 := zja _ 605 hL
  rw [List.length_map] at g2
  have : (chunks (yk sc)).2.length * (605 + 20) ≤ 121 * 625 := Nat.mul_le_mul (by lia) (by lia)
  lia
theorem zlY (B : zgr G Kf P1 P2 P3) (ok : zZ G (cfT []) k) : FnC G (k + 1) 158 [.str (st (xz (y0 (yk sc))))] (.lst (lsD (zy (yk sc)))) := by
 refine zaP B.r158 fun o fd fr => ?_
 refine xr (zcc sc) fun h1 h2 h3 => ?_
 refine zQ (zmx _ h2) fun s g1 g2 => ?_
 have l1 := zkH (yk sc)
 have l2 := zcI (yk sc)
 exact zcq ok fr rfl (zil _ (zr rfl) _ _ s g1 g2 (by lia) (by lia))
theorem zmp {s : Sp} (h : gSp s) : (∀ y, s.1 = some y → y.length ≤ 1000 ∧ (y8 y).length ≤ 3000) ∧ (∀ y, s.2 = some y → y.length ≤ 1000 ∧ (y8 y).length ≤ 3000) := by
 have H1 : ∀ a ∈ spS, a.length ≤ 1000 ∧ (y8 a).length ≤ 3000 := by decide +kernel
 have H2 : ∀ a ∈ wdS, a.length ≤ 1000 ∧ (y8 a).length ≤ 3000 := by decide +kernel
 exact ⟨fun y q => H1 y (h.1 y q), fun y q => H2 y (h.2.1 y q)⟩
theorem zln (B : zgr G Kf P1 P2 P3) : ∀ p ∈ T1 sc, Con G 3 p := by
 have ok : zZ G (cfT []) 0 := zjd B [] fun p h => by cases h
 refine xr (xd sc) fun gr w l => ?_
 have hn := yl sc
 refine List.forall_mem_cons.mpr ⟨?_, List.forall_mem_cons.mpr ⟨?_, List.forall_mem_cons.mpr ⟨?_, List.forall_mem_cons.mpr ⟨?_, List.forall_mem_cons.mpr ⟨?_, List.forall_mem_cons.mpr ⟨?_, List.forall_mem_cons.mpr ⟨?_, List.forall_mem_cons.mpr ⟨?_, List.forall_mem_cons.mpr ⟨?_, List.forall_mem_cons.mpr ⟨?_, List.forall_mem_cons.mpr ⟨?_, fun p h => by cases h⟩⟩⟩⟩⟩⟩⟩⟩⟩⟩⟩
 ·refine zaP B.r83 fun o fd fr => ?_
  refine ⟨⟨o, fd, fr.ho, fr.hd⟩, fun ds d ⟨c, hc, e1, e2⟩ => ?_⟩
  subst e1 e2
  refine zQ B.map fun f hm hv => ?_
  exact (zjh ok fr (zr rfl) (zr rfl) (zr rfl) (by decide) hm (by rcases hc with h | h | h | h | h | h <;> lia) (hv c hc)).le (by lia)
 ·refine zaP B.r97 fun o fd fr => ?_
  refine ⟨⟨o, fd, fr.ho, fr.hd⟩, fun ds d ⟨S, e1, e2⟩ => ?_⟩
  subst e1 e2
  exact (zot B ok S).le (by lia)
 ·refine zaP B.r113 fun o fd fr => ?_
  refine ⟨⟨o, fd, fr.ho, fr.hd⟩, fun ds d ⟨e1, e2⟩ => ?_⟩
  subst e1 e2
  exact FnC.le (k := 1) (by lia) (zcq ok fr rfl (zki _ (zr rfl) _ (by lia)))
 ·refine zaP B.r120 fun o fd fr => ?_
  refine ⟨⟨o, fd, fr.ho, fr.hd⟩, fun ds d ⟨n, h, e1, e2⟩ => ?_⟩
  subst e1 e2
  exact FnC.le (k := 1) (by lia) (zcq ok fr rfl (zmT _ w h))
 ·refine zaP B.r125 fun o fd fr => ?_
  refine ⟨⟨o, fd, fr.ho, fr.hd⟩, fun ds d ⟨n, e1, e2⟩ => ?_⟩
  subst e1 e2
  exact FnC.le (k := 1) (by lia) (zcq ok fr rfl (zke _ (zr rfl) (zr rfl) w.len w.pos n))
 ·refine zaP B.r132 fun o fd fr => ?_
  refine e6_1 B.rI fun p1 p2 p3 p4 oI fdI frI => ?_
  refine ⟨⟨o, fd, fr.ho, fr.hd⟩, fun ds d ⟨i, nm, h, e1, e2⟩ => ?_⟩
  subst e1 e2
  refine zmP (k := 0) ok B.X₀ B.NC frI fr (zr rfl) B.hC B.hnc ?_
  cases nm with
  | none => exact .inl ⟨rfl, rfl⟩
  | some p =>
   obtain ⟨a, b⟩ := p
   refine zk (h a b rfl) fun g1 g2 => ?_
   have H1 : ∀ a ∈ spS, a.length ≤ 1000 := by decide +kernel
   have H2 : ∀ a ∈ wdS, a.length ≤ 1000 := by decide +kernel
   exact .inr ⟨a, b, rfl, H1 a g1, H2 b g2, rfl⟩
 ·refine zaP B.r139 fun o fd fr => ?_
  refine ⟨⟨o, fd, fr.ho, fr.hd⟩, fun ds d ⟨l, e, h, e1, e2⟩ => ?_⟩
  subst e1 e2
  exact FnC.le (k := 1) (by lia) (zcq ok fr rfl (zj2 _ l e h))
 ·refine zaP B.r144 fun o fd fr => ?_
  refine ⟨⟨o, fd, fr.ho, fr.hd⟩, fun ds d ⟨s, q, h, e1, e2⟩ => ?_⟩
  subst e1 e2
  refine zk (zmp h) fun t1 t2 => ?_
  exact FnC.le (k := 1) (by lia) (zcq ok fr rfl (zkP _ q s t1 t2))
 ·refine zaP B.r151 fun o fd fr => ?_
  refine ⟨⟨o, fd, fr.ho, fr.hd⟩, fun ds d ⟨l, ss, e1, e2⟩ => ?_⟩
  subst e1 e2
  exact FnC.le (k := 1) (by lia) (zlV ok fr (zr rfl) l ss)
 ·refine zaP B.r158 fun o fd fr => ?_
  refine ⟨⟨o, fd, fr.ho, fr.hd⟩, fun ds d ⟨e1, e2⟩ => ?_⟩
  subst e1 e2
  exact (zlY B ok).le (by lia)
 ·refine zaP B.r165 fun o fd fr => ?_
  refine ⟨⟨o, fd, fr.ho, fr.hd⟩, fun ds d ⟨ps, x, h1, h2, h3, h4, e1, e2⟩ => ?_⟩
  subst e1 e2
  exact FnC.le (k := 1) (by lia) (zcq ok fr rfl (zj8 _ (zr rfl) ps x h1 h2 h3 h4))
end
end
section
section
variable {G : Gd} {k : Nat} {Kf : Frag} {P1 P2 P3 : Addr} {sc : List Int}
theorem trCf (sc : List Int) : zn6 (cfT (T1 sc)) where
 len := zr rfl
 esc := zr rfl
 re := rfl
 phi := fun c hc => yg rfl ⟨c, hc, rfl, rfl⟩ (by
  rintro d' ⟨c', _, e, rfl⟩
  simp only [List.cons.injEq, D.str.injEq, and_true] at e
  have := zkl.mp e
  simp only [List.cons.injEq, and_true] at this
  rw [this])
 hook := fun k hk K ρ fp apos ps bd sc lp sp pos h1 h2 h3 h4 h5 => by
  show znJ K ρ _ = _
  refine zi6 ⟨k, fp, apos, ps, bd, sc, lp, sp, pos, hk, rfl, h1, h2, h3, h4, h5, rfl⟩ ?_
  rintro d' ⟨k', fp', apos', ps', bd', sc', lp', sp', pos', hk', e, _, _, _, _, h5', rfl⟩
  rw [h5] at h5'
  simp only [Option.some.injEq, D.str.injEq] at h5'
  rw [h5']
theorem zoL (B : zgr G Kf P1 P2 P3) : ∀ p ∈ T2 sc, Con G 4 p := by
 have h1 := zln (sc := sc) B
 have ok : zZ G (cfT (T1 sc)) 3 := zjd B _ h1
 refine xr (zcc sc) fun g1 g2 g3 => ?_
 refine List.forall_mem_cons.mpr ⟨?_, fun p h => (h1 p h).le (by lia)⟩
 refine zaP B.r90 fun o fd fr => ?_
 refine ⟨⟨o, fd, fr.ho, fr.hd⟩, fun ds d ⟨S, e1, e2⟩ => ?_⟩
 subst e1 e2
 have hb := zgc (yk sc) fun a zz => zhK a
 exact zcq ok fr rfl (zol _ (trCf sc) S _ g2 g3 (by lia) (by lia))
theorem znY (B : zgr G Kf P1 P2 P3) : ∀ p ∈ T3 sc, Con G 5 p := by
 have h1 := zoL (sc := sc) B
 have ok : zZ G (cfT (T2 sc)) 4 := zjd B _ h1
 refine List.forall_mem_cons.mpr ⟨?_, fun p h => (h1 p h).le (by lia)⟩
 refine zaP B.r71 fun o fd fr => ?_
 refine ⟨⟨o, fd, fr.ho, fr.hd⟩, fun ds d ⟨e1, e2⟩ => ?_⟩
 subst e1 e2
 refine zgj ok fr (zr rfl) (zr rfl) (zr rfl) (ps := fun S => .lst ((yk sc).map (yw S))) (fun S => ?_) (fun S => rfl) fun S => ?_
 ·refine yg rfl ⟨S, rfl, rfl⟩ ?_
  rintro d' ⟨S', e, rfl⟩
  simp only [List.cons.injEq, D.opq.injEq, and_true, true_and] at e
  rw [e]
 ·refine yg rfl ⟨S, rfl, rfl⟩ ?_
  rintro d' ⟨S', e, rfl⟩
  rfl
theorem zpa (sc : List Int) : yM (cfT (T3 sc)) sc where
 sum := zr rfl
 len := zr rfl
 range := zr rfl
 list := zr rfl
 iter := zr rfl
 mis := zr rfl
 gtree := zr rfl
 gway := zr rfl
 gbelow := zr rfl
 gnode := zr rfl
 gsteps := zr rfl
 gtext := zr rfl
 gfits := zr rfl
 gpieces := zr rfl
 gtaken := zr rfl
 greduce := zr rfl
 gtrans := zr rfl
 gprep := zr rfl
 tree := yg rfl ⟨rfl, rfl⟩ (by rintro d' ⟨_, rfl⟩; rfl)
 way := fun n h => yg rfl ⟨n, h, rfl, rfl⟩ (by
  rintro d' ⟨n', _, e, rfl⟩
  simp only [List.cons.injEq, D.int.injEq, and_true, true_and] at e
  have : n = n' := by exact_mod_cast e
  rw [this])
 below := fun n => yg rfl ⟨n, rfl, rfl⟩ (by
  rintro d' ⟨n', e, rfl⟩
  simp only [List.cons.injEq, D.int.injEq, and_true, true_and] at e
  rw [e])
 node := fun i nm h => yg rfl ⟨i, nm, h, rfl, rfl⟩ (by
  rintro d' ⟨i', nm', _, e, rfl⟩
  simp only [List.cons.injEq, D.int.injEq, and_true] at e
  rw [e.1, zge _ _ e.2])
 steps := fun l d h => yg rfl ⟨l, d, h, rfl, rfl⟩ (by
  rintro d' ⟨l', e', _, e, rfl⟩
  simp only [List.cons.injEq, D.lst.injEq, D.int.injEq, and_true] at e
  rw [zcC zge e.1, e.2])
 text := fun s q h => yg rfl ⟨s, q, h, rfl, rfl⟩ (by
  rintro d' ⟨s', q', _, e, rfl⟩
  simp only [List.cons.injEq, D.bool.injEq, and_true] at e
  rw [zfz _ _ e.1, e.2])
 trans := yg rfl ⟨rfl, rfl⟩ (by rintro d' ⟨_, rfl⟩; rfl)
 pieces := yg rfl ⟨rfl, rfl⟩ (by rintro d' ⟨_, rfl⟩; rfl)
 taken := fun ps x h1 h2 h3 h4 => yg rfl ⟨ps, x, h1, h2, h3, h4, rfl, rfl⟩ (by
  rintro d' ⟨ps', x', _, _, _, _, e, rfl⟩
  simp only [List.cons.injEq, D.lst.injEq, D.str.injEq, and_true] at e
  rw [zcC zkD e.1, e.2])
 fits := fun l ss => yg rfl ⟨l, ss, rfl, rfl⟩ (by
  rintro d' ⟨l', ss', e, rfl⟩
  simp only [List.cons.injEq, D.lst.injEq, and_true] at e
  rw [zcC zge e.1, zcC zfz e.2])
theorem zkh (B : zgr G Kf P1 P2 P3) (sc : List Int) (hs : sc.length ≤ 63) : FnC G 9 170 [.lst (sc.map .int)] (.bool true) := by
 have ok : zZ G (cfT (T3 sc)) 5 := zjd B _ (znY B)
 refine zaP B.r170 fun o fd fr => ?_
 refine zh3 (zjI sc) fun h1 h2 h3 h4 h5 => ?_
 exact zoV (k := 5) (zpa sc) ⟨⟨ok, B.X₀, B.NC, B.t37, zr rfl, zr rfl, zr rfl, zr rfl⟩, B.hC, B.r38, B.r106, B.m98⟩ B.t169 fr hs (zg5 sc) h1 h2 h3 h4 h5
end
end
noncomputable section
noncomputable def cSt : Option Stmt := match yC 3 with | some (.ClassDef _ _ _ b _ _ _ _ _ _ _) => b[1]? | _ => none
noncomputable def fdO (st : Option Stmt) (q : Str) (d : Value) (m : Str) (t c : Nat) : FuncData := match st with
 | some (.FunctionDef n ps b _ _ _ sc _ _ _) => { name := n, qualname := q, params := ps, body := .stmts b, scope := sc, globals := 3, closure := [], defaults := d, kwdefaults := .none, pyModule := .str m t, code := .ref c }
 | _ => default
noncomputable def fnO (st : Option Stmt) (q : Str) (d : Value) (m : Str) (t c : Nat) : Obj := ⟨.type "function", none, .func (fdO st q d m t c), #[]⟩
noncomputable def nmO (i : Nat) : Str := match yC i with | some (.FunctionDef n _ _ _ _ _ _ _ _ _) => n | _ => ""
noncomputable def fnD (i : Nat) (d : Value) (m : Str) (t c : Nat) : Obj := fnO (yC i) (nmO i) d m t c
noncomputable def cdO (n q : Str) (t l k r : Nat) (x y z : Value) (u : Nat) : Obj := ⟨.type "code", none, .fields #[.str n t, .str q (t + 1), .str "/claim/cut.py" (t + 2), .int l 0, .int k 0, .int 0 0, .int 0 0, .int 3 0, .ref r, .bool true, .int 276 0, .ref (r + 1), .none, x, y, z, .int u 0, .int l 0, .str "/claim/cut.py" (u + 1)], #[]⟩
noncomputable def E (P : Params) (x : Str) (t : Nat) (v : Value) : DictEntry := { hash := PyData.keyHash P x, key := .str x t, val := v }
noncomputable def I (i : Int) (t : Nat) (x : Str) (u : Nat) : DictEntry := { hash := i, key := .int i t, val := .str x u }
noncomputable def K (P : Params) : Frag := [
 (3, ⟨.type "dict", none, .dict #[E P "__name__" 165 (.str "law_ik0160_01" 582), E P "__doc__" 166 (.none), E P "__package__" 167 (.none), E P "__loader__" 168 (.builtin "__main__.__loader__#opaque"), E P "__spec__" 169 (.none), E P "__annotations__" 170 (.ref 6), E P "__builtins__" 171 (.ref 4), E P "__file__" 173 (.str "/claim/cut.py" 172), E P "__cached__" 174 (.none), E P "_sre" 275 (.ref 12), E P "_prepare_tag" 298 (.ref 38), E P "_SelectorContext" 328 (.ref 55), E P "_twin_re_1" 368 (.ref 64), E P "translate" 377 (.ref 71), E P "_special_chars_map" 525 (.ref 73), E P "escape" 532 (.ref 83), E P "_translate" 553 (.ref 90), E P "_join_translated_parts" 566 (.ref 97), E P "_initial_missing" 569 (.ref 98), E P "reduce" 581 (.ref 106), E P "_law_tree" 595 (.ref 113), E P "_law_way" 604 (.ref 120), E P "_law_below" 610 (.ref 125), E P "_law_node" 619 (.ref 132), E P "_law_steps" 629 (.ref 139), E P "_law_text" 635 (.ref 144), E P "_law_fits" 645 (.ref 151), E P "_law_pieces" 657 (.ref 158), E P "_law_taken" 669 (.ref 165), E P "law" 675 (.ref 170)] 30, #[]⟩),
 (37, cdO "_prepare_tag" "_prepare_tag" 284 3 1 32 (.ref 34) (.ref 35) (.ref 36) 296),
 (38, fnD 2 (.none) "cpy313.xml.etree.ElementPath" 282 37),
 (70, cdO "translate" "translate" 369 47 1 65 (.ref 67) (.ref 68) (.ref 69) 375),
 (71, fnD 6 (.none) "cpy313.fnmatch" 329 70),
 (82, cdO "escape" "escape" 526 53 1 77 (.ref 79) (.ref 80) (.ref 81) 530),
 (83, fnD 9 (.none) "re" 378 82),
 (89, cdO "_translate" "_translate" 535 60 3 84 (.ref 86) (.ref 87) (.ref 88) 551),
 (90, fnD 11 (.none) "cpy313.fnmatch" 533 89),
 (96, cdO "_join_translated_parts" "_join_translated_parts" 554 122 2 91 (.ref 93) (.ref 94) (.ref 95) 564),
 (97, fnD 12 (.none) "cpy313.fnmatch" 533 96),
 (105, cdO "reduce" "reduce" 570 151 3 100 (.ref 102) (.ref 103) (.ref 104) 579),
 (106, fnD 15 (.ref 99) "cpy313.functools" 567 105),
 (112, cdO "_law_tree" "_law_tree" 584 164 1 107 (.ref 109) (.ref 110) (.ref 111) 593),
 (113, fnD 17 (.none) "law_ik0160_01" 582 112),
 (119, cdO "_law_way" "_law_way" 596 172 2 114 (.ref 116) (.ref 117) (.ref 118) 602),
 (120, fnD 18 (.none) "law_ik0160_01" 582 119),
 (124, cdO "_law_below" "_law_below" 605 178 2 121 (.none) (.none) (.ref 123) 608),
 (125, fnD 19 (.none) "law_ik0160_01" 582 124),
 (131, cdO "_law_node" "_law_node" 611 180 2 126 (.ref 128) (.ref 129) (.ref 130) 617),
 (132, fnD 20 (.none) "law_ik0160_01" 582 131),
 (138, cdO "_law_steps" "_law_steps" 620 186 2 133 (.ref 135) (.ref 136) (.ref 137) 627),
 (139, fnD 21 (.none) "law_ik0160_01" 582 138),
 (143, cdO "_law_text" "_law_text" 630 197 2 140 (.none) (.none) (.ref 142) 633),
 (144, fnD 22 (.none) "law_ik0160_01" 582 143),
 (150, cdO "_law_fits" "_law_fits" 636 207 2 145 (.ref 147) (.ref 148) (.ref 149) 643),
 (151, fnD 23 (.none) "law_ik0160_01" 582 150),
 (157, cdO "_law_pieces" "_law_pieces" 646 212 1 152 (.ref 154) (.ref 155) (.ref 156) 655),
 (158, fnD 24 (.none) "law_ik0160_01" 582 157),
 (164, cdO "_law_taken" "_law_taken" 658 245 2 159 (.ref 161) (.ref 162) (.ref 163) 667),
 (165, fnD 25 (.none) "law_ik0160_01" 582 164),
 (169, cdO "law" "law" 670 258 1 166 (.none) (.none) (.ref 168) 673),
 (170, fnD 26 (.none) "law_ik0160_01" 582 169),
 (54, ⟨.type "dict", none, .dict #[E P "__module__" 306 (.str "cpy313.xml.etree.ElementPath" 282), E P "__firstlineno__" 310 (.int 40 309), E P "parent_map" 311 (.none), E P "__init__" 319 (.ref 52), E P "__static_attributes__" 321 (.ref 53), E P "__dict__" 323 (.ref 56), E P "__weakref__" 325 (.ref 57), E P "__doc__" 326 (.none)] 4, #[]⟩),
 (73, ⟨.type "dict", none, .dict #[I 40 381 "\\(" 385, I 41 387 "\\)" 391, I 91 393 "\\[" 397, I 93 399 "\\]" 403, I 123 405 "\\{" 409, I 125 411 "\\}" 415, I 63 417 "\\?" 421, I 42 423 "\\*" 427, I 43 429 "\\+" 433, I 45 435 "\\-" 439, I 124 441 "\\|" 445, I 94 447 "\\^" 451, I 36 453 "\\$" 457, I 92 459 "\\\\" 463, I 46 465 "\\." 469, I 38 471 "\\&" 475, I 126 477 "\\~" 481, I 35 483 "\\#" 487, I 32 489 "\\ " 493, I 9 495 "\\\t" 499, I 10 501 "\\\n" 505, I 13 507 "\\\x0d" 511, I 11 513 "\\\x0b" 517, I 12 519 "\\\x0c" 523] 24, #[]⟩),
 (55, { cls := .type "type", data := .cls { name := "_SelectorContext", bases := [.type "object"], mro := [.ref 55, .type "object"], ns := 54, qualname := "_SelectorContext" }, slots := #[none, none, some (.str "_SelectorContext" 299), some (.str "_SelectorContext" 307), some (.builtin "object.__new__"), some (.bool true)] }),
 (63, { cls := .type "tuple", data := .seq #[.int 14 0, .int 14 0, .int 4 0, .int 1 0, .int 1 0, .int 9 0, .int 0 0, .int 64 0, .int 0 0, .int 1342177280 0, .int 0 0, .int 0 0, .int 0 0, .int 0 0, .int 0 0, .int 17 0, .int 0 0, .int 13 0, .int 11 0, .int 9 0, .int 0 0, .int 64 0, .int 0 0, .int 1342177280 0, .int 0 0, .int 0 0, .int 0 0, .int 0 0, .int 0 0, .int 17 0, .int 1 0, .int 1 0] }),
 (64, { cls := .type "re.Pattern", data := .fields #[.str "([&~|])" 332, .int 32 367, .int 1 0, .none, .none, .ref 63, .int 0 0] }),
 (98, { cls := .type "object" }),
 (99, { cls := .type "tuple", data := .seq #[.ref 98] }),
 (51, cdO "__init__" "_SelectorContext.__init__" 312 43 2 46 (.ref 48) (.ref 49) (.ref 50) 317),
 (52, fnO cSt ("_SelectorContext.__init__" : Str) .none "cpy313.xml.etree.ElementPath" 282 51)]
noncomputable def kA : List Addr := [3, 37, 38, 70, 71, 82, 83, 89, 90, 96, 97, 105, 106, 112, 113, 119, 120, 124, 125, 131, 132, 138, 139, 143, 144, 150, 151, 157, 158, 164, 165, 169, 170, 54, 73, 55, 63, 64, 98, 99, 51, 52]
noncomputable def kT : List Addr := [85, 33, 167]
theorem zo4 (P : Params) : kA = (K P).map (·.1) := by kernel_rfl
noncomputable def hk : Hook := kmHook K kA zo4 kT
noncomputable abbrev pw : Program := PySem.Challenge.pw_ik0160_01
noncomputable def qv : Program := view pw [0, 26]
noncomputable def lz : List Str := ["_prepare_tag", "_SelectorContext", "_twin_re_1", "translate", "_special_chars_map", "escape", "_translate", "_join_translated_parts", "_initial_missing", "reduce", "_law_tree", "_law_way", "_law_below", "_law_node", "_law_steps", "_law_text", "_law_fits", "_law_pieces", "_law_taken"]
noncomputable abbrev rwW : RowW := PySem.Challenge.rw_ik0160_01.row.toRowW
noncomputable def xt (s : Shared) : Bool := recOk rwW.records s
theorem said : PySem.Challenge.rw_ik0160_01.wellSaid = true := by
 rw [show @OpenLaw.wellSaid = Fast.tw9446332074065402090 from Fast.te9446332074065402090]
 kernel_rfl
noncomputable abbrev zaq (w : World) : Prop := (openEnds treeTable pw w 4446).map (fun s => (openSeen qv lz (importedModules pw.main.body) xt true s, hk.obs s)) = some (openGood qv lz, hk.val w)
theorem zmE (w : World) : zaq ((w.withFollow "special-get-raises" false).withFollow "comprehension-iter-twice" false) := by
 unfold zaq openEnds fencedOpening topFrom
 rw [show @importEnds = Fast.tw10274390034422433532 from Fast.te10274390034422433532, show @treeTable = Fast.tw14364793385576792824 from Fast.te14364793385576792824, show @fenceModules? = Fast.tw14289696077712309145 from Fast.te14289696077712309145, show @topRun = Fast.tw14082659384304107361 from Fast.te14082659384304107361, show @start = Fast.tw1435165496053646825 from Fast.te1435165496053646825, show @openSeen = Fast.tw4187177175401517315 from Fast.te4187177175401517315, show @importedModules = Fast.tw5923862056798008813 from Fast.te5923862056798008813, show @Heap.nsMap = Fast.tw8920871248978507458 from Fast.te8920871248978507458]
 kernel_rfl
theorem zns (w : World) : zaq ((w.withFollow "special-get-raises" false).withFollow "comprehension-iter-twice" true) := by
 unfold zaq openEnds fencedOpening topFrom
 rw [show @importEnds = Fast.tw10274390034422433532 from Fast.te10274390034422433532, show @treeTable = Fast.tw14364793385576792824 from Fast.te14364793385576792824, show @fenceModules? = Fast.tw14289696077712309145 from Fast.te14289696077712309145, show @topRun = Fast.tw14082659384304107361 from Fast.te14082659384304107361, show @start = Fast.tw1435165496053646825 from Fast.te1435165496053646825, show @openSeen = Fast.tw4187177175401517315 from Fast.te4187177175401517315, show @importedModules = Fast.tw5923862056798008813 from Fast.te5923862056798008813, show @Heap.nsMap = Fast.tw8920871248978507458 from Fast.te8920871248978507458]
 kernel_rfl
theorem zlU (w : World) : zaq ((w.withFollow "special-get-raises" true).withFollow "comprehension-iter-twice" false) := by
 unfold zaq openEnds fencedOpening topFrom
 rw [show @importEnds = Fast.tw10274390034422433532 from Fast.te10274390034422433532, show @treeTable = Fast.tw14364793385576792824 from Fast.te14364793385576792824, show @fenceModules? = Fast.tw14289696077712309145 from Fast.te14289696077712309145, show @topRun = Fast.tw14082659384304107361 from Fast.te14082659384304107361, show @start = Fast.tw1435165496053646825 from Fast.te1435165496053646825, show @openSeen = Fast.tw4187177175401517315 from Fast.te4187177175401517315, show @importedModules = Fast.tw5923862056798008813 from Fast.te5923862056798008813, show @Heap.nsMap = Fast.tw8920871248978507458 from Fast.te8920871248978507458]
 kernel_rfl
theorem zmC (w : World) : zaq ((w.withFollow "special-get-raises" true).withFollow "comprehension-iter-twice" true) := by
 unfold zaq openEnds fencedOpening topFrom
 rw [show @importEnds = Fast.tw10274390034422433532 from Fast.te10274390034422433532, show @treeTable = Fast.tw14364793385576792824 from Fast.te14364793385576792824, show @fenceModules? = Fast.tw14289696077712309145 from Fast.te14289696077712309145, show @topRun = Fast.tw14082659384304107361 from Fast.te14082659384304107361, show @start = Fast.tw1435165496053646825 from Fast.te1435165496053646825, show @openSeen = Fast.tw4187177175401517315 from Fast.te4187177175401517315, show @importedModules = Fast.tw5923862056798008813 from Fast.te5923862056798008813, show @Heap.nsMap = Fast.tw8920871248978507458 from Fast.te8920871248978507458]
 kernel_rfl
theorem left : LeftO pw qv lz xt hk.obs hk.val 4446 := byRow2 "comprehension-iter-twice" (P := zaq)
 (byRow2 "special-get-raises" (P := fun w => zaq (w.withFollow "comprehension-iter-twice" false)) zmE zlU)
 (byRow2 "special-get-raises" (P := fun w => zaq (w.withFollow "comprehension-iter-twice" true)) zns zmC)
noncomputable def lawD : DefRec := match yC 26 with | some (.FunctionDef n ps b _ _ _ sc _ _ p) => ⟨n, ps, b, sc, p⟩ | _ => ⟨"", default, [], default, default⟩
theorem head (call : WalkO qv lz (fun zz zz => True) hk.says rwW lawD [] fun f vs => PySem.call f vs) : PySem.Challenge.rw_ik0160_01.Holds := by
 refine holds_law said fun sd => holds_open left hk.of hk.keeps (fun zz zz => trivial) (fun zz zz zz zz zz => trivial) (by kernel_rfl) (by kernel_rfl) (by kernel_rfl) (fun s e => recFacts_of e) (by kernel_rfl) sd (by kernel_rfl) ⟨rfl, rfl, rfl, rfl, rfl, by decide +kernel⟩ ?_ call
 w_witness2
end
set_option maxHeartbeats 4000000
theorem zjN {α : Type} {P : List α → Prop} (h : ∀ a, P [a]) (l : List α) (e : l.length = 1) : P l := by
 match l, e with
 | [a], _ => exact h a
theorem zgf {α : Type} {P : List α → Prop} (h : ∀ a b, P [a, b]) (l : List α) (e : l.length = 2) : P l := by
 match l, e with
 | [a, b], _ => exact h a b
theorem len3 {α : Type} {P : List α → Prop} (h : ∀ a b c, P [a, b, c]) (l : List α) (e : l.length = 3) : P l := by
 match l, e with
 | [a, b, c], _ => exact h a b c
theorem xY {G : Gd} {P : Params} (X : (K P).In G.hb) {a : Addr} {st : Option Stmt} {q m : Str} {d : Value} {t c : Nat} {body : List Stmt} {K' : Kn} {ps : List Str} (hl : (K P).lookup a = some (fnO st q d m t c))
  (hb : ((fdO st q d m t c).body, (fdO st q d m t c).closure, (fdO st q d m t c).globals, (fdO st q d m t c).builtins, (fdO st q d m t c).scope.names, (fdO st q d m t c).scope.kind, (fdO st q d m t c).scope.isCoroutine, (fdO st q d m t c).scope.isGenerator, (fdO st q d m t c).code, (fdO st q d m t c).qualname, codeIn (K P) (.ref c) q) =
   (.stmts body, [], mainGlobals, builtinsNs, K', .function, false, false, .ref c, q, true))
  (hbind : ∀ vals : List Value, vals.length = ps.length → ∀ s : Shared, (∀ b o, G.hb.get? b = some o → s.heap.get? b = some o) → BindsTo s (fdO st q d m t c) ⟨vals, []⟩ (ps.zip vals))
  (hp : (ps.all (fun x => K'.lookup x == some .local || K'.lookup x == some .cell) && decide ps.Nodup && K'.all (fun p => p.2 != .free)) = true)
  (hcod : x5 K' = none ∨ x5 K' = some (.ref c, q ++ (".<locals>." : Str))) : ∃ o fd, zn G a o fd body K' ps := by
 simp only [Prod.mk.injEq] at hb
 obtain ⟨b1, b2, b3, b4, b5, b6, b7, b8, b9, b10, b11⟩ := hb
 simp only [Bool.and_eq_true, decide_eq_true_eq] at hp
 refine ⟨_, _, zjg X hl rfl b1 b2 b3 b4 (by rw [b9, b10]; exact b11) b5 b6 b7 b8 hbind hp.1.1 hp.1.2 hp.2 fun c' e => ?_⟩
 rw [b9, b10]
 rcases hcod with h | h
 ·rw [h] at e; exact zA e
 ·rw [h] at e; cases e; exact ⟨rfl, rfl⟩
theorem hr38 {G : Gd} (P : Params) (X : (K P).In G.hb) : ∃ o fd, zn G 38 o fd (zM 2) (zE 2) ["tag"] :=
 xY (st := yC 2) (q := nmO 2) (d := .none) (m := "cpy313.xml.etree.ElementPath") (t := 282) (c := 37) X (by kernel_rfl) (by kernel_rfl) (zjN fun x s zz => .of_eq (by kernel_rfl)) (by kernel_rfl) (.inr (by kernel_rfl))
theorem hr71 {G : Gd} (P : Params) (X : (K P).In G.hb) : ∃ o fd, zn G 71 o fd (zM 6) (zE 6) ["pat"] :=
 xY (st := yC 6) (q := nmO 6) (d := .none) (m := "cpy313.fnmatch") (t := 329) (c := 70) X (by kernel_rfl) (by kernel_rfl) (zjN fun x s zz => .of_eq (by kernel_rfl)) (by kernel_rfl) (.inl (by kernel_rfl))
theorem hr83 {G : Gd} (P : Params) (X : (K P).In G.hb) : ∃ o fd, zn G 83 o fd (zM 9) (zE 9) ["pattern"] :=
 xY (st := yC 9) (q := nmO 9) (d := .none) (m := "re") (t := 378) (c := 82) X (by kernel_rfl) (by kernel_rfl) (zjN fun x s zz => .of_eq (by kernel_rfl)) (by kernel_rfl) (.inl (by kernel_rfl))
theorem hr90 {G : Gd} (P : Params) (X : (K P).In G.hb) : ∃ o fd, zn G 90 o fd (zM 11) (zE 11) ["pat", "STAR", "QUESTION_MARK"] :=
 xY (st := yC 11) (q := nmO 11) (d := .none) (m := "cpy313.fnmatch") (t := 533) (c := 89) X (by kernel_rfl) (by kernel_rfl) (len3 fun x y z s zz => .of_eq (by kernel_rfl)) (by kernel_rfl) (.inr (by kernel_rfl))
theorem hr97 {G : Gd} (P : Params) (X : (K P).In G.hb) : ∃ o fd, zn G 97 o fd (zM 12) (zE 12) ["inp", "STAR"] :=
 xY (st := yC 12) (q := nmO 12) (d := .none) (m := "cpy313.fnmatch") (t := 533) (c := 96) X (by kernel_rfl) (by kernel_rfl) (zgf fun x y s zz => .of_eq (by kernel_rfl)) (by kernel_rfl) (.inl (by kernel_rfl))
theorem zpe {G : Gd} (P : Params) (X : (K P).In G.hb) : ∃ o fd, zn G 106 o fd (zM 15) (zE 15) ["function", "sequence", "initial"] :=
 xY (st := yC 15) (q := nmO 15) (d := .ref 99) (m := "cpy313.functools") (t := 567) (c := 105) X (by kernel_rfl) (by kernel_rfl) (len3 fun x y z s kk => BindsTo.of_defaults rfl (kk _ _ (X _ _ (by first | rfl | kernel_rfl))) rfl rfl rfl) (by kernel_rfl) (.inl (by kernel_rfl))
theorem zpc {G : Gd} (P : Params) (X : (K P).In G.hb) : ∃ o fd, zn G 113 o fd (zM 17) (zE 17) ["numbers"] :=
 xY (st := yC 17) (q := nmO 17) (d := .none) (m := "law_ik0160_01") (t := 582) (c := 112) X (by kernel_rfl) (by kernel_rfl) (zjN fun x s zz => .of_eq (by kernel_rfl)) (by kernel_rfl) (.inl (by kernel_rfl))
theorem zpk {G : Gd} (P : Params) (X : (K P).In G.hb) : ∃ o fd, zn G 120 o fd (zM 18) (zE 18) ["tree", "n"] :=
 xY (st := yC 18) (q := nmO 18) (d := .none) (m := "law_ik0160_01") (t := 582) (c := 119) X (by kernel_rfl) (by kernel_rfl) (zgf fun x y s zz => .of_eq (by kernel_rfl)) (by kernel_rfl) (.inl (by kernel_rfl))
theorem zpg {G : Gd} (P : Params) (X : (K P).In G.hb) : ∃ o fd, zn G 125 o fd (zM 19) (zE 19) ["tree", "n"] :=
 xY (st := yC 19) (q := nmO 19) (d := .none) (m := "law_ik0160_01") (t := 582) (c := 124) X (by kernel_rfl) (by kernel_rfl) (zgf fun x y s zz => .of_eq (by kernel_rfl)) (by kernel_rfl) (.inl (by kernel_rfl))
theorem zpG {G : Gd} (P : Params) (X : (K P).In G.hb) : ∃ o fd, zn G 132 o fd (zM 20) (zE 20) ["number", "name"] :=
 xY (st := yC 20) (q := nmO 20) (d := .none) (m := "law_ik0160_01") (t := 582) (c := 131) X (by kernel_rfl) (by kernel_rfl) (zgf fun x y s zz => .of_eq (by kernel_rfl)) (by kernel_rfl) (.inl (by kernel_rfl))
theorem zpA {G : Gd} (P : Params) (X : (K P).In G.hb) : ∃ o fd, zn G 139 o fd (zM 21) (zE 21) ["way", "digits"] :=
 xY (st := yC 21) (q := nmO 21) (d := .none) (m := "law_ik0160_01") (t := 582) (c := 138) X (by kernel_rfl) (by kernel_rfl) (zgf fun x y s zz => .of_eq (by kernel_rfl)) (by kernel_rfl) (.inl (by kernel_rfl))
theorem zo7 {G : Gd} (P : Params) (X : (K P).In G.hb) : ∃ o fd, zn G 144 o fd (zM 22) (zE 22) ["step", "quoted"] :=
 xY (st := yC 22) (q := nmO 22) (d := .none) (m := "law_ik0160_01") (t := 582) (c := 143) X (by kernel_rfl) (by kernel_rfl) (zgf fun x y s zz => .of_eq (by kernel_rfl)) (by kernel_rfl) (.inl (by kernel_rfl))
theorem zpm {G : Gd} (P : Params) (X : (K P).In G.hb) : ∃ o fd, zn G 151 o fd (zM 23) (zE 23) ["way", "steps"] :=
 xY (st := yC 23) (q := nmO 23) (d := .none) (m := "law_ik0160_01") (t := 582) (c := 150) X (by kernel_rfl) (by kernel_rfl) (zgf fun x y s zz => .of_eq (by kernel_rfl)) (by kernel_rfl) (.inl (by kernel_rfl))
theorem zpu {G : Gd} (P : Params) (X : (K P).In G.hb) : ∃ o fd, zn G 158 o fd (zM 24) (zE 24) ["told"] :=
 xY (st := yC 24) (q := nmO 24) (d := .none) (m := "law_ik0160_01") (t := 582) (c := 157) X (by kernel_rfl) (by kernel_rfl) (zjN fun x s zz => .of_eq (by kernel_rfl)) (by kernel_rfl) (.inl (by kernel_rfl))
theorem zpn {G : Gd} (P : Params) (X : (K P).In G.hb) : ∃ o fd, zn G 165 o fd (zM 25) (zE 25) ["pieces", "text"] :=
 xY (st := yC 25) (q := nmO 25) (d := .none) (m := "law_ik0160_01") (t := 582) (c := 164) X (by kernel_rfl) (by kernel_rfl) (zgf fun x y s zz => .of_eq (by kernel_rfl)) (by kernel_rfl) (.inl (by kernel_rfl))
theorem zpr {G : Gd} (P : Params) (X : (K P).In G.hb) : ∃ o fd, zn G 170 o fd (zM 26) (zE 26) ["script"] :=
 xY (st := yC 26) (q := nmO 26) (d := .none) (m := "law_ik0160_01") (t := 582) (c := 169) X (by kernel_rfl) (by kernel_rfl) (zjN fun x s zz => .of_eq (by kernel_rfl)) (by kernel_rfl) (.inr (by kernel_rfl))
theorem hrI {G : Gd} (P : Params) (X : (K P).In G.hb) : ∃ p1 p2 p3 p4 o fd, zn G 52 o fd (zg7 p1 p2 p3 p4) zfx ["self", "root"] :=
 ⟨⟨44, 8, 44, 12⟩, ⟨44, 8, 44, 17⟩, ⟨44, 20, 44, 24⟩, ⟨44, 8, 44, 24⟩, xY (st := cSt) (q := "_SelectorContext.__init__") (d := .none) (m := "cpy313.xml.etree.ElementPath") (t := 282) (c := 51) X (by kernel_rfl) (by kernel_rfl) (zgf fun x y s zz => .of_eq (by kernel_rfl)) (by kernel_rfl) (.inl (by kernel_rfl))⟩
section
open PySem.Builtin PySem.Builtin.Re
set_option maxHeartbeats 4000000
theorem hNC (P : Params) : x0 (K P) 55 52 := by
 constructor <;> kernel_rfl
theorem hnt (P : Params) : noTabs (K P) = true := by kernel_rfl
theorem hoc (P : Params) : ∃ oc : Obj, (K P).lookup 55 = some oc := ⟨_, by first | rfl | kernel_rfl⟩
noncomputable def zh1 (Kf : Frag) (p : Str × D) : Bool := match p.2 with
 | .opq a => nsIn Kf mainGlobals p.1 == some (some (.ref a))
 | .blt n => nsIn Kf mainGlobals p.1 == some none && bootBuiltins p.1 == some (.builtin n) && p.1 != "__name__"
 | .typ n => nsIn Kf mainGlobals p.1 == some none && bootBuiltins p.1 == some (.type n) && p.1 != "__name__"
 | _ => false
theorem hgl (P : Params) : zls.all (zh1 (K P)) = true := by kernel_rfl
theorem zn3 {Kf : Frag} {h : Heap} {p : Program} {loose : List Str} {mean : ExcName → Option Value} {mg mb : Str → Option Value} (X : Kf.In h) (T : Top p loose mean mg mb h) {q : Str × D} (e : zh1 Kf q = true) {C : Addr} : ∃ v, (mg q.1 = some v ∨ (mg q.1 = none ∧ mb q.1 = some v)) ∧ ∀ X h, Rd C X h q.2 v := by
 obtain ⟨x, d⟩ := q
 unfold zh1 at e
 set_option tactic.hygienic true in split at e
 ·rename_i a hd
  have := eq_of_beq e
  refine ⟨_, .inl (mg_of X T.g this), fun X h => ?_⟩
  rw [hd]; exact Rd.opq'
 ·rename_i n hd
  simp only [Bool.and_eq_true, bne_iff_ne] at e
  refine ⟨.builtin n, .inr ⟨mg_none_of X T.g (eq_of_beq e.1.1), (T.builtins _ e.2).trans (eq_of_beq e.1.2)⟩, fun X h => ?_⟩
  rw [hd]; exact Rd.blt'
 ·rename_i n hd
  simp only [Bool.and_eq_true, bne_iff_ne] at e
  refine ⟨.type n, .inr ⟨mg_none_of X T.g (eq_of_beq e.1.1), (T.builtins _ e.2).trans (eq_of_beq e.1.2)⟩, fun X h => ?_⟩
  rw [hd]; exact Rd.typ'
 ·cases e
noncomputable def ziA (es : List DictEntry) : Bool := es.all fun e => match e.key with
 | .int i _ => e.hash == hashInt i
 | _ => false
theorem zl0 {prog : Program} {w : World} {es : Array DictEntry} (h : ziA es.toList = true) : KeysOf (intKind prog w) es := by
 intro e he
 have := List.all_eq_true.mp h e (by simpa using he)
 set_option tactic.hygienic true in split at this
 ·rename_i i t hk
  refine ⟨i, ?_, eq_of_beq this⟩
  rw [hk]
  show Value.isInt i (.int i t) = true
  simp [Value.isInt]
 ·cases this
theorem hmap (P : Params) : ∃ o es ep, (K P).lookup 73 = some o ∧ o.ExactDict ∧ o.data = .dict es ep ∧ ziA es.toList = true ∧ findBy Value.isInt es 47 = none ∧ findBy Value.isInt es 97 = none ∧ findBy Value.isInt es 98 = none ∧ findBy Value.isInt es 117 = none ∧
  (∃ u, findBy Value.isInt es 123 = some (.str (⟨#[92, 123]⟩ : Str) u)) ∧ ∃ u, findBy Value.isInt es 125 = some (.str (⟨#[92, 125]⟩ : Str) u) :=
 ⟨_, _, _, by first | rfl | kernel_rfl, ⟨rfl, rfl, rfl⟩, rfl, by kernel_rfl, by kernel_rfl, by kernel_rfl, by kernel_rfl, by kernel_rfl, ⟨_, by first | rfl | kernel_rfl⟩, ⟨_, by first | rfl | kernel_rfl⟩⟩
theorem hre (P : Params) : ∃ b t1 t2 x vs m ob, nsIn (K P) mainGlobals "_twin_re_1" = some (some (.ref 64)) ∧ (K P).lookup 64 = some (zdh b t1 t2 x) ∧ (K P).lookup b = some ob ∧ ob.data = .seq vs m ∧ (vs.map reRawOf).map (·.toNat) = zbB :=
 ⟨_, _, _, _, _, _, _, by kernel_rfl, by first | rfl | kernel_rfl, by first | rfl | kernel_rfl, rfl, by first | rfl | kernel_rfl⟩
theorem h98 (P : Params) : ∃ o98 : Obj, (K P).lookup 98 = some o98 ∧ ∀ vs n, o98 ≠ zW vs n :=
 ⟨_, by first | rfl | kernel_rfl, fun vs n q => by have := congrArg Obj.data q; cases this⟩
end
section
open PySem.Builtin PySem.Builtin.Re
noncomputable abbrev zbE : List (Addr × Addr) := [(89, 85), (37, 33), (169, 167)]
noncomputable def qOf (P : Addr) : Str := if P = 85 then ("_translate.<locals>." : Str) ++ ("<lambda>" : Str) else if P = 33 then ("_prepare_tag.<locals>." : Str) ++ ("select" : Str) else ("law.<locals>." : Str) ++ ("<lambda>" : Str)
theorem ze3 {h : Heap} {tabs : List (Addr × Addr)} {p : Program} {loose : List Str} {mean : ExcName → Option Value} {mg mb : Str → Option Value} (T : Top p loose mean mg mb h) (hT : TabsAt tabs h) {P : Addr} (hP : P ∈ tabs.map (·.2)) : (ghostOf h tabs).BuiltinsAt mg P := by
 refine zhL ((ghost_top hT T).bmain) fun bm ob a1 a2 a3 a4 a5 a6 => ?_
 refine yI T.g fun o es ep e hd' zz5 => ?_
 refine ⟨bm, ob, a1, a2, fun q => ?_, fun q => ?_, a3, a4, a5, a6⟩
 ·have := of_hideAll _ a3
  rw [q, e] at this; cases this
  rw [hd'] at a6; cases a6
 ·rw [q, hideAll_none _ hP] at a3; exact zA a3
theorem znq {prog : Program} {w : World} {h : Heap} {p : Program} {loose : List Str} {mean : ExcName → Option Value} {mg mb : Str → Option Value} (KX : (K w.params).In h) (T : Top p loose mean mg mb h) (hT : TabsAt zbE h) :
  ∃ G : Gd, G.prog = prog ∧ G.w = w ∧ G.T = zbE.map (·.2) ∧ zgr G (K w.params) 85 33 167 ∧ Cx G h := by
 have X : (K w.params).In (ghostOf h zbE) := ghost_K hT KX (hnt w.params)
 have T' := ghost_top hT T
 have hc := ghost_code hT
 refine ⟨zof prog w (ghostOf h zbE) (zbE.map (·.2)) qOf 55 mg mb (ghost_ns hT T.g) (ghost_ns hT T.b) T'.nolimit (fun a ha => hideAll_none _ ha), rfl, rfl, rfl, ?_, zkF hT⟩
 refine zc1 hc fun hc1 hc2 hc3 zz3 => ?_
 refine zU (hoc w.params) fun oC hoC => ?_
 refine e7_5 (hre w.params) fun b t1 t2 x vs m ob g1 g2 g3 g4 g5 => ?_
 obtain ⟨o73, es, ep, m1, m2, m3, m4, m5, m6, m7, m8, ⟨u1, m9⟩, ⟨u2, m10⟩⟩ := hmap w.params
 refine zQ (h98 w.params) fun o98 n1 n2 => ?_
 exact
  {X₀ := X
   hC := rfl
   NC := hNC _
   hnc := ⟨oC, hoC⟩
   gam := fun q hq => zn3 X T' (List.all_eq_true.mp (hgl w.params) q hq)
   rI := hrI _ X
   r38 := hr38 _ X
   r71 := hr71 _ X
   r83 := hr83 _ X
   r90 := hr90 _ X
   r97 := hr97 _ X
   r106 := zpe _ X
   r113 := zpc _ X
   r120 := zpk _ X
   r125 := zpg _ X
   r132 := zpG _ X
   r139 := zpA _ X
   r144 := zo7 _ X
   r151 := zpm _ X
   r158 := zpu _ X
   r165 := zpn _ X
   r170 := zpr _ X
   re := ⟨64, b, t1, t2, x, vs, m, ob, mg_of X T'.g g1, X _ _ g2, X _ _ g3, g4, g5⟩
   t89 := zgd hc1 (by decide) (ze3 T hT (by decide))
   t37 := zgd hc2 (by decide) (ze3 T hT (by decide))
   t169 := zgd hc3 (by decide) (ze3 T hT (by decide))
   map := ⟨fun k => findBy Value.isInt es k, ⟨o73, es, ep, X _ _ m1, m2, m3, zl0 m4, fun k => rfl⟩, fun c hc => by
    rcases hc with rfl | rfl | rfl | rfl | rfl | rfl
    ·exact .inl ⟨m5, rfl⟩
    ·exact .inl ⟨m6, rfl⟩
    ·exact .inl ⟨m7, rfl⟩
    ·exact .inl ⟨m8, rfl⟩
    ·exact .inr ⟨92, 123, u1, m9, rfl⟩
    ·exact .inr ⟨92, 125, u2, m10, rfl⟩⟩
   m98 := ⟨o98, X _ _ n1, n2⟩ }
theorem zjc {P : Params} {h : Heap} {C : Addr} {X : List Addr} : ∀ {ns : List Int} {vs : List Value}, WellAll P h vs (ofPys (ns.map .int)) → RdL C X h (ns.map .int) vs
 | [], vs, w => by cases w; exact .nil
 | n :: ns, vs, w => by
  cases w with
  | cons a b =>
   cases a with
   | int i t => exact .cons (⟨t, rfl⟩) (zjc b)
theorem law_call {prog : Program} {w : World} {s : Shared} {p : Program} {loose : List Str} {mean : ExcName → Option Value} {mg mb : Str → Option Value} (KX : (K w.params).In s.heap) (T : Top p loose mean mg mb s.heap) (hT : TabsAt zbE s.heap) {sc : List Int} (hs : sc.length ≤ 63) {a : Addr}
  (hw : Well w.params s.heap (.ref a) (ofPy (.list (sc.map .int)))) {E : Value → Shared → Prop} {Q : Value → Shared → Prop}
  (hQ : ∀ s', OldK s.heap s'.heap → s'.os = s.os → (AllBare s.gens → AllBare s'.gens) → Q (.bool true) s') : wpAny (model prog w) callerA (call (.ref 170) [.ref a]) Q E s := by
 refine e1_5 (znq (prog := prog) KX T hT) fun G zz1 zz2 hGT B cx => ?_; subst zz1; subst zz2
 have key := zkh B sc hs
 set_option tactic.hygienic true in cases hw with
 | list e wl =>
  rename_i vs
  have xok : XOk G G.T s.heap := ⟨fun zz h => h, fun b hb => by
   refine zU (G.tabs _ cx.ti b hb) fun us e => ?_
   exact ⟨_, e⟩⟩
  have nT : a ∉ G.T := cx.notTab e zv
  refine wpAny_mono (key callerA G.T s [.ref a] ?_ cx xok (.cons (Rd.lst' nT e (zjc wl)) .nil) E) (fun v s' h => ?_) fun zz zz e => e
  ·exact ⟨rfl, by decide, by decide⟩
  ·refine zk h fun g r => ?_
   have hv : v = .bool true := r
   subst hv
   have grown : ∀ b o, b ∈ zbE.map (·.2) → s.heap.get? b = some o → isCodeTable s.heap b ∧ o = tabObj #[] ∧ ∃ ps, s'.heap.get? b = some (tabObj ps) := fun b o hb e => by
    refine zQ (List.mem_map.mp hb) fun q hq zz2 => ?_; subst zz2
    have e2 := (hT q hq).2
    rw [e] at e2
    exact ⟨((hT q hq).1.tab (hT q hq).2).isCodeTable, Option.some.inj e2, G.tabs _ (g.ti cx.ti) _ (by rw [hGT]; exact hb)⟩
   refine hQ s' ⟨fun b o e => ?_, fun b o e => ?_⟩ g.os g.bare
   ·by_cases hb : b ∈ zbE.map (·.2)
    ·obtain ⟨ht, rfl, ps, hP⟩ := grown b o hb e
     exact .inr (.inl ⟨ht, rfl, #[], ps, rfl, by rw [Array.empty_append]; exact hP⟩)
    ·exact .inl (g.heap b o (by rw [hGT]; exact hb) e)
   ·by_cases hb : b ∈ zbE.map (·.2)
    ·obtain ⟨_, _, ps, hP⟩ := grown b o hb e
     exact ⟨_, hP⟩
    ·exact ⟨o, g.heap b o (by rw [hGT]; exact hb) e⟩
theorem fa_is (P : Params) : nsIn (K P) mainGlobals "law" = some (some (.ref 170)) := by kernel_rfl
end
theorem tabs_at {P : Params} {h : Heap} (KX : (K P).In h) (hT : ∀ a ∈ kT, h.get? a = some (tabObj #[])) : TabsAt zbE h := fun q hq => by
 simp only [zbE, List.mem_cons, List.not_mem_nil, or_false] at hq
 rcases hq with rfl | rfl | rfl
 ·exact ⟨codeHd_of_K KX (by kernel_rfl), hT _ (by decide)⟩
 ·exact ⟨codeHd_of_K KX (by kernel_rfl), hT _ (by decide)⟩
 ·exact ⟨codeHd_of_K KX (by kernel_rfl), hT _ (by decide)⟩
end
end Mine.Internal
open PySem PySem.W PyProof.Rows
theorem PySem.Challenge.cw_ik0160_01_holds : PySem.Challenge.rw_ik0160_01.Holds := by
 refine Mine.Internal.head ?_
 intro w s₀ s₁ mg mb G Y fa o pm cd doc dV kV ho hd' hcd hD hmg hg args vals as hpre hlay hrd hwl hlo
 have KX := km_in_of Y
 have hT9 := Mine.Internal.tabs_at KX (km_tabs_of Y)
 refine Ground.open G ?_
 intro T B D TE TW
 have hfa : fa = 170 := by
  have h1 : mg "law" = some (.ref fa) := hmg
  have h2 := mg_of KX T.g (Mine.Internal.fa_is w.params)
  rw [h2] at h1
  exact (Value.ref.inj (Option.some.inj h1)).symm
 clear ho hd' hcd hD hmg
 subst hfa
 wrow_args hpre hlay hrd hwl hlo
 all_goals (
  rename Well _ _ _ _ => hWW
  refine Mine.Internal.law_call KX T hT9 (by omega) hWW fun s' h1 h2 h3 => ?_
  refine ⟨.inl ⟨.bool true, .bool true, [], rfl, raisesW_false ?_, .bool true, ?_, fun zz => ⟨List.nodup_nil, fun a ha => by cases ha⟩⟩, h1, h2, h3 (.of_eq hg)⟩
  ·wrow_none_raised
  ·wrow_post)

