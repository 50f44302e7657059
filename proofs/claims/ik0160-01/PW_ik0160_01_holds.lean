import PyProof.Rows.All
import Wide.All
import OpenK.AllK
import Wide.FinOn
import PySem.Challenge.RW_ik0160_01
set_option Elab.async false
set_option maxRecDepth 100000
set_option linter.all false
namespace Mine
open PySem PySem.Calls PyProof.Rows PySem.W
inductive D where
 | none
 | bool (b : Bool)
 | int (i : Int)
 | str (s : Str)
 | tup (ds : List D)
 | lst (ds : List D)
 | node (r : Int) (t : Option Str)
 | opq (a : Addr)
 | blt (id : String)
 | typ (n : String)
 | rng (a b : Int)
 | own (ds : List D)
 | app (x : Str)
 | unb
abbrev tupObj (vs : List Value) (n : Nat) : Obj := { cls := .type "tuple", data := .seq vs.toArray n }
abbrev lstObj (vs : List Value) (n : Nat) : Obj := { cls := .type "list", data := .seq vs.toArray n }
def NodeAt (C : Addr) (X : List Addr) (h : Heap) (a : Addr) (r : Int) (t : Option Str) : Prop :=
 ∃ dx es n tr vt, a ∉ X ∧ dx ∉ X ∧ h.get? a = some (instObj C dx) ∧ h.get? dx = some (dictOf es n) ∧
  getL "root" es = some (some (.int r tr)) ∧ getL "tag" es = some (some vt) ∧
  (match t with | some y => ∃ tt, vt = .str y tt | none => vt = .none)
mutual
def Rd (C : Addr) (X : List Addr) (h : Heap) : D → Value → Prop
 | .none, v => v = .none
 | .bool b, v => v = .bool b
 | .int i, v => ∃ t, v = .int i t
 | .str s, v => ∃ t, v = .str s t
 | .tup ds, v => ∃ a vs n, v = .ref a ∧ a ∉ X ∧ h.get? a = some (tupObj vs n) ∧ RdL C X h ds vs
 | .lst ds, v => ∃ a vs n, v = .ref a ∧ a ∉ X ∧ h.get? a = some (lstObj vs n) ∧ RdL C X h ds vs
 | .node r t, v => ∃ a, v = .ref a ∧ NodeAt C X h a r t
 | .opq a, v => v = .ref a
 | .blt id, v => v = .builtin id
 | .typ n, v => v = .type n
 | .rng i j, v => ∃ a t u w, v = .ref a ∧ a ∉ X ∧ h.get? a = some { cls := .type "range", data := .fields #[.int i t, .int j u, .int 1 w] }
 | .own _, _ => False
 | .app _, _ => False
 | .unb, _ => False
def RdL (C : Addr) (X : List Addr) (h : Heap) : List D → List Value → Prop
 | [], vs => vs = []
 | d :: ds, vs => ∃ v vs', vs = v :: vs' ∧ Rd C X h d v ∧ RdL C X h ds vs'
end
mutual
theorem Rd.imp {C : Addr} {X X' : List Addr} {h h' : Heap} (k : ∀ b o, b ∉ X → h.get? b = some o → b ∉ X' ∧ h'.get? b = some o) : ∀ {d : D} {v : Value}, Rd C X h d v → Rd C X' h' d v
 | .none, _, r => by unfold Rd at r ⊢; exact r
 | .bool _, _, r => by unfold Rd at r ⊢; exact r
 | .int _, _, r => by unfold Rd at r ⊢; exact r
 | .str _, _, r => by unfold Rd at r ⊢; exact r
 | .tup ds, v, r => by
  unfold Rd at r ⊢
  obtain ⟨a, vs, n, e, hx, hg, hl⟩ := r
  exact ⟨a, vs, n, e, (k a _ hx hg).1, (k a _ hx hg).2, RdL.imp k hl⟩
 | .lst ds, v, r => by
  unfold Rd at r ⊢
  obtain ⟨a, vs, n, e, hx, hg, hl⟩ := r
  exact ⟨a, vs, n, e, (k a _ hx hg).1, (k a _ hx hg).2, RdL.imp k hl⟩
 | .node _ _, v, r => by
  unfold Rd at r ⊢
  obtain ⟨a, e, dx, es, n, tr, vt, h1, h2, h3, h4, h5⟩ := r
  exact ⟨a, e, dx, es, n, tr, vt, (k a _ h1 h3).1, (k dx _ h2 h4).1, (k a _ h1 h3).2, (k dx _ h2 h4).2, h5⟩
 | .opq _, _, r => by unfold Rd at r ⊢; exact r
 | .blt _, _, r => by unfold Rd at r ⊢; exact r
 | .typ _, _, r => by unfold Rd at r ⊢; exact r
 | .rng _ _, v, r => by
  unfold Rd at r ⊢
  obtain ⟨a, t, u, w, e, hx, hg⟩ := r
  exact ⟨a, t, u, w, e, (k a _ hx hg).1, (k a _ hx hg).2⟩
 | .own _, _, r => by unfold Rd at r; exact r.elim
 | .app _, _, r => by unfold Rd at r; exact r.elim
 | .unb, _, r => by unfold Rd at r; exact r.elim
theorem RdL.imp {C : Addr} {X X' : List Addr} {h h' : Heap} (k : ∀ b o, b ∉ X → h.get? b = some o → b ∉ X' ∧ h'.get? b = some o) : ∀ {ds : List D} {vs : List Value}, RdL C X h ds vs → RdL C X' h' ds vs
 | [], _, r => by unfold RdL at r ⊢; exact r
 | d :: ds, vs, r => by
  unfold RdL at r ⊢
  obtain ⟨v, vs', e, hr, hl⟩ := r
  exact ⟨v, vs', e, Rd.imp k hr, RdL.imp k hl⟩
end
section
variable {C : Addr} {X : List Addr} {h : Heap}
theorem RdL.nil : RdL C X h [] [] := by unfold RdL; rfl
theorem RdL.cons {d ds v vs} (a : Rd C X h d v) (b : RdL C X h ds vs) : RdL C X h (d :: ds) (v :: vs) := by unfold RdL; exact ⟨v, vs, rfl, a, b⟩
theorem RdL.nil_inv {vs} (r : RdL C X h [] vs) : vs = [] := by unfold RdL at r; exact r
theorem RdL.cons_inv {d ds vs} (r : RdL C X h (d :: ds) vs) : ∃ v vs', vs = v :: vs' ∧ Rd C X h d v ∧ RdL C X h ds vs' := by unfold RdL at r; exact r
theorem RdL.length : ∀ {ds : List D} {vs : List Value}, RdL C X h ds vs → vs.length = ds.length
 | [], _, r => by rw [r.nil_inv]; rfl
 | _ :: _, _, r => by obtain ⟨v, vs', rfl, _, l⟩ := r.cons_inv; rw [List.length_cons, List.length_cons, RdL.length l]
theorem RdL.append : ∀ {ds es : List D} {vs us : List Value}, RdL C X h ds vs → RdL C X h es us → RdL C X h (ds ++ es) (vs ++ us)
 | [], _, _, _, r, q => by rw [r.nil_inv]; exact q
 | _ :: _, _, _, _, r, q => by obtain ⟨v, vs', rfl, hr, l⟩ := r.cons_inv; exact .cons hr (RdL.append l q)
theorem RdL.get : ∀ {ds : List D} {vs : List Value} {i : Nat} {d : D}, RdL C X h ds vs → ds[i]? = some d → ∃ v, vs[i]? = some v ∧ Rd C X h d v
 | [], _, _, _, _, e => by simp at e
 | d :: ds, _, 0, _, r, e => by
  obtain ⟨v, vs', rfl, hr, l⟩ := r.cons_inv
  simp at e; subst e
  exact ⟨v, by simp, hr⟩
 | d :: ds, _, i + 1, _, r, e => by
  obtain ⟨v, vs', rfl, hr, l⟩ := r.cons_inv
  simp at e
  obtain ⟨u, h1, h2⟩ := RdL.get l e
  exact ⟨u, by simpa using h1, h2⟩
theorem RdL.take : ∀ {ds : List D} {vs : List Value} (n : Nat), RdL C X h ds vs → RdL C X h (ds.take n) (vs.take n)
 | [], _, n, r => by rw [r.nil_inv]; simp; exact .nil
 | d :: ds, _, 0, r => by simp; exact .nil
 | d :: ds, _, n + 1, r => by
  obtain ⟨v, vs', rfl, hr, l⟩ := r.cons_inv
  simp only [List.take_succ_cons]
  exact .cons hr (RdL.take n l)
theorem RdL.drop : ∀ {ds : List D} {vs : List Value} (n : Nat), RdL C X h ds vs → RdL C X h (ds.drop n) (vs.drop n)
 | [], _, n, r => by rw [r.nil_inv]; simp; exact .nil
 | d :: ds, _, 0, r => by simpa using r
 | d :: ds, _, n + 1, r => by
  obtain ⟨v, vs', rfl, hr, l⟩ := r.cons_inv
  simp only [List.drop_succ_cons]
  exact RdL.drop n l
set_option linter.unusedVariables false in
theorem RdL.map {α : Type} {f : α → D} {g : α → Value} : ∀ {l : List α}, (∀ x ∈ l, Rd C X h (f x) (g x)) → RdL C X h (l.map f) (l.map g)
 | [], _ => .nil
 | x :: l, k => .cons (k x (.head _)) (RdL.map fun y hy => k y (.tail _ hy))
end
theorem zF {h : Heap} {a : Addr} (e : h.objs.size ≤ a) : h.get? a = none := by
 cases q : h.get? a with
 | none => rfl
 | some o => exact absurd (Heap.lt_size q) (Nat.not_lt.mpr e)
def TK (o : Obj) : Prop := ∃ vs, o.data = .fields vs ∧ (o.cls = .none ∨ ∃ q t, vs[1]? = some (.str q t))
structure Gd where
 prog : Program
 w : World
 hb : Heap
 T : List Addr
 TI : Heap → Prop
 C : Addr
 mg : Str → Option Value
 mb : Str → Option Value
 hmg : hb.Ns mainGlobals mg
 hmb : hb.Ns builtinsNs mb
 nolim : hb.NoLimit
 hT : ∀ a ∈ T, hb.get? a = none
 tabs : ∀ h, TI h → ∀ a ∈ T, ∃ vs, h.get? a = some { cls := .none, data := .fields vs }
 frame : ∀ h h', TI h → (∀ b o, TK o → h.get? b = some o → h'.get? b = some o) → TI h'
structure Cx (G : Gd) (h : Heap) : Prop where
 hb : ∀ b o, G.hb.get? b = some o → h.get? b = some o
 ti : G.TI h
structure Gr (G : Gd) (s s' : Shared) : Prop where
 heap : ∀ b o, b ∉ G.T → s.heap.get? b = some o → s'.heap.get? b = some o
 ti : G.TI s.heap → G.TI s'.heap
 os : s'.os = s.os
 bare : AllBare s.gens → AllBare s'.gens
theorem Gr.refl {G : Gd} (s : Shared) : Gr G s s := ⟨fun _ _ _ e => e, id, rfl, id⟩
theorem Gr.trans {G : Gd} {s s₁ s₂ : Shared} (a : Gr G s s₁) (b : Gr G s₁ s₂) : Gr G s s₂ :=
 ⟨fun x o hx e => b.heap x o hx (a.heap x o hx e), fun t => b.ti (a.ti t), b.os.trans a.os, fun t => b.bare (a.bare t)⟩
theorem Gr.of {G : Gd} {s : Shared} {h' : Heap} {tk : Nat} (k : ∀ b o, s.heap.get? b = some o → h'.get? b = some o) : Gr G s { s with heap := h', toks := tk } :=
 ⟨fun b o _ e => k b o e, fun t => G.frame _ _ t fun b o _ e => k b o e, rfl, id⟩
theorem Gr.keeps {G : Gd} {s s' : Shared} (k : Keeps s s') : Gr G s s' := by
 obtain ⟨h', tk, rfl, hk⟩ := k
 exact Gr.of hk
theorem Gr.tok {G : Gd} {s : Shared} {tk : Nat} : Gr G s { s with toks := tk } := Gr.of fun _ _ e => e
theorem Gr.push {G : Gd} {s : Shared} {o : Obj} {tk : Nat} : Gr G s { s with heap := s.heap.push o, toks := tk } := Gr.of fun _ _ e => Heap.get?_push_of_some _ e
theorem Gr.push' {G : Gd} {s : Shared} {o : Obj} : Gr G s { s with heap := s.heap.push o } := Gr.of (tk := s.toks) fun _ _ e => Heap.get?_push_of_some _ e
theorem Gr.cx {G : Gd} {s s' : Shared} (g : Gr G s s') (x : Cx G s.heap) : Cx G s'.heap :=
 ⟨fun b o e => g.heap b o (fun hb => by rw [G.hT b hb] at e; cases e) (x.hb b o e), g.ti x.ti⟩
structure XOk (G : Gd) (X : List Addr) (h : Heap) : Prop where
 tabs : ∀ a ∈ G.T, a ∈ X
 live : ∀ a ∈ X, ∃ o, h.get? a = some o
theorem XOk.low {G : Gd} {X : List Addr} {h : Heap} (x : XOk G X h) : ∀ a ∈ X, a < h.objs.size := fun a ha => let ⟨_, e⟩ := x.live a ha; Heap.lt_size e
theorem XOk.none {G : Gd} {X : List Addr} {h : Heap} {a : Addr} (x : XOk G X h) (e : h.get? a = .none) : a ∉ X := fun ha => by
 obtain ⟨o, q⟩ := x.live a ha
 rw [e] at q; cases q
theorem XOk.gr {G : Gd} {X : List Addr} {s s' : Shared} (x : XOk G X s.heap) (ti : G.TI s.heap) (g : Gr G s s') : XOk G X s'.heap := ⟨x.tabs, fun a ha => by
 by_cases h : a ∈ G.T
 ·obtain ⟨vs, e⟩ := G.tabs _ (g.ti ti) a h
  exact ⟨_, e⟩
 ·obtain ⟨o, e⟩ := x.live a ha
  exact ⟨o, g.heap a o h e⟩⟩
theorem Rd.gr {G : Gd} {X : List Addr} {s s' : Shared} {d : D} {v : Value} (hX : ∀ a ∈ G.T, a ∈ X) (g : Gr G s s') (r : Rd G.C X s.heap d v) : Rd G.C X s'.heap d v :=
 r.imp fun b o hb e => ⟨hb, g.heap b o (fun ht => hb (hX b ht)) e⟩
theorem RdL.gr {G : Gd} {X : List Addr} {s s' : Shared} {d : List D} {v : List Value} (hX : ∀ a ∈ G.T, a ∈ X) (g : Gr G s s') (r : RdL G.C X s.heap d v) : RdL G.C X s'.heap d v :=
 r.imp fun b o hb e => ⟨hb, g.heap b o (fun ht => hb (hX b ht)) e⟩
def Rv (C : Addr) (X : List Addr) (h : Heap) (d : D) (v : Value) : Prop := match d with
 | .own ds => ∃ a vs n, v = .ref a ∧ h.get? a = some (lstObj vs n) ∧ RdL C X h ds vs
 | d => Rd C X h d v
def D.pure : D → Bool
 | .own _ | .app _ | .unb => false
 | _ => true
theorem Rv.rd {C X h d v} (r : Rv C X h d v) (p : d.pure = true) : Rd C X h d v := by cases d <;> first | exact r | cases p
theorem Rd.rv {C X h d v} (r : Rd C X h d v) : Rv C X h d v := by
 cases d <;> first | exact r | (unfold Rd at r; exact r.elim)
theorem Rd.pure {C X h d v} (r : Rd C X h d v) : d.pure = true := by
 cases d <;> first | rfl | (unfold Rd at r; exact r.elim)
theorem Rv.gr {G : Gd} {X : List Addr} {s s' : Shared} {d : D} {v : Value} (hX : ∀ a ∈ G.T, a ∈ X) (x : Cx G s.heap) (g : Gr G s s') (r : Rv G.C X s.heap d v) : Rv G.C X s'.heap d v := by
 cases d with
 | own ds =>
  obtain ⟨a, vs, n, e, hg, hl⟩ := r
  refine ⟨a, vs, n, e, g.heap a _ (fun ht => ?_) hg, hl.gr hX g⟩
  obtain ⟨us, q⟩ := G.tabs _ x.ti a ht
  rw [hg] at q; cases q
 | _ => exact Rd.gr hX g r
def D.list? : D → Option (List D)
 | .lst ds | .own ds => some ds
 | _ => Option.none
theorem Rv.list {C X h d v ds} (e : d.list? = some ds) (r : Rv C X h d v) : ∃ a vs n, v = .ref a ∧ h.get? a = some (lstObj vs n) ∧ RdL C X h ds vs := by
 cases d with
 | lst _ => cases e; have r' : Rd C X h (.lst ds) v := r; unfold Rd at r'; obtain ⟨a, vs, n, e, _, hg, hl⟩ := r'; exact ⟨a, vs, n, e, hg, hl⟩
 | own _ => cases e; exact r
 | _ => cases e
theorem Rv.tup {C X h v ds} (r : Rv C X h (.tup ds) v) : ∃ a vs n, v = .ref a ∧ a ∉ X ∧ h.get? a = some (tupObj vs n) ∧ RdL C X h ds vs := by
 have r' : Rd C X h (.tup ds) v := r; unfold Rd at r'; exact r'
theorem Rv.int {C X h v i} (r : Rv C X h (.int i) v) : ∃ t, v = .int i t := by have r' : Rd C X h (.int i) v := r; unfold Rd at r'; exact r'
theorem Rv.str {C X h v i} (r : Rv C X h (.str i) v) : ∃ t, v = .str i t := by have r' : Rd C X h (.str i) v := r; unfold Rd at r'; exact r'
theorem Rv.bool {C X h v i} (r : Rv C X h (.bool i) v) : v = .bool i := by have r' : Rd C X h (.bool i) v := r; unfold Rd at r'; exact r'
theorem Rv.none {C X h v} (r : Rv C X h .none v) : v = .none := by have r' : Rd C X h .none v := r; unfold Rd at r'; exact r'
theorem Rv.opq {C X h v a} (r : Rv C X h (.opq a) v) : v = .ref a := by have r' : Rd C X h (.opq a) v := r; unfold Rd at r'; exact r'
theorem Rv.blt {C X h v a} (r : Rv C X h (.blt a) v) : v = .builtin a := by have r' : Rd C X h (.blt a) v := r; unfold Rd at r'; exact r'
theorem Rv.typ {C X h v a} (r : Rv C X h (.typ a) v) : v = .type a := by have r' : Rd C X h (.typ a) v := r; unfold Rd at r'; exact r'
theorem Rd.int' {C X h i t} : Rd C X h (.int i) (.int i t) := by unfold Rd; exact ⟨t, rfl⟩
theorem Rd.str' {C X h i t} : Rd C X h (.str i) (.str i t) := by unfold Rd; exact ⟨t, rfl⟩
theorem Rd.bool' {C X h i} : Rd C X h (.bool i) (.bool i) := by unfold Rd; rfl
theorem Rd.none' {C X h} : Rd C X h .none .none := by unfold Rd; rfl
theorem Rd.opq' {C X h a} : Rd C X h (.opq a) (.ref a) := by unfold Rd; rfl
theorem Rd.blt' {C X h a} : Rd C X h (.blt a) (.builtin a) := by unfold Rd; rfl
theorem Rd.typ' {C X h a} : Rd C X h (.typ a) (.type a) := by unfold Rd; rfl
theorem Rd.tup' {C X h a vs n ds} (hx : a ∉ X) (hg : h.get? a = some (tupObj vs n)) (hl : RdL C X h ds vs) : Rd C X h (.tup ds) (.ref a) := by unfold Rd; exact ⟨a, vs, n, rfl, hx, hg, hl⟩
theorem Rd.lst' {C X h a vs n ds} (hx : a ∉ X) (hg : h.get? a = some (lstObj vs n)) (hl : RdL C X h ds vs) : Rd C X h (.lst ds) (.ref a) := by unfold Rd; exact ⟨a, vs, n, rfl, hx, hg, hl⟩
structure Room (k : Nat) (A : Around) : Prop where
 hh : A.handled = none
 depth : A.depth + 2 * k < recursionLimit
 units : A.units + 40 * k + 100 < cLine
def Ev (G : Gd) (A : Around) (X : List Addr) (s : Shared) (t : Sem Value) (d : D) : Prop :=
 ∀ E, wpAny (model G.prog G.w) A t (fun v s' => Gr G s s' ∧ Rv G.C X s'.heap d v) E s
end Mine
namespace Mine
open PySem PySem.Calls PyProof.Rows PySem.W
def bigD : Nat := 1000000
def binD (op : Operator) (a b : D) : Option D := match op with
 | .Add => match a with
  | .int i => match b with | .int j => some (.int (i + j)) | _ => none
  | .str x => match b with | .str y => (match Nat.ble (x.length + y.length) bigD with | true => some (.str (x ++ y)) | false => none) | _ => none
  | a => match a.list? with
   | some xs => match b.list? with
    | some ys => (match Nat.ble (xs.length + ys.length) bigD with | true => some (.lst (xs ++ ys)) | false => none)
    | none => none
   | none => none
 | .Sub => match a with
  | .int i => match b with | .int j => some (.int (i - j)) | _ => none
  | _ => none
 | .Mod => match a with
  | .int i => match b with | .int j => (match decide (j = 0) with | true => none | false => some (.int (i.fmod j))) | _ => none
  | _ => none
 | .FloorDiv => match a with
  | .int i => match b with | .int j => (match decide (0 < j ∧ j < 1000) with | true => some (.int (i.fdiv j)) | false => none) | _ => none
  | _ => none
 | _ => none
def itemEq (y x : D) : Option Bool := match y with
 | .none => match x with | .none => some true | .str _ => some false | .tup _ => some false | _ => none
 | .int i => match x with | .int j => some (i == j) | _ => none
 | .str i => match x with | .str j => some (i == j) | .none => some false | _ => none
 | .tup _ => match x with | .none => some false | _ => none
 | _ => none
def anyEq (x : D) : List D → Option Bool
 | [] => some false
 | y :: r => match itemEq y x with
  | some b => match anyEq x r with
   | some c => some (b || c)
   | none => none
  | none => none
def intsD : List D → Option (List Int)
 | [] => some []
 | .int i :: r => match intsD r with | some l => some (i :: l) | none => none
 | _ :: _ => none
def isD (a b : D) : Option Bool := match b with
 | .none => match a with
  | .none => some true
  | .str _ | .int _ | .tup _ | .lst _ | .own _ | .bool _ => some false
  | _ => none
 | .opq q => match a with
  | .opq p => match Nat.beq p q with | true => some true | false => none
  | .str _ => some false
  | _ => none
 | _ => none
def inD (a b : D) : Option Bool := match b with
 | .tup ds => anyEq a ds
 | .lst ds => anyEq a ds
 | .own ds => anyEq a ds
 | .str y => match a with | .str x => some (Txt.contains y x) | _ => none
 | _ => none
def cmpD (op : CmpOp) (a b : D) : Option Bool := match op with
 | .Eq => match a with
  | .int i => match b with | .int j => some (i == j) | _ => none
  | .str i => match b with | .str j => some (i == j) | _ => none
  | a => match a.list? with
   | some xs => match b.list? with
    | some ys => match intsD xs with
     | some ns => match intsD ys with
      | some ms => some (decide (ns = ms))
      | none => none
     | none => none
    | none => none
   | none => none
 | .NotEq => match a with
  | .int i => match b with | .int j => some (i != j) | _ => none
  | .str i => match b with | .str j => some (i != j) | _ => none
  | _ => none
 | .Lt => match a with
  | .int i => match b with | .int j => some (decide (i < j)) | _ => none
  | _ => none
 | .LtE => match a with
  | .int i => match b with | .int j => some (decide (i ≤ j)) | _ => none
  | _ => none
 | .Gt => match a with
  | .int i => match b with | .int j => some (decide (i > j)) | _ => none
  | _ => none
 | .GtE => match a with
  | .int i => match b with | .int j => some (decide (i ≥ j)) | _ => none
  | _ => none
 | .Is => isD a b
 | .IsNot => match isD a b with | some c => some (!c) | none => none
 | .In => inD a b
 | .NotIn => match inD a b with | some c => some (!c) | none => none
def truthD (a : D) : Option Bool := match a with
 | .bool b => some b
 | .none => some false
 | .int i => some (i != 0)
 | .str x => some (x.length != 0)
 | .lst ds => some (ds.length != 0)
 | .own ds => some (ds.length != 0)
 | _ => none
section
variable {G : Gd} {A : Around} {X : List Addr} {s : Shared} {d a b : D} {va vb : Value}
theorem Ev.of {t : Sem Value} (h : ∀ E, wpAny (model G.prog G.w) A t (fun v s' => Gr G s s' ∧ Rv G.C X s'.heap d v) E s) : Ev G A X s t d := h
theorem fresh_notin (hX : XOk G X s.heap) : s.heap.objs.size ∉ X := fun h => Nat.lt_irrefl _ (hX.low _ h)
theorem size_arr (vs : List Value) : vs.toArray.size = vs.length := by simp
theorem binD_ok (hX : XOk G X s.heap) (x : Cx G s.heap) (op : Operator) (ra : Rv G.C X s.heap a va) (rb : Rv G.C X s.heap b vb) (e : binD op a b = some d) : Ev G A X s (binaryOp op va vb) d := by
 intro E
 cases op with
 | Add =>
  have lists : ∀ xs ys, a.list? = some xs → b.list? = some ys → Nat.ble (xs.length + ys.length) bigD = true → d = .lst (xs ++ ys) → wpAny (model G.prog G.w) A (binaryOp .Add va vb) (fun v s' => Gr G s s' ∧ Rv G.C X s'.heap d v) E s := by
   intro xs ys e1 e2 e3 e4
   subst e4
   obtain ⟨l, vs, n, rfl, hl, rl⟩ := ra.list e1
   obtain ⟨l2, us, n2, rfl, hl2, rl2⟩ := rb.list e2
   have h3 := Nat.le_of_ble_eq_true e3
   refine P.add_list hl hl2 ⟨Gr.push', ?_⟩ (by rw [size_arr, size_arr, rl.length, rl2.length]; exact Nat.le_trans h3 (by decide))
   refine Rd.rv (Rd.lst' (vs := vs ++ us) (n := 0) (fresh_notin hX) ?_ ?_)
   ·show (s.heap.push _).get? _ = some (lstObj (vs ++ us) 0)
    rw [Heap.get?_push_size _ rfl]
    simp
   ·have g : Gr G s { s with heap := s.heap.push { cls := .type "list", data := .seq (vs.toArray ++ us.toArray) } } := Gr.push'
    exact RdL.append (rl.gr hX.tabs g) (rl2.gr hX.tabs g)
  unfold binD at e
  cases a with
  | int i =>
   cases b with
   | int j =>
    cases e
    obtain ⟨t, rfl⟩ := ra.int; obtain ⟨u, rfl⟩ := rb.int
    exact PyProof.Rows.add_int ⟨Gr.tok, Rd.rv Rd.int'⟩
   | _ => cases e
  | str p =>
   cases b with
   | str q =>
    dsimp only at e
    split at e
    ·rename_i hb
     cases e
     obtain ⟨t, rfl⟩ := ra.str; obtain ⟨u, rfl⟩ := rb.str
     exact PyProof.Rows.add_str (fun _ _ => ⟨Gr.tok, Rd.rv Rd.str'⟩) (Nat.le_trans (Nat.le_of_ble_eq_true hb) (by decide))
    ·cases e
   | _ => cases e
  | lst xs =>
   dsimp only [D.list?] at e
   split at e
   ·rename_i ys hy
    split at e
    ·rename_i hb; exact lists xs ys rfl hy hb (Option.some.inj e).symm
    ·cases e
   ·cases e
  | own xs =>
   dsimp only [D.list?] at e
   split at e
   ·rename_i ys hy
    split at e
    ·rename_i hb; exact lists xs ys rfl hy hb (Option.some.inj e).symm
    ·cases e
   ·cases e
  | _ => simp [D.list?] at e
 | Sub =>
  unfold binD at e
  cases a with
  | int i =>
   cases b with
   | int j =>
    cases e
    obtain ⟨t, rfl⟩ := ra.int; obtain ⟨u, rfl⟩ := rb.int
    exact PyProof.Rows.sub_int' ⟨Gr.tok, Rd.rv Rd.int'⟩
   | _ => cases e
  | _ => cases e
 | Mod =>
  unfold binD at e
  cases a with
  | int i =>
   cases b with
   | int j =>
    dsimp only at e
    split at e
    ·cases e
    ·rename_i hj
     cases e
     obtain ⟨t, rfl⟩ := ra.int; obtain ⟨u, rfl⟩ := rb.int
     exact PyProof.Rows.mod_int' (of_decide_eq_false hj) ⟨Gr.tok, Rd.rv Rd.int'⟩
   | _ => cases e
  | _ => cases e
 | FloorDiv =>
  unfold binD at e
  cases a with
  | int i =>
   cases b with
   | int j =>
    dsimp only at e
    split at e
    ·rename_i hj
     have hj' := of_decide_eq_true hj
     cases e
     obtain ⟨t, rfl⟩ := ra.int; obtain ⟨u, rfl⟩ := rb.int
     exact PyProof.Rows.floordiv_int (by omega) ⟨Gr.tok, Rd.rv Rd.int'⟩ (.inl (PyProof.noPylong_small (by omega)))
    ·cases e
   | _ => cases e
  | _ => cases e
 | _ => cases e
theorem itemEq_ok (hu : A.units + 8 < cLine) {y z : D} {vy vz : Value} {c : Bool} (ry : Rv G.C X s.heap y vy) (rz : Rv G.C X s.heap z vz) (e : itemEq y z = some c) : SeqAt.EqAt A s vy vz c := by
 cases y with
 | none =>
  have := ry.none; subst this
  cases z with
  | none => cases e; have := rz.none; subst this; exact SeqAt.EqAt.same _
  | str y => cases e; obtain ⟨t, rfl⟩ := rz.str; exact SeqAt.EqAt.none_str _ _
  | tup ds => cases e; obtain ⟨a, vs, n, rfl, _, hg, _⟩ := rz.tup; exact SeqAt.EqAt.none_tuple (items := vs.toArray) ⟨_, hg, rfl, n, rfl⟩ (by omega)
  | _ => cases e
 | int i =>
  cases z with
  | int j => cases e; obtain ⟨t, rfl⟩ := ry.int; obtain ⟨u, rfl⟩ := rz.int; exact SeqAt.EqAt.int_int _ _ _ _
  | _ => cases e
 | str i =>
  cases z with
  | str j => cases e; obtain ⟨t, rfl⟩ := ry.str; obtain ⟨u, rfl⟩ := rz.str; exact SeqAt.EqAt.str_str _ _ _ _
  | none => cases e; obtain ⟨t, rfl⟩ := ry.str; have := rz.none; subst this; exact SeqAt.EqAt.str_none _ _
  | _ => cases e
 | tup ds =>
  cases z with
  | none => cases e; have := rz.none; subst this; obtain ⟨a, vs, n, rfl, _, hg, _⟩ := ry.tup; exact SeqAt.EqAt.tuple_none (items := vs.toArray) ⟨_, hg, rfl, n, rfl⟩ (by omega)
  | _ => cases e
 | _ => cases e
def hits (z : D) (v : Value) : Bool := match z with
 | .none => (match v with | .none => true | _ => false)
 | .int j => (match v with | .int i _ => i == j | _ => false)
 | .str j => (match v with | .str i _ => i == j | _ => false)
 | _ => false
theorem itemEq_hits {C : Addr} {h : Heap} {y z : D} {vy : Value} {c : Bool} (ry : Rv C X h y vy) (e : itemEq y z = some c) : hits z vy = c := by
 cases y with
 | none => have := ry.none; subst this; cases z <;> first | (cases e; rfl) | cases e
 | int i => obtain ⟨t, rfl⟩ := ry.int; cases z <;> first | (cases e; rfl) | cases e
 | str i => obtain ⟨t, rfl⟩ := ry.str; cases z <;> first | (cases e; rfl) | cases e
 | tup ds => obtain ⟨a, vs, n, rfl, _⟩ := ry.tup; cases z <;> first | (cases e; rfl) | cases e
 | _ => cases e
theorem anyEq_ok (hu : A.units + 8 < cLine) {z : D} {vz : Value} (rz : Rv G.C X s.heap z vz) : ∀ {ds : List D} {vs : List Value} {c : Bool}, RdL G.C X s.heap ds vs → anyEq z ds = some c →
  (∀ y ∈ vs, SeqAt.EqAt A s y vz (hits z y)) ∧ vs.any (hits z) = c
 | [], vs, c, r, e => by
  have := r.nil_inv; subst this; cases e
  exact ⟨fun y hy => (nomatch hy), rfl⟩
 | d :: ds, vs, c, r, e => by
  obtain ⟨v, vs', rfl, hr, l⟩ := r.cons_inv
  unfold anyEq at e
  split at e
  ·rename_i b hb
   split at e
   ·rename_i c' hc
    cases e
    obtain ⟨hf, hany⟩ := anyEq_ok hu rz l hc
    have h1 := itemEq_ok (A := A) hu (Rd.rv hr) rz hb
    have h2 := itemEq_hits (Rd.rv hr) hb
    refine ⟨fun y hy => ?_, ?_⟩
    ·rcases List.mem_cons.mp hy with rfl | hy
     ·rw [h2]; exact h1
     ·exact hf y hy
    ·rw [List.any_cons, h2, hany]
   ·cases e
  ·cases e
theorem any_arr (vs : List Value) (f : Value → Bool) : vs.toArray.any f = vs.any f := by simp
theorem mem_arr {vs : List Value} {y : Value} (h : y ∈ vs.toArray) : y ∈ vs := by simpa using h
theorem inD_ok (hu : A.units + 16 < cLine) {c : Bool} (ra : Rv G.C X s.heap a va) (rb : Rv G.C X s.heap b vb) (e : inD a b = some c) :
  (∀ E Q, Q (.bool c) s → wpAny (model G.prog G.w) A (compareOp .In va vb) Q E s) ∧ (∀ E Q, Q (.bool (!c)) s → wpAny (model G.prog G.w) A (compareOp .NotIn va vb) Q E s) := by
 have hu' : A.in1.units + 8 < cLine := by show A.units + 1 + 8 < cLine; omega
 have lists : ∀ ds, b.list? = some ds → anyEq a ds = some c → (∀ E Q, Q (.bool c) s → wpAny (model G.prog G.w) A (compareOp .In va vb) Q E s) ∧ (∀ E Q, Q (.bool (!c)) s → wpAny (model G.prog G.w) A (compareOp .NotIn va vb) Q E s) := by
  intro ds e1 e2
  obtain ⟨l, vs, n, rfl, hl, rl⟩ := rb.list e1
  obtain ⟨hf, hany⟩ := anyEq_ok (A := A.in1) hu' ra rl e2
  have il : s.heap.IsList l vs.toArray := ⟨_, hl, rfl, n, rfl⟩
  exact ⟨fun E Q h => SeqAt.in_listAt (hits a) il (fun y hy => hf y (mem_arr hy)) (by rw [any_arr, hany]; exact h), fun E Q h => SeqAt.notIn_listAt (hits a) il (fun y hy => hf y (mem_arr hy)) (by rw [any_arr, hany]; exact h)⟩
 unfold inD at e
 cases b with
 | tup ds =>
  obtain ⟨l, vs, n, rfl, _, hl, rl⟩ := rb.tup
  obtain ⟨hf, hany⟩ := anyEq_ok (A := A.in1) hu' ra rl e
  have il : s.heap.IsTuple l vs.toArray := ⟨_, hl, rfl, n, rfl⟩
  exact ⟨fun E Q h => SeqAt.in_tupleAt (hits a) il (fun y hy => hf y (mem_arr hy)) (by rw [any_arr, hany]; exact h), fun E Q h => SeqAt.notIn_tupleAt (hits a) il (fun y hy => hf y (mem_arr hy)) (by rw [any_arr, hany]; exact h)⟩
 | lst ds => exact lists ds rfl e
 | own ds => exact lists ds rfl e
 | str y =>
  cases a with
  | str z =>
   cases e
   obtain ⟨t, rfl⟩ := ra.str; obtain ⟨u, rfl⟩ := rb.str
   exact ⟨fun E Q h => SB.contains h, fun E Q h => SB.notContains h⟩
  | _ => cases e
 | _ => cases e
theorem isD_ok {c : Bool} (ra : Rv G.C X s.heap a va) (rb : Rv G.C X s.heap b vb) (e : isD a b = some c) :
  (∀ E Q, Q (.bool c) s → wpAny (model G.prog G.w) A (compareOp .Is va vb) Q E s) ∧ (∀ E Q, Q (.bool (!c)) s → wpAny (model G.prog G.w) A (compareOp .IsNot va vb) Q E s) := by
 have key : plainIs va vb = true → (va == vb) = c → (∀ E Q, Q (.bool c) s → wpAny (model G.prog G.w) A (compareOp .Is va vb) Q E s) ∧ (∀ E Q, Q (.bool (!c)) s → wpAny (model G.prog G.w) A (compareOp .IsNot va vb) Q E s) := by
  intro h1 h2
  exact ⟨fun E Q h => wpAny_is_plain h1 (by rw [h2]; exact h), fun E Q h => wpAny_isNot_plain h1 (by rw [h2]; exact h)⟩
 cases b with
 | none =>
  have := rb.none; subst this
  cases a with
  | none => cases e; have := ra.none; subst this; exact key rfl rfl
  | str x => cases e; obtain ⟨t, rfl⟩ := ra.str; exact key rfl rfl
  | int x => cases e; obtain ⟨t, rfl⟩ := ra.int; exact key rfl rfl
  | bool x => cases e; have := ra.bool; subst this; exact key rfl rfl
  | tup x => cases e; obtain ⟨t, _, _, rfl, _⟩ := ra.tup; exact key rfl rfl
  | lst x => cases e; obtain ⟨t, _, _, rfl, _⟩ := ra.list rfl; exact key rfl rfl
  | own x => cases e; obtain ⟨t, _, _, rfl, _⟩ := ra.list rfl; exact key rfl rfl
  | _ => cases e
 | opq q =>
  have := rb.opq; subst this
  cases a with
  | opq p =>
   have := ra.opq; subst this
   dsimp only [isD] at e
   split at e
   ·rename_i hb
    cases e
    have := Nat.eq_of_beq_eq_true hb; subst this
    exact ⟨fun E Q h => wpAny_is_ref_self h, fun E Q h => wpAny_isNot_ref_self h⟩
   ·cases e
  | str x => cases e; obtain ⟨t, rfl⟩ := ra.str; exact key rfl rfl
  | _ => cases e
 | _ => cases e
theorem intsD_are {C : Addr} {h : Heap} : ∀ {ds : List D} {vs : List Value} {ns : List Int}, RdL C X h ds vs → intsD ds = some ns → IntsAre vs ns
 | [], vs, ns, r, e => by have := r.nil_inv; subst this; cases e; exact .nil
 | d :: ds, vs, ns, r, e => by
  obtain ⟨v, vs', rfl, hr, l⟩ := r.cons_inv
  cases d with
  | int i =>
   dsimp only [intsD] at e
   split at e
   ·rename_i l' hl
    cases e
    obtain ⟨t, rfl⟩ := (Rd.rv hr).int
    exact .cons i t (intsD_are l hl)
   ·cases e
  | _ => cases e
theorem cmpD_ok (hu : A.units + 100 < cLine) {c : Bool} (op : CmpOp) (ra : Rv G.C X s.heap a va) (rb : Rv G.C X s.heap b vb) (e : cmpD op a b = some c) :
  ∀ E Q, Q (.bool c) s → wpAny (model G.prog G.w) A (compareOp op va vb) Q E s := by
 intro E Q hq
 have hu' : A.units + 16 < cLine := by omega
 cases op with
 | Eq =>
  have lists : ∀ xs ys ns ms, a.list? = some xs → b.list? = some ys → intsD xs = some ns → intsD ys = some ms → c = decide (ns = ms) → wpAny (model G.prog G.w) A (compareOp .Eq va vb) Q E s := by
   intro xs ys ns ms e1 e2 e3 e4 e5
   obtain ⟨l, vs, n, rfl, hl, rl⟩ := ra.list e1
   obtain ⟨l2, us, n2, rfl, hl2, rl2⟩ := rb.list e2
   exact eq_intsK ⟨_, hl, rfl, n, rfl⟩ (intsD_are rl e3) ⟨_, hl2, rfl, n2, rfl⟩ (intsD_are rl2 e4) (by omega) (e5 ▸ hq)
  unfold cmpD at e
  cases a with
  | int i => cases b <;> first | (cases e; obtain ⟨t, rfl⟩ := ra.int; obtain ⟨u, rfl⟩ := rb.int; exact PyProof.Rows.eq_int hq) | cases e
  | str i => cases b <;> first | (cases e; obtain ⟨t, rfl⟩ := ra.str; obtain ⟨u, rfl⟩ := rb.str; exact PyProof.Rows.eq_str hq) | cases e
  | lst xs =>
   dsimp only [D.list?] at e
   split at e
   ·rename_i ys hy
    split at e
    ·rename_i ns hn
     split at e
     ·rename_i ms hm; exact lists xs ys ns ms rfl hy hn hm (Option.some.inj e).symm
     ·cases e
    ·cases e
   ·cases e
  | own xs =>
   dsimp only [D.list?] at e
   split at e
   ·rename_i ys hy
    split at e
    ·rename_i ns hn
     split at e
     ·rename_i ms hm; exact lists xs ys ns ms rfl hy hn hm (Option.some.inj e).symm
     ·cases e
    ·cases e
   ·cases e
  | _ => simp [D.list?] at e
 | NotEq =>
  unfold cmpD at e
  cases a with
  | int i => cases b <;> first | (cases e; obtain ⟨t, rfl⟩ := ra.int; obtain ⟨u, rfl⟩ := rb.int; exact PyProof.Rows.ne_int hq) | cases e
  | str i => cases b <;> first | (cases e; obtain ⟨t, rfl⟩ := ra.str; obtain ⟨u, rfl⟩ := rb.str; exact PyProof.Rows.ne_str hq) | cases e
  | _ => cases e
 | Lt => cases a <;> first | (cases b <;> first | (cases e; obtain ⟨t, rfl⟩ := ra.int; obtain ⟨u, rfl⟩ := rb.int; exact PyProof.Rows.lt_int hq) | cases e) | cases e
 | LtE => cases a <;> first | (cases b <;> first | (cases e; obtain ⟨t, rfl⟩ := ra.int; obtain ⟨u, rfl⟩ := rb.int; exact PyProof.Rows.le_int hq) | cases e) | cases e
 | Gt => cases a <;> first | (cases b <;> first | (cases e; obtain ⟨t, rfl⟩ := ra.int; obtain ⟨u, rfl⟩ := rb.int; exact PyProof.Rows.gt_int hq) | cases e) | cases e
 | GtE => cases a <;> first | (cases b <;> first | (cases e; obtain ⟨t, rfl⟩ := ra.int; obtain ⟨u, rfl⟩ := rb.int; exact PyProof.Rows.ge_int hq) | cases e) | cases e
 | Is => exact (isD_ok ra rb e).1 E Q hq
 | IsNot =>
  dsimp only [cmpD] at e
  split at e
  ·rename_i c' hc; cases e; exact (isD_ok ra rb hc).2 E Q hq
  ·cases e
 | In => exact (inD_ok hu' ra rb e).1 E Q hq
 | NotIn =>
  dsimp only [cmpD] at e
  split at e
  ·rename_i c' hc; cases e; exact (inD_ok hu' ra rb hc).2 E Q hq
  ·cases e
end
end Mine
namespace Mine
open PySem PySem.Calls PyProof.Rows PySem.W
def unD (op : UnaryOp) (a : D) : Option D := match op with
 | .USub => match a with | .int i => some (.int (-i)) | _ => none
 | .Not => match truthD a with | some b => some (.bool (!b)) | none => none
 | _ => none
def placeD (k : Int) (n : Nat) : Option Nat := match decide (0 ≤ k) with
 | true => (match Nat.blt k.toNat n with | true => some k.toNat | false => none)
 | false => (match decide (0 ≤ k + n) with | true => some (k + n).toNat | false => none)
def idxD (o i : D) : Option D := match i with
 | .int k => match o with
  | .str x => (match placeD k x.length with | some _ => (match Nat.ble x.length bigD with | true => some (.str (Txt.item x k)) | false => none) | none => none)
  | .tup ds => (match placeD k ds.length with | some j => (match Nat.ble ds.length bigD with | true => ds[j]? | false => none) | none => none)
  | .lst ds => (match placeD k ds.length with | some j => (match Nat.ble ds.length bigD with | true => ds[j]? | false => none) | none => none)
  | .own ds => (match placeD k ds.length with | some j => (match Nat.ble ds.length bigD with | true => ds[j]? | false => none) | none => none)
  | _ => none
 | _ => none
def sliceL {α : Type} (ds : List α) (lo hi : Option Int) : List α := (ds.drop (lo.elim 0 (clipAt ds.length))).take (hi.elim ds.length (clipAt ds.length) - lo.elim 0 (clipAt ds.length))
def sliceD (o : D) (lo hi : Option Int) : Option D := match o with
 | .str x => (match Nat.ble x.length bigD with | true => some (.str (Txt.slice x lo hi)) | false => none)
 | .lst ds => (match Nat.ble ds.length bigD with | true => some (.lst (sliceL ds lo hi)) | false => none)
 | .own ds => (match Nat.ble ds.length bigD with | true => some (.lst (sliceL ds lo hi)) | false => none)
 | _ => none
def lenD (o : D) : Option D := match o with
 | .str x => (match Nat.ble x.length bigD with | true => some (.int x.length) | false => none)
 | .tup ds => (match Nat.ble ds.length bigD with | true => some (.int ds.length) | false => none)
 | .lst ds => (match Nat.ble ds.length bigD with | true => some (.int ds.length) | false => none)
 | .own ds => (match Nat.ble ds.length bigD with | true => some (.int ds.length) | false => none)
 | _ => none
section
variable {G : Gd} {A : Around} {X : List Addr} {s : Shared} {d a b : D} {va vb : Value}
theorem truthD_ok {c : Bool} (ra : Rv G.C X s.heap a va) (hsz : match a with | .str x => x.length ≤ bigD | .lst ds => ds.length ≤ bigD | .own ds => ds.length ≤ bigD | _ => True) (e : truthD a = some c) :
  ∀ E (Q : Bool → Shared → Prop), (∀ s', Gr G s s' → Q c s') → wpAny (model G.prog G.w) A (truthy va) Q E s := by
 intro E Q hq
 have lists : ∀ ds, a.list? = some ds → ds.length ≤ bigD → c = (ds.length != 0) → wpAny (model G.prog G.w) A (truthy va) Q E s := by
  intro ds e1 e2 e3
  obtain ⟨l, vs, n, rfl, hl, rl⟩ := ra.list e1
  refine wpAny_truthy_list (items := vs.toArray) ⟨_, hl, rfl, n, rfl⟩ ?_ ?_
  ·rw [size_arr, rl.length]
   have : bigD < 2 ^ 63 := by decide
   omega
  ·have : (!vs.toArray.isEmpty) = c := by
    rw [e3, ← rl.length]
    cases vs <;> simp
   rw [this]
   exact hq _ Gr.tok
 cases a with
 | none => cases e; have := ra.none; subst this; exact truthy_none (hq _ (Gr.refl _))
 | bool b => cases e; have := ra.bool; subst this; exact wpAny_truthy_bool (hq _ (Gr.refl _))
 | int i => cases e; obtain ⟨t, rfl⟩ := ra.int; exact P.truthy_int (hq _ (Gr.refl _))
 | str x =>
  cases e; obtain ⟨t, rfl⟩ := ra.str
  refine P.truthy_str ?_ ?_
  ·have h1 : x.length ≤ bigD := hsz
   have : bigD < 2 ^ 63 := by decide
   omega
  ·have : (((x.length : Nat) : Int) != 0) = (x.length != 0) := by
    cases h : x.length <;> simp
    omega
   rw [this]
   exact hq _ Gr.tok
 | lst ds => cases e; exact lists ds rfl hsz rfl
 | own ds => cases e; exact lists ds rfl hsz rfl
 | _ => cases e
theorem placeD_ok {k : Int} {n j : Nat} (e : placeD k n = some j) : seqIndex? k n = some j ∧ j < n ∧ (0 ≤ k → k < n) ∧ -(n : Int) ≤ k := by
 unfold placeD at e
 split at e
 ·rename_i h0
  have h0 := of_decide_eq_true h0
  split at e
  ·rename_i h1
   have h1 : k.toNat < n := Nat.le_of_ble_eq_true h1
   cases e
   refine ⟨?_, h1, fun _ => by omega, by omega⟩
   unfold seqIndex?
   have : ¬ k < 0 := by omega
   simp only [this, if_false]
   rw [if_pos (by simp only [Bool.and_eq_true, decide_eq_true_eq]; omega)]
  ·cases e
 ·rename_i h0
  have h0 := of_decide_eq_false h0
  split at e
  ·rename_i h1
   have h1 := of_decide_eq_true h1
   cases e
   exact ⟨seqIndex_neg (by omega) (by omega), by omega, fun h => absurd h h0, by omega⟩
  ·cases e
theorem big63 {n : Nat} (h : Nat.ble n bigD = true) : (n : Int) < 2 ^ 63 ∧ n ≤ bigD ∧ n ≤ sizeLine := by
 have h := Nat.le_of_ble_eq_true h
 have h1 : bigD < 2 ^ 63 := by decide
 have h2 : bigD ≤ sizeLine := by decide
 exact ⟨by omega, h, by omega⟩
theorem idxD_ok {value slice : Expr} (ra : Rv G.C X s.heap a va) (rb : Rv G.C X s.heap b vb) (e : idxD a b = some d)
  (hs : ∀ k t, vb = .int k t → subscripted slice false va vb = operate [va, vb] (getItem va vb)) : Ev G A X s (subscriptTail value slice va vb) d := by
 intro E
 cases b with
 | int k =>
  obtain ⟨t, rfl⟩ := rb.int
  have hs := hs k t rfl
  have lists : ∀ ds j, a.list? = some ds → placeD k ds.length = some j → Nat.ble ds.length bigD = true → ds[j]? = some d → wpAny (model G.prog G.w) A (subscriptTail value slice va (.int k t)) (fun v s' => Gr G s s' ∧ Rv G.C X s'.heap d v) E s := by
   intro ds j e1 e2 e3 e4
   obtain ⟨l, vs, n, rfl, hl, rl⟩ := ra.list e1
   obtain ⟨v, hv, hr⟩ := rl.get e4
   obtain ⟨p1, p2, p3, p4⟩ := placeD_ok e2
   have il : s.heap.IsList l vs.toArray := ⟨_, hl, rfl, n, rfl⟩
   have hb := big63 e3
   refine tail_any il.typeIs slot_list_getitem.lookup ?_ hs
   by_cases h0 : 0 ≤ k
   ·refine wpAny_getItem_list il h0 (by have := p3 h0; omega) (x := v) ?_ ⟨Gr.refl _, Rd.rv hr⟩
    have : j = k.toNat := by
     have q := p1
     unfold seqIndex? at q
     have h' : ¬ k < 0 := by omega
     simp only [h', if_false] at q
     rw [if_pos (by simp only [Bool.and_eq_true, decide_eq_true_eq]; have := p3 h0; omega)] at q
     exact (Option.some.inj q).symm
    subst this
    simpa using hv
   ·refine wpAny_getItem_list_neg il (by omega) (by rw [size_arr, rl.length]; exact p4) (by omega) (x := v) ?_ ⟨Gr.refl _, Rd.rv hr⟩
    have q := p1
    rw [seqIndex_neg (by omega) p4] at q
    have : (k + ds.length).toNat = j := Option.some.inj q
    rw [size_arr, rl.length, this]
    simpa using hv
  cases a with
  | str x =>
   obtain ⟨u, rfl⟩ := ra.str
   dsimp only [idxD] at e
   split at e
   ·rename_i j hj
    split at e
    ·rename_i hb
     cases e
     obtain ⟨p1, p2, p3, p4⟩ := placeD_ok hj
     have hb := big63 hb
     refine item_str ?_ p4 ?_ (fun _ => ⟨Gr.tok, Rd.rv Rd.str'⟩) hs (fun r => by cases value <;> rfl)
     ·unfold fitsSsize
      by_cases h0 : 0 ≤ k
      ·have := p3 h0
       first | (simp only [Bool.and_eq_true, decide_eq_true_eq]; omega) | (simp; omega)
      ·first | (simp only [Bool.and_eq_true, decide_eq_true_eq]; omega) | (simp; omega)
     ·by_cases h0 : 0 ≤ k
      ·exact p3 h0
      ·omega
    ·cases e
   ·cases e
  | tup ds =>
   dsimp only [idxD] at e
   split at e
   ·rename_i j hj
    split at e
    ·rename_i hb
     obtain ⟨l, vs, n, rfl, hx, hl, rl⟩ := ra.tup
     obtain ⟨v, hv, hr⟩ := rl.get e
     obtain ⟨p1, p2, p3, p4⟩ := placeD_ok hj
     have hb := big63 hb
     refine item_tupleT (l := vs) ⟨_, hl, rfl, n, rfl⟩ (by omega) ?_ (by rw [rl.length]; exact p1) hv ⟨Gr.refl _, Rd.rv hr⟩ hs
     by_cases h0 : 0 ≤ k
     ·have := p3 h0; omega
     ·omega
    ·cases e
   ·cases e
  | lst ds =>
   dsimp only [idxD] at e
   split at e
   ·rename_i j hj
    split at e
    ·rename_i hb; exact lists ds j rfl hj hb e
    ·cases e
   ·cases e
  | own ds =>
   dsimp only [idxD] at e
   split at e
   ·rename_i j hj
    split at e
    ·rename_i hb; exact lists ds j rfl hj hb e
    ·cases e
   ·cases e
  | _ => cases e
 | _ => cases e
theorem lenD_ok (ra : Rv G.C X s.heap a va) (e : lenD a = some d) : Ev G A X s (call (.builtin "len") [va]) d := by
 intro E
 have lists : ∀ ds, a.list? = some ds → Nat.ble ds.length bigD = true → d = .int ds.length → wpAny (model G.prog G.w) A (call (.builtin "len") [va]) (fun v s' => Gr G s s' ∧ Rv G.C X s'.heap d v) E s := by
  intro ds e1 e2 e3
  obtain ⟨l, vs, n, rfl, hl, rl⟩ := ra.list e1
  subst e3
  refine PyProof.Rows.len_list (items := vs.toArray) ⟨_, hl, rfl, n, rfl⟩ (by rw [size_arr, rl.length]; exact (big63 e2).1) ⟨Gr.tok, ?_⟩
  rw [size_arr, rl.length]
  exact Rd.rv Rd.int'
 cases a with
 | str x =>
  dsimp only [lenD] at e
  split at e
  ·rename_i hb
   cases e
   obtain ⟨t, rfl⟩ := ra.str
   exact PyProof.Rows.len_str (by have := (big63 hb).1; omega) ⟨Gr.tok, Rd.rv Rd.int'⟩
  ·cases e
 | tup ds =>
  dsimp only [lenD] at e
  split at e
  ·rename_i hb
   cases e
   obtain ⟨l, vs, n, rfl, _, hl, rl⟩ := ra.tup
   refine PyProof.Rows.len_tuple (items := vs.toArray) ⟨_, hl, rfl, n, rfl⟩ (by rw [size_arr, rl.length]; exact (big63 hb).1) ⟨Gr.tok, ?_⟩
   rw [size_arr, rl.length]
   exact Rd.rv Rd.int'
  ·cases e
 | lst ds =>
  dsimp only [lenD] at e
  split at e
  ·rename_i hb; exact lists ds rfl hb (Option.some.inj e).symm
  ·cases e
 | own ds =>
  dsimp only [lenD] at e
  split at e
  ·rename_i hb; exact lists ds rfl hb (Option.some.inj e).symm
  ·cases e
 | _ => cases e
theorem RdL.slice {C : Addr} {h : Heap} {ds : List D} {vs : List Value} (rl : RdL C X h ds vs) (lo hi : Option Int) : RdL C X h (sliceL ds lo hi) (slicePick vs.toArray lo hi none).toList := by
 rw [slicePick_plain]
 unfold sliceL
 rw [size_arr, rl.length]
 exact (rl.drop _).take _
theorem part_is (p : Option (Int × Tok)) : IsPart (partValue p) (p.map (·.1)) := by
 cases p with
 | none => exact .none
 | some q => exact .int q.1 q.2
theorem sliceD_ok {value slice : Expr} (hX : XOk G X s.heap) (x : Cx G s.heap) {plo phi : Option (Int × Tok)}
  (ra : Rv G.C X s.heap a va) (e : sliceD a (plo.map (·.1)) (phi.map (·.1)) = some d)
  (hs : ∀ q, subscripted slice false va (.ref q) = operate [.ref q, va] (getItem va (.ref q))) :
  ∀ E, wpAny (model G.prog G.w) A (subscriptTail value slice va (.ref s.heap.objs.size)) (fun v s' => Gr G s s' ∧ Rv G.C X s'.heap d v) E
   { s with heap := s.heap.push { cls := .type "slice", data := .fields #[partValue plo, partValue phi, .none] } } := by
 intro E
 have lists : ∀ ds, a.list? = some ds → Nat.ble ds.length bigD = true → d = .lst (sliceL ds (plo.map (·.1)) (phi.map (·.1))) → wpAny (model G.prog G.w) A (subscriptTail value slice va (.ref s.heap.objs.size)) (fun v s' => Gr G s s' ∧ Rv G.C X s'.heap d v) E
   { s with heap := s.heap.push { cls := .type "slice", data := .fields #[partValue plo, partValue phi, .none] } } := by
  intro ds e1 e2 e3
  subst e3
  obtain ⟨l, vs, n, rfl, hl, rl⟩ := ra.list e1
  have g1 : Gr G s { s with heap := s.heap.push { cls := .type "slice", data := .fields #[partValue plo, partValue phi, .none] } } := Gr.push'
  have il : (s.heap.push { cls := .type "slice", data := .fields #[partValue plo, partValue phi, .none] }).IsList l vs.toArray := ⟨_, Heap.get?_push_of_some _ hl, rfl, n, rfl⟩
  refine tail_any (T := "list") ⟨_, Heap.get?_push_of_some _ hl, rfl⟩ slot_list_getitem.lookup ?_ (hs _)
  refine wpAny_getItem_list_slice (vs := .none) (st := none) il ⟨_, Heap.get?_push_size _ rfl, rfl, rfl⟩ (part_is plo) (part_is phi) .none (by simp) ?_ (by rw [size_arr, rl.length]; exact (big63 e2).2.2)
  refine ⟨g1.trans Gr.push', ?_⟩
  refine Rd.rv (Rd.lst' (vs := (slicePick vs.toArray (plo.map (·.1)) (phi.map (·.1)) none).toList) (n := 0) ?_ ?_ ?_)
  ·intro h
   have h1 := hX.low _ h
   have h2 : (s.heap.push { cls := .type "slice", data := .fields #[partValue plo, partValue phi, .none] }).objs.size = s.heap.objs.size + 1 := Heap.size_push ..
   have h3 : (s.heap.push { cls := .type "slice", data := .fields #[partValue plo, partValue phi, .none] }).objs.size < s.heap.objs.size := h1
   omega
  ·show (Heap.push _ _).get? _ = _
   rw [Heap.get?_push_size _ rfl]
  ·exact ((rl.slice _ _).gr hX.tabs g1).gr hX.tabs Gr.push'
 cases a with
 | str y =>
  dsimp only [sliceD] at e
  split at e
  ·rename_i hb
   cases e
   obtain ⟨t, rfl⟩ := ra.str
   have g1 : Gr G s { s with heap := s.heap.push { cls := .type "slice", data := .fields #[partValue plo, partValue phi, .none] } } := Gr.push'
   refine tail_any (T := "str") (typeIs_str _ _ _) PySem.F.slot_str_getitem.lookup ?_ (hs _)
   refine wpAny_getItem_str_slice (l := plo) (u := phi) (st := none) ⟨_, Heap.get?_push_size _ rfl, rfl, rfl⟩ rfl ?_
   refine post_val_or_str ⟨?_, fun t' k => ⟨g1.trans Gr.tok, Rd.rv Rd.str'⟩⟩
   exact Nat.le_trans (Txt.slice_le y _ _) (big63 hb).2.2
  ·cases e
 | lst ds =>
  dsimp only [sliceD] at e
  split at e
  ·rename_i hb; exact lists ds rfl hb (Option.some.inj e).symm
  ·cases e
 | own ds =>
  dsimp only [sliceD] at e
  split at e
  ·rename_i hb; exact lists ds rfl hb (Option.some.inj e).symm
  ·cases e
 | _ => cases e
end
end Mine
namespace Mine
open PySem PySem.Calls PyProof.Rows PySem.W
structure GrB (G : Gd) (Y : List Addr) (s s' : Shared) : Prop where
 heap : ∀ b o, b ∉ G.T → b ∉ Y → s.heap.get? b = some o → s'.heap.get? b = some o
 ti : G.TI s.heap → G.TI s'.heap
 os : s'.os = s.os
 bare : AllBare s.gens → AllBare s'.gens
theorem Gr.b {G : Gd} {Y : List Addr} {s s' : Shared} (g : Gr G s s') : GrB G Y s s' := ⟨fun b o h _ e => g.heap b o h e, g.ti, g.os, g.bare⟩
theorem GrB.refl {G : Gd} {Y : List Addr} (s : Shared) : GrB G Y s s := (Gr.refl s).b
theorem GrB.trans {G : Gd} {Y : List Addr} {s s₁ s₂ : Shared} (a : GrB G Y s s₁) (b : GrB G Y s₁ s₂) : GrB G Y s s₂ :=
 ⟨fun x o hx hy e => b.heap x o hx hy (a.heap x o hx hy e), fun t => b.ti (a.ti t), b.os.trans a.os, fun t => b.bare (a.bare t)⟩
theorem GrB.mono {G : Gd} {Y Y' : List Addr} {s s' : Shared} (a : GrB G Y s s') (h : ∀ y ∈ Y, y ∈ Y') : GrB G Y' s s' :=
 ⟨fun x o hx hy e => a.heap x o hx (fun q => hy (h x q)) e, a.ti, a.os, a.bare⟩
def NT (h : Heap) (b : Addr) : Prop := ∃ o, h.get? b = some o ∧ ¬ TK o
theorem NT.dict {h : Heap} {a : Addr} {m} (n : h.Ns a m) : NT h a := by
 obtain ⟨o, es, ep, ho, hd, _⟩ := n
 exact ⟨o, ho, fun ⟨vs, q, _⟩ => by rw [hd] at q; cases q⟩
theorem NT.list {h : Heap} {a : Addr} {its} (n : h.IsList a its) : NT h a := by
 obtain ⟨o, ho, _, k, hd⟩ := n
 exact ⟨o, ho, fun ⟨vs, q, _⟩ => by rw [hd] at q; cases q⟩
theorem NT.cell {h : Heap} {a : Addr} {v} (n : h.IsCell a v) : NT h a := by
 obtain ⟨o, ho, hd⟩ := n
 exact ⟨o, ho, fun ⟨vs, q, _⟩ => by rw [hd] at q; cases q⟩
theorem NT.notTab {G : Gd} {h : Heap} {b : Addr} (n : NT h b) (t : G.TI h) : b ∉ G.T := fun hb => by
 obtain ⟨vs, e⟩ := G.tabs _ t b hb
 obtain ⟨o, ho, no⟩ := n
 rw [e] at ho; cases ho
 exact no ⟨vs, rfl, .inl rfl⟩
theorem GrB.change {G : Gd} {Y : List Addr} {s : Shared} {h' : Heap} {tk : Nat} (k : ∀ b o, b ∉ Y → s.heap.get? b = some o → h'.get? b = some o) (n : ∀ b ∈ Y, NT s.heap b) : GrB G Y s { s with heap := h', toks := tk } :=
 ⟨fun b o _ hy e => k b o hy e, fun t => G.frame _ _ t fun b o tk e => k b o (fun hy => by
  obtain ⟨o', e', no⟩ := n b hy
  rw [e] at e'; cases e'
  exact no tk) e, rfl, id⟩
theorem GrB.same {G : Gd} {a : Addr} {s : Shared} {h' : Heap} {tk : Nat} (k : Heap.SameBut a s.heap h') (n : NT s.heap a) : GrB G [a] s { s with heap := h', toks := tk } :=
 GrB.change (fun b o hy e => (k.2 b (fun q => hy (by simp [q]))).trans e) fun b hb => by rw [List.mem_singleton.mp hb]; exact n
def Src (G : Gd) (A : Around) (X : List Addr) (h₀ : Heap) (h : Heap) (I : Addr) (fp wr : List Addr) (ds : List D) : Prop :=
 ∃ (St : Nat → Heap → Prop) (P : Nat → Value → Prop), Walks G.prog G.w A I fp wr ds.length P St ∧ St 0 h ∧ (∀ b ∈ wr, h₀.get? b = none) ∧
  (∀ b ∈ fp, (b ∈ wr ∨ (b ∉ X ∧ ∃ o, h₀.get? b = some o)) ∧ b ∉ G.T) ∧ (∀ b ∈ fp, b < h.objs.size) ∧ (∀ i h', St i h' → ∀ b ∈ wr, NT h' b) ∧
  (∀ i v, i < ds.length → P i v → ∃ d, ds[i]? = some d ∧ Rd G.C X h₀ d v)
def compD (tst : D → Option Bool) (el : D → Option D) : List D → Option (List D)
 | [] => some []
 | d :: ds => match tst d with
  | some true => match el d with
   | some y => match y.pure with
    | true => (match compD tst el ds with | some ys => some (y :: ys) | none => none)
    | false => none
   | none => none
  | some false => compD tst el ds
  | none => none
theorem compD_at (tst : D → Option Bool) (el : D → Option D) : ∀ (ds : List D) (all : List D) (k : Nat) (d : D), compD tst el ds = some all → ds[k]? = some d →
  ∃ pre, compD tst el (ds.take k) = some pre ∧ ((tst d = some false ∧ compD tst el (ds.take (k + 1)) = some pre) ∨ ∃ y, tst d = some true ∧ el d = some y ∧ y.pure = true ∧ compD tst el (ds.take (k + 1)) = some (pre ++ [y])) := by
 intro ds
 induction ds with
 | nil => intro all k d h e; simp at e
 | cons c ds ih =>
  intro all k d h e
  unfold compD at h
  split at h
  ·rename_i ht
   split at h
   ·rename_i y hy
    split at h
    ·rename_i hp
     split at h
     ·rename_i ys hys
      cases k with
      | zero =>
       simp at e; subst e
       exact ⟨[], rfl, .inr ⟨y, ht, hy, hp, by simp [compD, ht, hy, hp]⟩⟩
      | succ k =>
       simp at e
       obtain ⟨pre, h1, h2⟩ := ih ys k d hys e
       refine ⟨y :: pre, by simp [compD, ht, hy, hp, h1], ?_⟩
       rcases h2 with ⟨a, b⟩ | ⟨z, a, b, c, e⟩
       ·exact .inl ⟨a, by simp [compD, ht, hy, hp, b]⟩
       ·exact .inr ⟨z, a, b, c, by simp [compD, ht, hy, hp, e]⟩
     ·cases h
    ·cases h
   ·cases h
  ·rename_i ht
   cases k with
   | zero =>
    simp at e; subst e
    exact ⟨[], rfl, .inl ⟨ht, by simp [compD, ht]⟩⟩
   | succ k =>
    simp at e
    obtain ⟨pre, h1, h2⟩ := ih all k d h e
    refine ⟨pre, by simp [compD, ht, h1], ?_⟩
    rcases h2 with ⟨a, b⟩ | ⟨z, a, b, c, e⟩
    ·exact .inl ⟨a, by simp [compD, ht, b]⟩
    ·exact .inr ⟨z, a, b, c, by simp [compD, ht, e]⟩
  ·cases h
theorem compD_length (tst : D → Option Bool) (el : D → Option D) : ∀ (ds all : List D), compD tst el ds = some all → all.length ≤ ds.length
 | [], all, h => by simp [compD] at h; subst h; exact Nat.le_refl _
 | d :: ds, all, h => by
  unfold compD at h
  split at h
  ·split at h
   ·split at h
    ·split at h
     ·rename_i ys hys
      cases h
      exact Nat.succ_le_succ (compD_length tst el ds ys hys)
     ·cases h
    ·cases h
   ·cases h
  ·exact Nat.le_succ_of_le (compD_length tst el ds all h)
  ·cases h
theorem Rd.lift {C : Addr} {X X' : List Addr} {h₀ h : Heap} {d : D} {v : Value} (r : Rd C X h₀ d v) (hX : ∀ b ∈ X', b ∈ X ∨ h₀.get? b = none) (k : ∀ b o, b ∉ X → h₀.get? b = some o → h.get? b = some o) : Rd C X' h d v :=
 r.imp fun b o hb e => ⟨fun q => (hX b q).elim hb fun z => (by rw [z] at e; cases e), k b o hb e⟩
theorem RdL.lift {C : Addr} {X X' : List Addr} {h₀ h : Heap} {d : List D} {v : List Value} (r : RdL C X h₀ d v) (hX : ∀ b ∈ X', b ∈ X ∨ h₀.get? b = none) (k : ∀ b o, b ∉ X → h₀.get? b = some o → h.get? b = some o) : RdL C X' h d v :=
 r.imp fun b o hb e => ⟨fun q => (hX b q).elim hb fun z => (by rw [z] at e; cases e), k b o hb e⟩
theorem Rd.less {C : Addr} {X X' : List Addr} {h : Heap} {d : D} {v : Value} (r : Rd C X h d v) (hX : ∀ b ∈ X', b ∈ X) : Rd C X' h d v :=
 r.imp fun b o hb e => ⟨fun q => hb (hX b q), e⟩
theorem RdL.less {C : Addr} {X X' : List Addr} {h : Heap} {d : List D} {v : List Value} (r : RdL C X h d v) (hX : ∀ b ∈ X', b ∈ X) : RdL C X' h d v :=
 r.imp fun b o hb e => ⟨fun q => hb (hX b q), e⟩
section
variable {G : Gd} {A : Around} {X : List Addr} {s : Shared}
set_option maxHeartbeats 1000000 in
theorem comp_loop {h₀ : Heap} {I Dd : Addr} {fp wr : List Addr} {ds all : List D} {elt iter : Expr} {x : Str} {px : Pos} {ifs : List Expr} {scope : Scope} {pos : Pos} {cenv : Env} {m : Str → Option Value} {R : Result → Shared → Prop}
  (tst : D → Option Bool) (el : D → Option D) (hc : compD tst el ds = some all) (hX : XOk G X h₀) (hold : ∀ b o, h₀.get? b = some o → s.heap.get? b = some o) (ti : G.TI s.heap)
  (S : Src G A X h₀ s.heap I fp wr ds) (hx : cenv.kindOf x = some .local) (hk : cenv.scope.kind = .function) (hC : h₀.get? cenv.locals = none) (hD : h₀.get? Dd = none)
  (hDC : Dd ≠ cenv.locals) (hDf : Dd ∉ fp) (hCf : cenv.locals ∉ fp)
  (hacc : s.heap.PlainList Dd #[]) (hn : s.heap.Ns cenv.locals m)
  (tests : ∀ (i : Nat) d v s₃ m₃ b E', ds[i]? = some d → tst d = some b → GrB G (cenv.locals :: Dd :: wr) s s₃ → G.TI s₃.heap → XOk G (cenv.locals :: Dd :: (wr ++ X)) s₃.heap → s₃.heap.Ns cenv.locals m₃ → m₃ x = some v → Rd G.C (cenv.locals :: Dd :: (wr ++ X)) s₃.heap d v →
   wpAny (model G.prog G.w) A (forIn ifs true fun c r => if r = true then do let ok ← isTrue c cenv (eval c cenv); pure (ForInStep.yield ok) else pure (ForInStep.yield r)) (fun ok s₄ => ok = b ∧ Gr G s₃ s₄) E' s₃)
  (elts : ∀ (i : Nat) d v s₃ m₃ y E', ds[i]? = some d → tst d = some true → el d = some y → GrB G (cenv.locals :: Dd :: wr) s s₃ → G.TI s₃.heap → XOk G (cenv.locals :: Dd :: (wr ++ X)) s₃.heap → s₃.heap.Ns cenv.locals m₃ → m₃ x = some v → Rd G.C (cenv.locals :: Dd :: (wr ++ X)) s₃.heap d v →
   wpAny (model G.prog G.w) A (eval elt cenv) (fun u s₄ => Gr G s₃ s₄ ∧ Rv G.C (cenv.locals :: Dd :: (wr ++ X)) s₄.heap y u) E' s₃)
  (hR : ∀ s' m' ys n, GrB G (cenv.locals :: Dd :: wr) s s' → s'.heap.Ns cenv.locals m' → s'.heap.get? Dd = some (lstObj ys n) → RdL G.C (cenv.locals :: Dd :: (wr ++ X)) s'.heap all ys → R (.ok .next) s')
  (hsz : ds.length ≤ bigD) :
  codeAny (model G.prog G.w) A (.compLoop (.ListComp elt [⟨.Name x px, iter, ifs, 0⟩] scope pos) 0 (.ref I) (.ref Dd) cenv) R s := by
 obtain ⟨St, P, W, hst, hwr, hfp, hlt, hNT, hrd⟩ := S
 have hCw : cenv.locals ∉ wr := fun h => hCf (W.sub _ h)
 have hDwr : Dd ∉ wr := fun h => hDf (W.sub _ h)
 have hsz' : bigD ≤ sizeLine := by decide
 have Y : ∀ b, b ∉ (cenv.locals :: Dd :: wr) ↔ b ≠ cenv.locals ∧ b ≠ Dd ∧ b ∉ wr := fun b => by simp only [List.mem_cons, not_or]
 have hXY : ∀ b o, h₀.get? b = some o → b ∉ (cenv.locals :: Dd :: wr) := fun b o e => (Y b).mpr ⟨fun q => (by rw [q, hC] at e; cases e), fun q => (by rw [q, hD] at e; cases e), fun q => (by rw [hwr b q] at e; cases e)⟩
 have hXi : ∀ b ∈ (cenv.locals :: Dd :: (wr ++ X)), b ∈ X ∨ h₀.get? b = none := fun b hb => by
  simp only [List.mem_cons, List.mem_append] at hb
  rcases hb with rfl | rfl | hb | hb
  ·exact .inr hC
  ·exact .inr hD
  ·exact .inr (hwr b hb)
  ·exact .inl hb
 have up : ∀ s', GrB G (cenv.locals :: Dd :: wr) s s' → ∀ b o, b ∉ X → h₀.get? b = some o → s'.heap.get? b = some o := fun s' g b o hb e =>
  g.heap b o (fun ht => hb (hX.tabs b ht)) (hXY b o e) (hold b o e)
 have hp : (cenv.scope.kind == .class || (cenv.scope.kind == .module && cenv.locals != cenv.globals)) = false := by rw [hk]; rfl
 have ok : ∀ s' i m' n ys, GrB G (cenv.locals :: Dd :: wr) s s' → G.TI s'.heap → St i s'.heap → s'.heap.Ns cenv.locals m' → s'.heap.get? Dd = some (lstObj ys n) → XOk G (cenv.locals :: Dd :: (wr ++ X)) s'.heap := by
  intro s' i m' n ys g ti' hst' hn' hg
  refine ⟨fun a ha => by simp only [List.mem_cons, List.mem_append]; exact .inr (.inr (.inr (hX.tabs a ha))), fun a ha => ?_⟩
  simp only [List.mem_cons, List.mem_append] at ha
  rcases ha with rfl | rfl | ha | ha
  ·obtain ⟨o, _, _, ho, _⟩ := hn'; exact ⟨o, ho⟩
  ·exact ⟨_, hg⟩
  ·obtain ⟨o, ho, _⟩ := hNT i _ hst' a ha; exact ⟨o, ho⟩
  ·by_cases hT : a ∈ G.T
   ·obtain ⟨vs, e⟩ := G.tabs _ ti' a hT; exact ⟨_, e⟩
   ·obtain ⟨o, e⟩ := hX.live a ha
    exact ⟨o, g.heap a o hT (hXY a o e) (hold a o e)⟩
 refine codeAny_compLoop_tests (fun k s' => ∃ (i : Nat) (m' : Str → Option Value) (ys : List Value) (n : Nat) (pre : List D), i ≤ ds.length ∧ k = ds.length + 1 - i ∧ GrB G (cenv.locals :: Dd :: wr) s s' ∧ G.TI s'.heap ∧ St i s'.heap ∧ s'.heap.Ns cenv.locals m' ∧
   s'.heap.get? Dd = some (lstObj ys n) ∧ compD tst el (ds.take i) = some pre ∧ RdL G.C (cenv.locals :: Dd :: (wr ++ X)) s'.heap pre ys) ?_ (ds.length + 1) ?_
 ·rintro k s' ⟨i, m', ys, n, pre, hi, rfl, g, ti', hst', hn', hg, hpre, hl⟩
  have nC : NT s'.heap cenv.locals := .dict hn'
  have nD : NT s'.heap Dd := .list (its := ys.toArray) ⟨_, hg, rfl, n, rfl⟩
  have nT : cenv.locals ∉ G.T := nC.notTab ti'
  have nDT : Dd ∉ G.T := nD.notTab ti'
  by_cases hlt' : i < ds.length
  ·refine W.item i _ _ _ hlt' hst' fun v h₁ tk₁ hPv hst₁ hk₁ => ?_
   have g₁ : GrB G wr s' { s' with heap := h₁, toks := tk₁ } := GrB.change (Y := wr) (fun b o hb e => hk₁ b o hb e) (fun b hb => hNT i _ hst' b hb)
   have hn₁ : h₁.Ns cenv.locals m' := hn'.at' fun o e => hk₁ _ o hCw e
   refine wpAny_assign_Name (wpAny_storeName_local hx hn₁ (fun h₂ hn₂ hs₂ => ?_) hp)
   have g₂ : GrB G [cenv.locals] { s' with heap := h₁, toks := tk₁ } { s' with heap := h₂, toks := tk₁ + 1 } := GrB.same (s := { s' with heap := h₁, toks := tk₁ }) hs₂ (.dict hn₁)
   have gg : GrB G (cenv.locals :: Dd :: wr) s' { s' with heap := h₂, toks := tk₁ + 1 } :=
    (g₁.mono fun y hy => List.mem_cons_of_mem _ (List.mem_cons_of_mem _ hy)).trans (g₂.mono fun y hy => by simp at hy; simp [hy])
   have g3 : GrB G (cenv.locals :: Dd :: wr) s { s' with heap := h₂, toks := tk₁ + 1 } := g.trans gg
   have ti₂ : G.TI h₂ := gg.ti ti'
   obtain ⟨d, hd, hr0⟩ := hrd i v hlt' hPv
   have hr : Rd G.C (cenv.locals :: Dd :: (wr ++ X)) h₂ d v := hr0.lift hXi (up _ g3)
   obtain ⟨pre', h1, h2⟩ := compD_at tst el ds all i d hc hd
   rw [hpre] at h1; cases h1
   have hst₂ : St (i + 1) h₂ := W.frame _ _ _ hst₁ fun b hb o e => (hs₂.2 b (fun q => hCf (q ▸ hb))).trans e
   have hg₂ : h₂.get? Dd = some (lstObj ys n) := (hs₂.2 Dd hDC).trans (hk₁ _ _ hDwr hg)
   have lift2 : ∀ (t : Shared), GrB G (cenv.locals :: Dd :: wr) s' t → RdL G.C (cenv.locals :: Dd :: (wr ++ X)) t.heap pre ys := fun t gt => hl.imp fun b o hb e => ⟨hb, by
    simp only [List.mem_cons, List.mem_append, not_or] at hb
    exact gt.heap b o (fun ht => hb.2.2.2 (hX.tabs b ht)) ((Y b).mpr ⟨hb.1, hb.2.1, hb.2.2.1⟩) e⟩
   have ok₂ := ok _ (i + 1) _ n ys g3 ti₂ hst₂ hn₂ hg₂
   have fin0 : ∀ b (s₄ : Shared), tst d = some b → Gr G { s' with heap := h₂, toks := tk₁ + 1 } s₄ → GrB G (cenv.locals :: Dd :: wr) s s₄ ∧ G.TI s₄.heap ∧ St (i + 1) s₄.heap ∧ s₄.heap.Ns cenv.locals (fun y => if y = x then some v else m' y) ∧ s₄.heap.get? Dd = some (lstObj ys n) ∧ RdL G.C (cenv.locals :: Dd :: (wr ++ X)) s₄.heap pre ys := by
    intro b s₄ hb g₄
    refine ⟨g3.trans g₄.b, g₄.ti ti₂, W.frame _ _ _ hst₂ fun c hc o e => g₄.heap c o (hfp c hc).2 e, hn₂.at' fun o e => g₄.heap _ o nT e, g₄.heap _ _ nDT hg₂, lift2 _ (gg.trans g₄.b)⟩
   rcases h2 with ⟨hf, hnext⟩ | ⟨y, ht, hy, hpy, hnext⟩
   ·refine wpAny_mono (tests i d v _ _ false _ hd hf g3 ti₂ ok₂ hn₂ (by simp) hr) (fun ok s₄ h₄ => ?_) fun _ _ e => e
    obtain ⟨rfl, g₄⟩ := h₄
    simp only [Bool.false_eq_true, if_false]
    obtain ⟨a1, a2, a3, a4, a5, a6⟩ := fin0 false s₄ hf g₄
    exact ⟨ds.length + 1 - (i + 1), by omega, i + 1, _, ys, n, pre, hlt', rfl, a1, a2, a3, a4, a5, hnext, a6⟩
   ·refine wpAny_mono (tests i d v _ _ true _ hd ht g3 ti₂ ok₂ hn₂ (by simp) hr) (fun ok s₄ h₄ => ?_) fun _ _ e => e
    obtain ⟨rfl, g₄⟩ := h₄
    simp only [if_true]
    obtain ⟨a1, a2, a3, a4, a5, a6⟩ := fin0 true s₄ ht g₄
    have hr4 : Rd G.C (cenv.locals :: Dd :: (wr ++ X)) s₄.heap d v := hr0.lift hXi (up _ a1)
    refine wpAny_mono (elts i d v _ _ y _ hd ht hy a1 a2 (ok _ (i + 1) _ n ys a1 a2 a3 a4 a5) a4 (by simp) hr4) (fun u s₅ h₅ => ?_) fun _ _ e => e
    obtain ⟨g₅, hu⟩ := h₅
    have hys : ys.length ≤ ds.length := by
     have := compD_length tst el _ _ hpre
     rw [hl.length]
     exact Nat.le_trans this (by rw [List.length_take]; omega)
    have hg₅ : s₅.heap.get? Dd = some (lstObj ys n) := g₅.heap _ _ nDT a5
    refine wpAny_list_append_plain (items := ys.toArray) ⟨n, hg₅⟩ (fun h₆ hl₆ hs₆ => ?_) (by rw [size_arr]; omega)
    have g₆ : GrB G [Dd] s₅ { s₅ with heap := h₆ } := GrB.same (tk := s₅.toks) hs₆ (.list (its := ys.toArray) ⟨_, hg₅, rfl, n, rfl⟩)
    have g7 : GrB G (cenv.locals :: Dd :: wr) s₄ { s₅ with heap := h₆ } := g₅.b.trans (g₆.mono fun y hy => by simp at hy; simp [hy])
    have ti₅ := g₅.ti a2
    obtain ⟨n₆, hn₆⟩ := hl₆
    refine ⟨ds.length + 1 - (i + 1), by omega, i + 1, (fun z => if z = x then some v else m' z), ys ++ [u], n₆, pre ++ [y], hlt', rfl, a1.trans g7, g7.ti a2, ?_, ?_, by rw [hn₆]; simp, hnext, ?_⟩
    ·exact W.frame _ _ _ a3 fun c hc o e => (hs₆.2 c (fun q => hDf (q ▸ hc))).trans (g₅.heap c o (hfp c hc).2 e)
    ·exact (a4.at' fun o e => g₅.heap _ o nT e).sameBut hs₆ (Ne.symm hDC)
    ·have h1 : RdL G.C (cenv.locals :: Dd :: (wr ++ X)) h₆ pre ys := lift2 { s₅ with heap := h₆ } ((gg.trans g₄.b).trans g7)
     have h2 : Rd G.C (cenv.locals :: Dd :: (wr ++ X)) h₆ y u := (hu.rd hpy).imp fun b o hb e => ⟨hb, by
      simp only [List.mem_cons, List.mem_append, not_or] at hb
      exact (hs₆.2 b hb.2.1).trans e⟩
     exact h1.append (.cons h2 .nil)
  ·have hin : i = ds.length := by omega
   subst hin
   refine W.done _ _ _ hst' fun h₁ tk₁ hk₁ => ?_
   have g₁ : GrB G wr s' { s' with heap := h₁, toks := tk₁ } := GrB.change (Y := wr) (fun b o hb e => hk₁ b o hb e) (fun b hb => hNT _ _ hst' b hb)
   have gg : GrB G (cenv.locals :: Dd :: wr) s' { s' with heap := h₁, toks := tk₁ } := g₁.mono fun y hy => List.mem_cons_of_mem _ (List.mem_cons_of_mem _ hy)
   rw [List.take_length, hc] at hpre
   cases hpre
   refine hR _ m' ys n (g.trans gg) (hn'.at' fun o e => hk₁ _ o hCw e) (hk₁ _ _ hDwr hg) ?_
   exact hl.imp fun b o hb e => ⟨hb, by
    simp only [List.mem_cons, List.mem_append, not_or] at hb
    exact hk₁ b o hb.2.2.1 e⟩
 ·obtain ⟨n, hg⟩ := hacc
  exact ⟨0, m, [], n, [], Nat.zero_le _, rfl, GrB.refl s, ti, hst, hn, by rw [hg], by simp [compD], .nil⟩
end
end Mine
namespace Mine
open PySem PySem.Calls PyProof.Rows PySem.W
def SrcEv (G : Gd) (A : Around) (X : List Addr) (s : Shared) (t : Sem Value) (ds : List D) : Prop :=
 ∀ E, wpAny (model G.prog G.w) A t (fun xv s₁ => wpAny (model G.prog G.w) A (pyIter xv) (fun it s₂ => ∃ I fp wr h₀, it = .ref I ∧ Gr G s s₂ ∧ XOk G X h₀ ∧
  (∀ b o, b ∉ G.T → s.heap.get? b = some o → h₀.get? b = some o) ∧ (∀ b o, h₀.get? b = some o → s₂.heap.get? b = some o) ∧ Src G A X h₀ s₂.heap I fp wr ds) E s₁) E s
section
variable {G : Gd} {A : Around} {X : List Addr} {s : Shared}
abbrev testsOf (ifs : List Expr) (cenv : Env) : Sem Bool := forIn ifs true fun c r => if r = true then do let ok ← isTrue c cenv (eval c cenv); pure (ForInStep.yield ok) else pure (ForInStep.yield r)
def TestOk (G : Gd) (A : Around) (X : List Addr) (s : Shared) (env : Env) (csc : Scope) (cl : List (Str × Addr)) (x : Str) (ifs : List Expr) (tst : D → Option Bool) : Prop :=
 ∀ C Xi d v s₃ m₃ b E', s.heap.get? C = none → (∀ a ∈ X, a ∈ Xi) → (∀ a ∈ Xi, a ∈ X ∨ s.heap.get? a = none) → tst d = some b → Gr G s s₃ → G.TI s₃.heap → XOk G Xi s₃.heap → s₃.heap.Ns C m₃ → m₃ x = some v → Rd G.C Xi s₃.heap d v →
  wpAny (model G.prog G.w) A (testsOf ifs (compEnvC csc cl C env)) (fun ok s₄ => ok = b ∧ Gr G s₃ s₄) E' s₃
def EltOk (G : Gd) (A : Around) (X : List Addr) (s : Shared) (env : Env) (csc : Scope) (cl : List (Str × Addr)) (x : Str) (elt : Expr) (tst : D → Option Bool) (el : D → Option D) : Prop :=
 ∀ C Xi d v s₃ m₃ y E', s.heap.get? C = none → (∀ a ∈ X, a ∈ Xi) → (∀ a ∈ Xi, a ∈ X ∨ s.heap.get? a = none) → tst d = some true → el d = some y → Gr G s s₃ → G.TI s₃.heap → XOk G Xi s₃.heap → s₃.heap.Ns C m₃ → m₃ x = some v → Rd G.C Xi s₃.heap d v →
  wpAny (model G.prog G.w) A (eval elt (compEnvC csc cl C env)) (fun u s₄ => Gr G s₃ s₄ ∧ Rv G.C Xi s₄.heap y u) E' s₃
theorem zL {h : Heap} {o : Obj} : h.get? h.objs.size = none := zF (Nat.le_refl _)
set_option maxHeartbeats 1000000 in
theorem comp_core {s₂ : Shared} {h₀ : Heap} {I : Addr} {fp wr : List Addr} {ds all : List D} {elt iter : Expr} {x : Str} {px : Pos} {ifs : List Expr} {csc : Scope} {cl : List (Str × Addr)} {pos : Pos} {env : Env} {E : Value → Shared → Prop} {RR : Value → Addr → Result → Shared → Prop}
  (tst : D → Option Bool) (el : D → Option D) (hc : compD tst el ds = some all) (ti : G.TI s.heap) (g : Gr G s s₂) (hX : XOk G X h₀) (k0 : ∀ b o, b ∉ G.T → s.heap.get? b = some o → h₀.get? b = some o) (k2 : ∀ b o, h₀.get? b = some o → s₂.heap.get? b = some o)
  (S : Src G A X h₀ s₂.heap I fp wr ds) (hcell : ∀ y ∈ csc.names, y.2 ≠ .cell) (hkind : csc.kind = .function) (hx : csc.names.lookup x = some .local)
  (tests : TestOk G A X s env csc cl x ifs tst) (elts : EltOk G A X s env csc cl x elt tst el) (hsz : ds.length ≤ bigD)
  (hRR : ∀ D C s' m' ys n, s.heap.get? D = none → s.heap.get? C = none → D ≠ C → Gr G s s' → s'.heap.Ns C m' → s'.heap.get? D = some (lstObj ys n) → RdL G.C (C :: D :: X) s'.heap all ys → RR (.ref D) C (.ok .next) s') :
  wpAny (model G.prog G.w) A (newList []) (fun acc s₃ => wpAny (model G.prog G.w) A (newFunctionEnv csc env.globals cl [] env.qual none .none (some env)) (fun cenv s₄ =>
   codeAny (model G.prog G.w) A (.compStart (.ListComp elt [⟨.Name x px, iter, ifs, 0⟩] csc pos) 0 (.ref I) acc { cenv with scope := relabel csc env }) (RR acc cenv.locals) s₄) E s₃) E s₂ := by
 refine wpAny_newObj_type (wpAny_newFunctionEnv hcell (by intro y hy; simp at hy) (fun h₁ hns₁ hsb₁ => ?_) hkind)
 dsimp only at hns₁ hsb₁ ⊢
 generalize hH2 : s₂.heap.push { cls := .type "list", dict := none, data := .seq ([] : List Value).toArray } = H2 at hns₁ hsb₁ ⊢
 have hC : H2.objs.size = s₂.heap.objs.size + 1 := by rw [← hH2, Heap.size_push]
 have hDC : s₂.heap.objs.size ≠ H2.objs.size := by rw [hC]; exact Nat.ne_of_lt (Nat.lt_succ_self _)
 have below : ∀ b, b < s₂.heap.objs.size → b ≠ H2.objs.size ∧ b ≠ s₂.heap.objs.size := fun b hb => ⟨by rw [hC]; exact Nat.ne_of_lt (Nat.lt_succ_of_lt hb), Nat.ne_of_lt hb⟩
 have old : ∀ b o, s₂.heap.get? b = some o → h₁.get? b = some o := fun b o e => hsb₁.extBut b o (below b (Heap.lt_size e)).1 (Heap.get?_push_of_some _ (hH2 ▸ Heap.get?_push_of_some _ e))
 have hacc : h₁.PlainList s₂.heap.objs.size #[] := ⟨_, hsb₁.extBut _ _ hDC (Heap.get?_push_of_some _ (hH2 ▸ Heap.get?_push_size _ rfl))⟩
 have freshS : ∀ a, s₂.heap.objs.size ≤ a → h₀.get? a = none ∧ (a ∉ G.T → s.heap.get? a = none) := fun a ha => by
  have h2 : s₂.heap.get? a = none := zF ha
  have h0 : h₀.get? a = none := by
   cases q : h₀.get? a with
   | none => rfl
   | some o => rw [k2 a o q] at h2; cases h2
  refine ⟨h0, fun hT => ?_⟩
  cases q : s.heap.get? a with
  | none => rfl
  | some o => rw [k0 a o hT q] at h0; cases h0
 have ti₂ : G.TI s₂.heap := g.ti ti
 have notT : ∀ a, s₂.heap.objs.size ≤ a → a ∉ G.T := fun a ha hT => by
  obtain ⟨vs, e⟩ := G.tabs _ ti₂ a hT
  rw [zF ha] at e; cases e
 obtain ⟨St, P, W, hst, hwr, hfp, hlt, hNT, hrd⟩ := S
 have hst₁ : St 0 h₁ := W.frame _ _ _ hst fun b _ o e => old b o e
 have S₁ : Src G A X h₀ h₁ I fp wr ds := ⟨St, P, W, hst₁, hwr, hfp, fun b hb => by
  have h1 := (below b (hlt b hb))
  have h2 : s₂.heap.objs.size ≤ h₁.objs.size := by
   have q := hns₁.lt
   exact Nat.le_of_lt (Nat.lt_of_le_of_lt (by rw [hC]; exact Nat.le_succ _) q)
  exact Nat.lt_of_lt_of_le (hlt b hb) h2, hNT, hrd⟩
 have fC := freshS H2.objs.size (by rw [hC]; exact Nat.le_succ _)
 have fD := freshS s₂.heap.objs.size (Nat.le_refl _)
 have nC := notT H2.objs.size (by rw [hC]; exact Nat.le_succ _)
 have nD := notT s₂.heap.objs.size (Nat.le_refl _)
 have hfD : ∀ b, (b = s₂.heap.objs.size ∨ b = H2.objs.size) → b ∉ fp := fun b hb hm => by
  have := below b (hlt b hm)
  rcases hb with rfl | rfl
  ·exact this.2 rfl
  ·exact this.1 rfl
 have wS : ∀ b ∈ wr, s.heap.get? b = none ∧ b ∉ G.T := fun b hb => by
  have hT := (hfp b (W.sub b hb)).2
  refine ⟨?_, hT⟩
  cases q : s.heap.get? b with
  | none => rfl
  | some o => have := k0 b o hT q; rw [hwr b hb] at this; cases this
 have g₁ : ∀ t : Nat, Gr G s { s₂ with heap := h₁, toks := t } := fun t => g.trans (Gr.of old)
 have loop : ∀ s₃ : Shared, s₃ = { s₂ with heap := h₁, toks := s₂.toks + ([] : List (Str × Value)).length } →
   codeAny (model G.prog G.w) A (.compLoop (.ListComp elt [⟨.Name x px, iter, ifs, 0⟩] csc pos) 0 (.ref I) (.ref s₂.heap.objs.size) (compEnvC csc cl H2.objs.size env))
    (RR (.ref s₂.heap.objs.size) H2.objs.size) s₃ := by
  rintro s₃ rfl
  have gs := g₁ (s₂.toks + ([] : List (Str × Value)).length)
  have toGr : ∀ s', GrB G (H2.objs.size :: s₂.heap.objs.size :: wr) { s₂ with heap := h₁, toks := s₂.toks + ([] : List (Str × Value)).length } s' → Gr G s s' := fun s' gb =>
   ⟨fun b o hb e => gb.heap b o hb (fun q => by
    simp only [List.mem_cons] at q
    rcases q with rfl | rfl | q
    ·rw [fC.2 nC] at e; cases e
    ·rw [fD.2 nD] at e; cases e
    ·rw [(wS b q).1] at e; cases e) (gs.heap b o hb e), fun t => gb.ti (gs.ti t), gb.os.trans gs.os, fun t => gb.bare (gs.bare t)⟩
  have hXi : ∀ a ∈ (H2.objs.size :: s₂.heap.objs.size :: (wr ++ X)), a ∈ X ∨ s.heap.get? a = none := fun a ha => by
   simp only [List.mem_cons, List.mem_append] at ha
   rcases ha with rfl | rfl | ha | ha
   ·exact .inr (fC.2 nC)
   ·exact .inr (fD.2 nD)
   ·exact .inr (wS a ha).1
   ·exact .inl ha
  have hXs : ∀ a ∈ X, a ∈ (H2.objs.size :: s₂.heap.objs.size :: (wr ++ X)) := fun a ha => by simp [ha]
  refine comp_loop (X := X) (h₀ := h₀) (s := { s₂ with heap := h₁, toks := s₂.toks + ([] : List (Str × Value)).length }) (cenv := compEnvC csc cl H2.objs.size env) tst el hc hX (fun b o e => old b o (k2 b o e)) (gs.ti ti) S₁ (lookup_relabel_local hx) (by simp [compEnvC, relabel, hkind]) fC.1 fD.1 hDC (hfD _ (.inl rfl)) (hfD _ (.inr rfl)) hacc hns₁ ?_ ?_ ?_ hsz
  ·intro i d v s₃ m₃ b E' hd ht gb ti₃ ok hn hm hr
   exact tests _ _ d v s₃ m₃ b E' (fC.2 nC) hXs hXi ht (toGr _ gb) ti₃ ok hn hm hr
  ·intro i d v s₃ m₃ y E' hd ht hy gb ti₃ ok hn hm hr
   exact elts _ _ d v s₃ m₃ y E' (fC.2 nC) hXs hXi ht hy (toGr _ gb) ti₃ ok hn hm hr
  ·intro s' m' ys n gb hn hg hl
   exact hRR _ _ s' m' ys n (fD.2 nD) (fC.2 nC) hDC (toGr _ gb) hn hg (hl.less fun b hb => by
    simp only [List.mem_cons] at hb
    simp only [List.mem_cons, List.mem_append]
    rcases hb with hb | hb | hb
    ·exact .inl hb
    ·exact .inr (.inl hb)
    ·exact .inr (.inr (.inr hb)))
 exact codeAny_compStart_list (loop _ rfl) (W.self 0 _ _ _ hst₁ (loop _ rfl))
theorem comp_ev {ds all : List D} {elt iter : Expr} {x : Str} {px : Pos} {ifs : List Expr} {csc : Scope} {cl : List (Str × Addr)} {pos : Pos} {env : Env}
  (tst : D → Option Bool) (el : D → Option D) (hc : compD tst el ds = some all) (hX : XOk G X s.heap) (ti : G.TI s.heap) (hclos : closureFor csc env = pure cl)
  (hcell : ∀ y ∈ csc.names, y.2 ≠ .cell) (hkind : csc.kind = .function) (hnames : ∀ y ∈ csc.names, y.2 = .local → csc.names.lookup y.1 = some .local) (hx : csc.names.lookup x = some .local)
  (src : SrcEv G A X s (eval iter env) ds) (tests : TestOk G A X s env csc cl x ifs tst) (elts : EltOk G A X s env csc cl x elt tst el) (hsz : ds.length ≤ bigD)
  (hs : ∀ v, foldedSetIterable iter env v = pure v) :
  Ev G A X s (eval (.ListComp elt [⟨.Name x px, iter, ifs, 0⟩] csc pos) env) (.lst all) := by
 intro E
 rw [eval_ListComp]
 refine wpAny_comprehension_free (use := none) rfl hs hclos hkind hnames (wpAny_mono (src E) (fun xv s₁ h₁ => wpAny_mono h₁ (fun it s₂ h₂ => ?_) fun _ _ e => e) fun _ _ e => e)
 obtain ⟨I, fp, wr, h₀, rfl, g, hX₀, k0, k2, S⟩ := h₂
 refine comp_core (RR := fun acc C => compPost (model G.prog G.w) A E none (fun v s' => Gr G s s' ∧ Rv G.C X s'.heap (.lst all) v) acc C) tst el hc ti g hX₀ k0 k2 S hcell hkind hx tests elts hsz ?_
 intro D C s' m' ys n hD hC hDC gs hn hg hl
 have nD : D ∉ X := hX.none hD
 have gr : ∀ h', Heap.SameBut C s'.heap h' → Gr G s { s' with heap := h' } := fun h' hs' =>
  ⟨fun b o hb e => (hs'.2 b (fun q => by rw [q, hC] at e; cases e)).trans (gs.heap b o hb e), fun t => G.frame _ _ (gs.ti t) fun b o tk e => (hs'.2 b (fun q => by
   obtain ⟨oC, e1, e2⟩ := NT.dict hn
   rw [q, e1] at e; cases e
   exact e2 tk)).trans e, gs.os, gs.bare⟩
 refine ⟨m', hn, fun h' hs' => ⟨gr h' hs', Rd.rv (Rd.lst' nD ((hs'.2 D hDC).trans hg) ?_)⟩⟩
 exact hl.imp fun b o hb e => ⟨fun q => hb (by simp [q]), (hs'.2 b (fun q => hb (by simp [q]))).trans e⟩
end
end Mine
namespace Mine
open PySem PySem.Calls PyProof.Rows PySem.W
def intsFrom (a : Int) : Nat → List D
 | 0 => []
 | n + 1 => .int a :: intsFrom (a + 1) n
theorem intsFrom_length : ∀ (n : Nat) (a : Int), (intsFrom a n).length = n
 | 0, _ => rfl
 | n + 1, a => by rw [intsFrom, List.length_cons, intsFrom_length n]
theorem intsFrom_get : ∀ (n : Nat) (a : Int) (i : Nat), i < n → (intsFrom a n)[i]? = some (.int (a + i))
 | 0, _, _, h => absurd h (Nat.not_lt_zero _)
 | n + 1, a, 0, _ => by simp [intsFrom]
 | n + 1, a, i + 1, h => by
  rw [intsFrom, List.getElem?_cons_succ, intsFrom_get n (a + 1) i (by omega)]
  congr 2; push_cast; omega
def itemsD (d : D) : Option (List D) := match d with
 | .lst ds => (match Nat.ble ds.length bigD with | true => some ds | false => none)
 | .tup ds => (match Nat.ble ds.length bigD with | true => some ds | false => none)
 | .str x => (match Nat.ble x.cps.size bigD with | true => some (x.cps.toList.map fun c => .str ⟨#[c]⟩) | false => none)
 | .rng a b => (match decide (0 ≤ a) with | true => (match decide (a ≤ b) with | true => (match decide (b ≤ bigD) with | true => some (intsFrom a (b - a).toNat) | false => none) | false => (match decide (b = 0 ∧ a = 1) with | true => some [] | false => none)) | false => none)
 | _ => none
theorem notIter {o : Obj} {T : String} {vs : Array Value} (hc : o.cls = .type T) (hd : o.data = .fields vs) (hT : Value.type T ≠ .none) (hv : ∀ q t, vs[1]? ≠ some (.str q t)) : ¬ TK o := fun ⟨us, e, q⟩ => by
 rw [hd] at e; cases e
 rcases q with q | ⟨x, t, q⟩
 ·rw [hc] at q; exact hT q
 ·exact hv x t q
section
variable {G : Gd} {A : Around} {X : List Addr} {s : Shared}
theorem itemsD_len {d : D} {ds : List D} (e : itemsD d = some ds) : ds.length ≤ bigD := by
 cases d with
 | lst l => dsimp only [itemsD] at e; split at e; (rename_i h; cases e; exact Nat.le_of_ble_eq_true h); cases e
 | tup l => dsimp only [itemsD] at e; split at e; (rename_i h; cases e; exact Nat.le_of_ble_eq_true h); cases e
 | str x => dsimp only [itemsD] at e; split at e; (rename_i h; cases e; rw [List.length_map, Array.length_toList]; exact Nat.le_of_ble_eq_true h); cases e
 | rng a b =>
  dsimp only [itemsD] at e
  split at e
  ·split at e
   ·split at e
    ·rename_i _ h0 _ _ _ h3
     have h0 := of_decide_eq_true h0
     have h3 := of_decide_eq_true h3
     cases e
     rw [intsFrom_length]; omega
    ·cases e
   ·split at e
    ·cases e; simp
    ·cases e
  ·cases e
 | _ => cases e
theorem itemsD_ok (hh : A.handled = none) (hX : XOk G X s.heap) (ti : G.TI s.heap) {d : D} {v : Value} {ds : List D} (r : Rd G.C X s.heap d v) (e : itemsD d = some ds) :
  ∀ E, wpAny (model G.prog G.w) A (pyIter v) (fun it s₂ => ∃ I fp wr, it = .ref I ∧ Gr G s s₂ ∧ (∀ b o, s.heap.get? b = some o → s₂.heap.get? b = some o) ∧ Src G A X s.heap s₂.heap I fp wr ds) E s := by
 intro E
 have nT : s.heap.objs.size ∉ G.T := fun h => by
  obtain ⟨vs, q⟩ := G.tabs _ ti _ h
  rw [zL (o := { cls := .none, data := .fields #[] })] at q; cases q
 have up : ∀ o' b o, s.heap.get? b = some o → (s.heap.push o').get? b = some o := fun o' b o e => Heap.get?_push_of_some _ e
 have notTab : ∀ (a : Addr) (o : Obj), s.heap.get? a = some o → o.cls ≠ .none → a ∉ G.T := fun a o e hc h => by
  obtain ⟨us, q⟩ := G.tabs _ ti a h
  rw [e] at q; cases q
  exact hc rfl
 have fpz : ∀ (I ax : Addr) (o : Obj), I = s.heap.objs.size → ax ∉ X → s.heap.get? ax = some o → o.cls ≠ .none → ∀ b ∈ [I, ax], (b ∈ [I] ∨ (b ∉ X ∧ ∃ o, s.heap.get? b = some o)) ∧ b ∉ G.T := fun I ax o hI hx ho hc b hb => by
  simp only [List.mem_cons, List.not_mem_nil, or_false] at hb
  rcases hb with rfl | rfl
  ·exact ⟨.inl (by simp), hI ▸ nT⟩
  ·exact ⟨.inr ⟨hx, _, ho⟩, notTab _ _ ho hc⟩
 cases d with
 | lst l =>
  dsimp only [itemsD] at e
  split at e
  ·rename_i hb
   cases e
   unfold Rd at r
   obtain ⟨a, vs, n, rfl, hx, hg, rl⟩ := r
   have il : s.heap.IsList a vs.toArray := ⟨_, hg, rfl, n, rfl⟩
   refine wpAny_pyIter_list il ⟨s.heap.objs.size, [s.heap.objs.size, a], [s.heap.objs.size], rfl, Gr.push', up _, ?_⟩
   have hlen : ds.length = vs.toArray.size := by rw [size_arr, rl.length]
   have hne : a ≠ s.heap.objs.size := Nat.ne_of_lt (Heap.lt_size hg)
   refine ⟨_, _, hlen ▸ Walks.list hh s.heap.objs.size a hne vs.toArray, ⟨⟨_, Heap.get?_push_size _ rfl, rfl, rfl⟩, ⟨_, up _ _ _ hg, rfl, n, rfl⟩⟩, ?_, fpz _ _ _ rfl hx hg (by simp), ?_, ?_, ?_⟩
   ·intro b hb; simp at hb; subst hb; exact zL (o := { cls := .none, data := .fields #[] })
   ·intro b hb
    simp only [List.mem_cons, List.not_mem_nil, or_false] at hb
    show b < (s.heap.push _).objs.size
    rw [Heap.size_push]
    rcases hb with rfl | rfl
    ·exact Nat.lt_succ_self _
    ·exact Nat.lt_succ_of_lt (Heap.lt_size hg)
   ·intro i h' st b hb
    simp at hb; subst hb
    obtain ⟨o, ho, hc, hd⟩ := st.1
    exact ⟨o, ho, notIter hc hd (by simp) (by simp)⟩
   ·intro i v _ hv
    have : i < ds.length := by
     have h1 : i < vs.toArray.size := by
      rw [Array.getElem?_eq_some_iff] at hv
      exact hv.1
     omega
    refine ⟨ds[i], by simp [this], ?_⟩
    obtain ⟨u, h1, h2⟩ := rl.get (i := i) (d := ds[i]) (by simp [this])
    have : u = v := by
     have hv' : vs[i]? = some v := by simpa using hv
     rw [h1] at hv'; exact Option.some.inj hv'
    exact this ▸ h2
  ·cases e
 | tup l =>
  dsimp only [itemsD] at e
  split at e
  ·rename_i hb
   cases e
   unfold Rd at r
   obtain ⟨a, vs, n, rfl, hx, hg, rl⟩ := r
   have il : s.heap.IsTuple a vs.toArray := ⟨_, hg, rfl, n, rfl⟩
   refine wpAny_pyIter_tuple il ⟨s.heap.objs.size, [s.heap.objs.size, a], [s.heap.objs.size], rfl, Gr.push', up _, ?_⟩
   have hlen : ds.length = vs.toArray.size := by rw [size_arr, rl.length]
   have hne : a ≠ s.heap.objs.size := Nat.ne_of_lt (Heap.lt_size hg)
   refine ⟨_, _, hlen ▸ Walks.tuple hh s.heap.objs.size a hne vs.toArray, ⟨⟨_, Heap.get?_push_size _ rfl, rfl, rfl⟩, ⟨_, up _ _ _ hg, rfl, n, rfl⟩⟩, ?_, fpz _ _ _ rfl hx hg (by simp), ?_, ?_, ?_⟩
   ·intro b hb; simp at hb; subst hb; exact zL (o := { cls := .none, data := .fields #[] })
   ·intro b hb
    simp only [List.mem_cons, List.not_mem_nil, or_false] at hb
    show b < (s.heap.push _).objs.size
    rw [Heap.size_push]
    rcases hb with rfl | rfl
    ·exact Nat.lt_succ_self _
    ·exact Nat.lt_succ_of_lt (Heap.lt_size hg)
   ·intro i h' st b hb
    simp at hb; subst hb
    obtain ⟨o, ho, hc, hd⟩ := st.1
    exact ⟨o, ho, notIter hc hd (by simp) (by simp)⟩
   ·intro i v _ hv
    have : i < ds.length := by
     have h1 : i < vs.toArray.size := by
      rw [Array.getElem?_eq_some_iff] at hv
      exact hv.1
     omega
    refine ⟨ds[i], by simp [this], ?_⟩
    obtain ⟨u, h1, h2⟩ := rl.get (i := i) (d := ds[i]) (by simp [this])
    have : u = v := by
     have hv' : vs[i]? = some v := by simpa using hv
     rw [h1] at hv'; exact Option.some.inj hv'
    exact this ▸ h2
  ·cases e
 | str x =>
  dsimp only [itemsD] at e
  split at e
  ·rename_i hb
   cases e
   unfold Rd at r
   obtain ⟨t, rfl⟩ := r
   have sign : ∀ i v, i < (x.cps.toList.map fun c => D.str ⟨#[c]⟩).length → SignAt x i v → ∃ d, (x.cps.toList.map fun c => D.str ⟨#[c]⟩)[i]? = some d ∧ Rd G.C X s.heap d v := by
    rintro i v _ ⟨c, u, hc, rfl⟩
    exact ⟨.str ⟨#[c]⟩, by simp [hc], Rd.str'⟩
   have hlen : (x.cps.toList.map fun c => D.str ⟨#[c]⟩).length = x.cps.size := by simp
   have lt1 : ∀ o', ∀ b ∈ [s.heap.objs.size], b < (s.heap.push o').objs.size := fun o' b hb => by simp at hb; subst hb; rw [Heap.size_push]; exact Nat.lt_succ_self _
   have fp1 : ∀ b ∈ [s.heap.objs.size], (b ∈ [s.heap.objs.size] ∨ (b ∉ X ∧ ∃ o, s.heap.get? b = some o)) ∧ b ∉ G.T := fun b hb => ⟨.inl hb, by simp at hb; subst hb; exact nT⟩
   have fr1 : ∀ b ∈ [s.heap.objs.size], s.heap.get? b = none := fun b hb => by simp at hb; subst hb; exact zL (o := { cls := .none, data := .fields #[] })
   cases ha : x.cps.all (· < 128)
   ·refine wpAny_pyIter_wide ha ⟨s.heap.objs.size, [s.heap.objs.size], [s.heap.objs.size], rfl, Gr.push', up _, ?_⟩
    refine ⟨_, _, hlen.symm ▸ Walks.strWide hh s.heap.objs.size x t, ⟨_, Heap.get?_push_size _ rfl, rfl, rfl⟩, fr1, fp1, lt1 _, ?_, sign⟩
    intro i h' st b hb
    simp at hb; subst hb
    obtain ⟨o, ho, hc, hd⟩ := st
    exact ⟨o, ho, notIter hc hd (by simp) (by simp)⟩
   ·refine wpAny_pyIter_ascii ha ⟨s.heap.objs.size, [s.heap.objs.size], [s.heap.objs.size], rfl, Gr.push', up _, ?_⟩
    refine ⟨_, _, hlen.symm ▸ Walks.strAscii hh s.heap.objs.size x t, ⟨_, Heap.get?_push_size _ rfl, rfl, rfl⟩, fr1, fp1, lt1 _, ?_, sign⟩
    intro i h' st b hb
    simp at hb; subst hb
    obtain ⟨o, ho, hc, hd⟩ := st
    exact ⟨o, ho, notIter hc hd (by simp) (by simp)⟩
  ·cases e
 | rng a b =>
  unfold Rd at r
  obtain ⟨p, t, u, w, rfl, hx, hg⟩ := r
  have main : ∀ n : Nat, 0 ≤ a → a ≤ 2000000 → b ≤ 2000000 → -1 ≤ b → n = (if a < b then b - a else 0) → ds = intsFrom a n → wpAny (model G.prog G.w) A (pyIter (.ref p)) (fun it s₂ => ∃ I fp wr, it = .ref I ∧ Gr G s s₂ ∧ (∀ b o, s.heap.get? b = some o → s₂.heap.get? b = some o) ∧ Src G A X s.heap s₂.heap I fp wr ds) E s := by
   intro n h0 h1 h2 h3 hn hds
   refine wpAny_pyIter_range hg (small_one (by omega) (by omega) (by omega) (by omega)) ⟨s.heap.objs.size, [s.heap.objs.size], [s.heap.objs.size], rfl, Gr.push', up _, ?_⟩
   have hlen : ds.length = n := by rw [hds, intsFrom_length]
   refine ⟨_, _, hlen.symm ▸ Walks.range hh s.heap.objs.size a 1 n, ?_, ?_, ?_, ?_, ?_, ?_⟩
   ·have : Builtin.Range.rangeSize a b 1 = (n : Int) := by rw [rangeSize_one]; exact hn.symm
    rw [this]
    show (s.heap.push _).get? _ = _
    rw [Heap.get?_push_size _ rfl, hlen]
    simp
   ·intro b hb; simp at hb; subst hb; exact zL (o := { cls := .none, data := .fields #[] })
   ·intro b hb
    exact ⟨.inl hb, by simp at hb; subst hb; exact nT⟩
   ·intro b hb; simp at hb; subst hb; show _ < (s.heap.push _).objs.size; rw [Heap.size_push]; exact Nat.lt_succ_self _
   ·intro i h' st b hb
    simp at hb; subst hb
    exact ⟨_, st, notIter rfl rfl (by simp) (by simp [rawInt])⟩
   ·rintro i v hi ⟨t, rfl⟩
    rw [hlen] at hi
    refine ⟨.int (a + i), by rw [hds]; exact intsFrom_get _ _ _ hi, ?_⟩
    rw [Int.mul_one]; exact Rd.int'
  dsimp only [itemsD] at e
  have hbig : (bigD : Int) = 1000000 := rfl
  split at e
  ·rename_i h0
   have h0 := of_decide_eq_true h0
   split at e
   ·split at e
    ·rename_i h1 _ h2
     have h1 := of_decide_eq_true h1
     have h2 := of_decide_eq_true h2
     cases e
     refine main (b - a).toNat h0 (by omega) (by omega) (by omega) ?_ rfl
     split <;> omega
    ·cases e
   ·rename_i h1
    have h1 := of_decide_eq_false h1
    split at e
    ·rename_i h2
     have h2 := of_decide_eq_true h2
     cases e
     refine main 0 h0 ?_ ?_ ?_ ?_ rfl
     all_goals first | omega | (split <;> omega)
    ·cases e
  ·cases e
 | _ => cases e
end
end Mine
namespace Mine
open PySem PySem.Calls PyProof.Rows PySem.W
abbrev Rho := List (Str × D)
abbrev Kn := List (Str × NameKind)
structure Cf where
 Γ : Str → Option D
 Φ : Addr → List D → Option D
 H : Kn → Rho → Expr → Option D
def truS (a : D) : Option Bool := match a with
 | .str x => (match Nat.ble x.length bigD with | true => truthD (.str x) | false => none)
 | .lst x => (match Nat.ble x.length bigD with | true => truthD (.lst x) | false => none)
 | .own x => (match Nat.ble x.length bigD with | true => truthD (.own x) | false => none)
 | a => truthD a
def relK (names : Kn) (K : Kn) : Kn := names.map fun (n, k) => if (k == .free && (ScopeKind.function == .function) && K.lookup n == some .cell) then (n, .cell) else (n, k)
def freeIn (names : Kn) (y : Str) : Bool := names.any fun p => p.1 == y && p.2 == .free
def known (ρ : Rho) (K : Kn) (y : Str) : Bool := match ρ.lookup y with
 | some .unb => false
 | some _ => (match K.lookup y with | some .cell => true | some .free => true | _ => false)
 | none => false
def codeOf (K : Kn) : Option (Value × Str) := match K.lookup ("_twin_re_1" : Str) with
 | some _ => some (.ref 89, "_translate.<locals>.")
 | none => (match K.lookup ("RuntimeError" : Str) with
  | some _ => some (.ref 37, "_prepare_tag.<locals>.")
  | none => (match K.lookup ("script" : Str) with | some _ => some (.ref 169, "law.<locals>.") | none => none))
def goodComp (names : Kn) (K : Kn) (ρ : Rho) (x : Str) : Bool :=
 names.all (fun p => p.2 != .cell) && names.all (fun p => p.2 != .local || names.lookup p.1 == some .local) && (names.lookup x == some .local) &&
 names.all (fun p => p.2 != .free || (known ρ K p.1 && names.lookup p.1 == some .free)) && (codeOf names).isNone
def isCN : Expr → Bool
 | .Constant .. => true
 | .Name .. => true
 | _ => false
def strsD : List D → Option (List Str)
 | [] => some []
 | .str x :: ds => (match strsD ds with | some xs => some (x :: xs) | none => none)
 | _ :: _ => none
def lensS (xs : List Str) : Nat := (xs.map (·.length)).sum
def joinD (x : Str) (d : D) : Option D := match d.list? with
 | some ds => (match strsD ds with
  | some xs => (match Nat.ble (lensS xs + xs.length * x.length) bigD with | true => some (.str (Txt.join x xs)) | false => none)
  | none => none)
 | none => none
def sumD (d : D) : Option D := match d.list? with
 | some ds => (match intsD ds with | some ns => some (.int ns.sum) | none => none)
 | none => none
def meth (name : Str) (x : Str) (args : List D) : Option D :=
 if name == "join" then (match args with | [d] => joinD x d | _ => none)
 else if name == "find" then (match args with | [.str y, .int i] => some (.int (Txt.find3 x y i)) | _ => none)
 else if name == "replace" then (match args with | [.str y, .str z] => (match (PySem.Builtin.Str.occurrences x y 0 x.length (x.length + 1)).isEmpty with | true => some (.str x) | false => none) | _ => none)
 else none
def callD (cf : Cf) (f : D) (args : List D) : Option D := match f with
 | .opq a => cf.Φ a args
 | .blt id => if id == "len" then (match args with | [d] => lenD d | _ => none) else if id == "sum" then (match args with | [d] => sumD d | _ => none) else none
 | .typ n => if n == "range" then (match args with | [.int b] => some (.rng 0 b) | [.int a, .int b] => some (.rng a b) | _ => none) else none
 | _ => none
def argOk (f : D) (d : D) : Bool := match f with
 | .blt _ => (match d with | .own _ => true | d => d.pure)
 | _ => d.pure
mutual
def evD (cf : Cf) : Nat → Kn → Rho → Expr → Option D
 | 0, _, _, _ => none
 | n + 1, K, ρ, e => match e with
  | .Constant c _ _ => (match c with | .int i => some (.int i) | .str x => some (.str x) | .none => some .none | .bool b => some (.bool b) | _ => none)
  | .Name x _ => if (x == ("__debug__" : Str)) || (x == ("__classdict__" : Str)) then none else (match ρ.lookup x with
   | some d => (match d with | .unb => none | .app _ => none | d => some d)
   | none => (match K.lookup x with | some .globalImplicit => cf.Γ x | _ => none))
  | .BinOp l op r _ => (match evD cf n K ρ l with | some a => (match evD cf n K ρ r with | some b => binD op a b | none => none) | none => none)
  | .UnaryOp op x _ => (match op with | .USub => (match evD cf n K ρ x with | some a => unD .USub a | none => none) | _ => none)
  | .IfExp t b o _ => (match tsD cf n K ρ t with | some true => evD cf n K ρ b | some false => evD cf n K ρ o | none => none)
  | .BoolOp .And [a, b] _ => (match evD cf n K ρ a with | some va => (match truS va with | some true => evD cf n K ρ b | some false => some va | none => none) | none => none)
  | .Compare l [op] [r] _ => (match evD cf n K ρ l with | some a => (match evD cf n K ρ r with | some b => (match cmpD op a b with | some c => some (.bool c) | none => none) | none => none) | none => none)
  | .Tuple es _ _ => (match evL cf n K ρ es with | some ds => (match (ds.all D.pure && Nat.ble ds.length bigD) with | true => some (.tup ds) | false => none) | none => none)
  | .List es _ => (match evL cf n K ρ es with | some ds => (match (ds.all D.pure && Nat.ble ds.length bigD) with | true => some (.lst ds) | false => none) | none => none)
  | .Subscript v (.Slice lo hi none _) _ => (match evD cf n K ρ v with
   | some a => (match (match lo with | none => some none | some e => (match evD cf n K ρ e with | some (.int i) => some (some i) | _ => none) : Option (Option Int)) with
    | some l => (match (match hi with | none => some none | some e => (match evD cf n K ρ e with | some (.int i) => some (some i) | _ => none) : Option (Option Int)) with
     | some h => sliceD a l h
     | none => none)
    | none => none)
   | none => none)
  | .Subscript v i _ => (match evD cf n K ρ v with | some a => (match evD cf n K ρ i with | some b => idxD a b | none => none) | none => none)
  | .Call (.Name f p) (a :: as) [] _ => (match ρ.lookup f with
   | none => (match evD cf n K ρ (.Name f p) with
    | some fd => (match evL cf n K ρ (a :: as) with | some ds => (match ds.all (argOk fd) with | true => callD cf fd ds | false => none) | none => none)
    | none => none)
   | some _ => none)
  | .Call (.Attribute o name apos) (a :: as) [] pos => (match (isCN o && (apos.endLine == pos.line) && Nat.ble (as.length) 20) with
   | true => (match evD cf n K ρ o with
    | some (.str x) => (match evL cf n K ρ (a :: as) with | some ds => (match ds.all (argOk (.blt "")) with | true => meth name x ds | false => none) | none => none)
    | _ => cf.H K ρ e)
   | false => none)
  | .Attribute (.Name x p) y _ => (match y == ("root" : Str) with
   | true => (match evD cf n K ρ (.Name x p) with | some (.node r _) => some (.int r) | _ => none)
   | false => none)
  | .ListComp elt [⟨.Name x _, iter, ifs, 0⟩] csc _ => (match (goodComp csc.names K ρ x && (csc.kind == .function)) with
   | true => (match evD cf n K ρ iter with
    | some d => (match itemsD d with
     | some ds => (match compD (fun d => tsL cf n (relK csc.names K) ((x, d) :: ρ.filter fun q => freeIn csc.names q.1) ifs) (fun d => evD cf n (relK csc.names K) ((x, d) :: ρ.filter fun q => freeIn csc.names q.1) elt) ds with
      | some ys => some (.lst ys)
      | none => none)
     | none => none)
    | none => none)
   | false => none)
  | .JoinedStr (v₁ :: v₂ :: vs) _ => (match fsD cf n K ρ (v₁ :: v₂ :: vs) with
   | some xs => (match Nat.ble (lensS xs) bigD with | true => some (.str (xs.foldl (· ++ ·) Str.empty)) | false => none)
   | none => none)
  | _ => none
def tsD (cf : Cf) : Nat → Kn → Rho → Expr → Option Bool
 | 0, _, _, _ => none
 | n + 1, K, ρ, e => match e with
  | .UnaryOp .Not x _ => (match tsD cf n K ρ x with | some b => some (!b) | none => none)
  | .BoolOp .And es _ => allD cf n K ρ es
  | .BoolOp .Or es _ => anyD cf n K ρ es
  | .Compare l [op] [r] _ => (match evD cf n K ρ l with | some a => (match evD cf n K ρ r with | some b => cmpD op a b | none => none) | none => none)
  | .Name x p => (match evD cf n K ρ (.Name x p) with | some a => truS a | none => none)
  | .Call f as ks p => (match evD cf n K ρ (.Call f as ks p) with | some a => truS a | none => none)
  | _ => none
def evL (cf : Cf) : Nat → Kn → Rho → List Expr → Option (List D)
 | 0, _, _, _ => none
 | n + 1, K, ρ, es => match es with
  | [] => some []
  | e :: es => (match evD cf n K ρ e with | some d => (match evL cf n K ρ es with | some ds => some (d :: ds) | none => none) | none => none)
def tsL (cf : Cf) : Nat → Kn → Rho → List Expr → Option Bool
 | 0, _, _, _ => none
 | n + 1, K, ρ, es => match es with
  | [] => some true
  | e :: es => (match tsD cf n K ρ e with | some true => tsL cf n K ρ es | some false => some false | none => none)
def allD (cf : Cf) : Nat → Kn → Rho → List Expr → Option Bool
 | 0, _, _, _ => none
 | n + 1, K, ρ, es => match es with
  | [] => some true
  | e :: es => (match tsD cf n K ρ e with | some true => allD cf n K ρ es | some false => some false | none => none)
def anyD (cf : Cf) : Nat → Kn → Rho → List Expr → Option Bool
 | 0, _, _, _ => none
 | n + 1, K, ρ, es => match es with
  | [] => some false
  | e :: es => (match tsD cf n K ρ e with | some true => some true | some false => anyD cf n K ρ es | none => none)
def fsD (cf : Cf) : Nat → Kn → Rho → List Expr → Option (List Str)
 | 0, _, _, _ => none
 | n + 1, K, ρ, es => match es with
  | [] => some []
  | .Constant (.str x) _ _ :: es => (match fsD cf n K ρ es with | some xs => some (x :: xs) | none => none)
  | .FormattedValue e (-1) none _ :: es => (match evD cf n K ρ e with | some (.str x) => (match fsD cf n K ρ es with | some xs => some (x :: xs) | none => none) | _ => none)
  | _ => none
end
end Mine
namespace Mine
open PySem PySem.Calls PyProof.Rows PySem.W
inductive All2 (R : D → Value → Prop) : List D → List Value → Prop
 | nil : All2 R [] []
 | cons {d v ds vs} : R d v → All2 R ds vs → All2 R (d :: ds) (v :: vs)
structure EnvK (env : Env) (K : Kn) : Prop where
 code : ∀ c, codeOf K = some c → env.code = c.1 ∧ env.qual = c.2
 names : env.scope.names = K
 kind : env.scope.kind = .function
 glob : env.globals = mainGlobals
 bi : env.builtins = builtinsNs
def Holds (h : Heap) (env : Env) (m : Str → Option Value) (x : Str) (v : Value) : Prop :=
 (env.kindOf x = some .local ∧ m x = some v) ∨ ((env.kindOf x = some .cell ∨ env.kindOf x = some .free) ∧ ∃ c, env.cells.lookup x = some c ∧ h.IsCell c (some v))
def AppAt (h : Heap) (b a : Addr) : Prop := ∃ o vs, h.get? b = some o ∧ o.cls = .type "builtin_function_or_method" ∧ o.data = .fields vs ∧ vs[0]? = some (.builtin "list.append") ∧ vs[1]? = some (.ref a)
def Bears (C : Addr) (X : List Addr) (h : Heap) (W : Str → Option Addr) (x : Str) (d : D) (v : Value) : Prop := match d with
 | .own ds => ∃ a vs n, W x = some a ∧ v = .ref a ∧ a ∈ X ∧ h.get? a = some (lstObj vs n) ∧ RdL C X h ds vs
 | .app y => ∃ a b, W y = some a ∧ v = .ref b ∧ b ∉ X ∧ AppAt h b a
 | d => Rd C X h d v
structure EnvOk (G : Gd) (env : Env) (K : Kn) (X : List Addr) (h : Heap) (ρ : Rho) : Prop where
 k : EnvK env K
 ex : ∃ m W, h.Ns env.locals m ∧ (∀ x y a, W x = some a → W y = some a → x = y) ∧ ∀ x d, ρ.lookup x = some d → d = .unb ∨ ∃ v, Holds h env m x v ∧ Bears G.C X h W x d v
theorem Bears.rv {C X h W x d v} (b : Bears C X h W x d v) (hd : ∀ y, d ≠ .app y) : Rv C X h d v := by
 cases d with
 | own ds => obtain ⟨a, vs, n, _, e, _, hg, hl⟩ := b; exact ⟨a, vs, n, e, hg, hl⟩
 | app y => exact absurd rfl (hd y)
 | _ => exact b
theorem IsCell.at' {h h' : Heap} {c : Addr} {v} (x : h.IsCell c v) (e : ∀ o, h.get? c = some o → h'.get? c = some o) : h'.IsCell c v := let ⟨o, ho, hd⟩ := x; ⟨o, e o ho, hd⟩
theorem Bears.imp {C X X' h h' W x d v} (b : Bears C X h W x d v) (k : ∀ b o, b ∉ X → h.get? b = some o → b ∉ X' ∧ h'.get? b = some o)
  (kX : ∀ a ds, d = .own ds → a ∈ X → ∀ vs n, h.get? a = some (lstObj vs n) → a ∈ X' ∧ h'.get? a = some (lstObj vs n)) : Bears C X' h' W x d v := by
 cases d with
 | own ds => obtain ⟨a, vs, n, e1, e2, hx, hg, hl⟩ := b; exact ⟨a, vs, n, e1, e2, (kX a ds rfl hx vs n hg).1, (kX a ds rfl hx vs n hg).2, hl.imp k⟩
 | app y => obtain ⟨a, b, e1, e2, hx, o, vs, hg, r⟩ := b; exact ⟨a, b, e1, e2, (k b o hx hg).1, o, vs, (k b o hx hg).2, r⟩
 | _ => exact Rd.imp k b
theorem Cx.notTab {G : Gd} {h : Heap} (x : Cx G h) {a : Addr} {o : Obj} (e : h.get? a = some o) (n : ¬ TK o) : a ∉ G.T := NT.notTab ⟨o, e, n⟩ x.ti
theorem zI {vs n} : ¬ TK (lstObj vs n) := fun ⟨us, q, _⟩ => by cases q
theorem EnvOk.gr {G : Gd} {env : Env} {K : Kn} {X : List Addr} {s s' : Shared} {ρ : Rho} (hX : XOk G X s.heap) (x : Cx G s.heap) (g : Gr G s s') (e : EnvOk G env K X s.heap ρ) : EnvOk G env K X s'.heap ρ := by
 obtain ⟨k, m, W, hn, hi, hv⟩ := e
 refine ⟨k, m, W, hn.at' fun o e => g.heap _ o ((NT.dict hn).notTab x.ti) e, hi, fun y d e => ?_⟩
 rcases hv y d e with h | ⟨v, h, b⟩
 ·exact .inl h
 ·refine .inr ⟨v, ?_, b.imp (fun b o hb e => ⟨hb, g.heap b o (fun t => hb (hX.tabs b t)) e⟩) fun a ds _ ha vs n e => ⟨ha, g.heap _ _ (x.notTab e zI) e⟩⟩
  rcases h with h | ⟨h, c, h1, h2⟩
  ·exact .inl h
  ·exact .inr ⟨h, c, h1, IsCell.at' h2 fun o e => g.heap _ o ((NT.cell h2).notTab x.ti) e⟩
structure CfOk (G : Gd) (cf : Cf) (k : Nat) : Prop where
 gam : ∀ x d, cf.Γ x = some d → ∃ v, (G.mg x = some v ∨ (G.mg x = none ∧ G.mb x = some v)) ∧ ∀ X h, Rd G.C X h d v
 fn : ∀ a ds d, cf.Φ a ds = some d → ∃ o fd, G.hb.get? a = some o ∧ o.data = .func fd ∧ a ∉ G.T ∧ ∀ A X s vs, Room k A → Cx G s.heap → XOk G X s.heap → RdL G.C X s.heap ds vs →
  ∀ E, wpAny (model G.prog G.w) A (call (.ref a) vs) (fun v s' => Gr G s s' ∧ Rd G.C X s'.heap d v) E s
 hook : ∀ K ρ e d, cf.H K ρ e = some d → ∀ A X s env, Room k A → Cx G s.heap → XOk G X s.heap → EnvOk G env K X s.heap ρ → Ev G A X s (eval e env) d
 root : ∀ A X s a r t, NodeAt G.C X s.heap a r t → Cx G s.heap → XOk G X s.heap → ∀ E, wpAny (model G.prog G.w) A (getAttr (.ref a) "root" true) (fun v s' => Gr G s s' ∧ ∃ u, v = .int r u) E s
structure Cxt (G : Gd) (k : Nat) (A : Around) (X : List Addr) (s : Shared) (env : Env) (K : Kn) (ρ : Rho) : Prop where
 room : Room k A
 cx : Cx G s.heap
 xok : XOk G X s.heap
 env : EnvOk G env K X s.heap ρ
theorem Cxt.gr {G k A X s s' env K ρ} (c : Cxt G k A X s env K ρ) (g : Gr G s s') : Cxt G k A X s' env K ρ := ⟨c.room, g.cx c.cx, c.xok.gr c.cx.ti g, c.env.gr c.xok c.cx g⟩
def EvS (G : Gd) (k : Nat) (K : Kn) (ρ : Rho) (e : Expr) (d : D) : Prop := ∀ A X s env, Cxt G k A X s env K ρ → Ev G A X s (eval e env) d
def TsS (G : Gd) (k : Nat) (K : Kn) (ρ : Rho) (e : Expr) (b : Bool) : Prop := ∀ A X s env, Cxt G k A X s env K ρ → ∀ E, wpAny (model G.prog G.w) A (isTrue e env (eval e env)) (fun c s' => c = b ∧ Gr G s s') E s
def LsS (G : Gd) (k : Nat) (K : Kn) (ρ : Rho) (es : List Expr) (ds : List D) : Prop := ∀ A X s env pos, Cxt G k A X s env K ρ → ∀ E, wpAny (model G.prog G.w) A (spliced (backTo pos (starEach es env))) (fun vs s' => Gr G s s' ∧ All2 (Rv G.C X s'.heap) ds vs) E s
theorem Ev.post {G : Gd} {A X s t d} {Q : Value → Shared → Prop} {E} (h : Ev G A X s t d) (hq : ∀ v s', Gr G s s' → Rv G.C X s'.heap d v → Q v s') : wpAny (model G.prog G.w) A t Q E s :=
 wpAny_mono (h E) (fun v s' h' => hq v s' h'.1 h'.2) fun _ _ e => e
theorem Ev.up {G : Gd} {A X s s₁ t d E} (g : Gr G s s₁) (h : Ev G A X s₁ t d) : wpAny (model G.prog G.w) A t (fun v s' => Gr G s s' ∧ Rv G.C X s'.heap d v) E s₁ :=
 wpAny_mono (h E) (fun v s' h' => ⟨g.trans h'.1, h'.2⟩) fun _ _ e => e
theorem forall2_pure {C X h} : ∀ {ds : List D} {vs : List Value}, All2 (Rv C X h) ds vs → ds.all D.pure = true → RdL C X h ds vs
 | _, _, .nil, _ => .nil
 | _, _, .cons h t, e => by
  rw [List.all_cons, Bool.and_eq_true] at e
  exact .cons (h.rd e.1) (forall2_pure t e.2)
section
variable {G : Gd} {k : Nat} {cf : Cf} {A : Around} {X : List Addr} {s : Shared} {env : Env} {K : Kn} {ρ : Rho}
theorem load_ok (c : Cxt G k A X s env K ρ) (x : Str) (p : Pos) {d : D} (hl : ρ.lookup x = some d) (hu : d ≠ .unb) (ha : ∀ y, d ≠ .app y) (h1 : (x == ("__debug__" : Str)) = false) (h2 : (x == ("__classdict__" : Str)) = false) :
  Ev G A X s (eval (.Name x p) env) d := by
 intro E
 obtain ⟨m, W, hn, hi, hv⟩ := c.env.ex
 rcases hv x d hl with h | ⟨v, h, b⟩
 ·exact absurd h hu
 ·have r := b.rv ha
  refine wpAny_Name ?_ h1
  rcases h with ⟨hk, hm⟩ | ⟨hk | hk, cc, hc, hv⟩
  ·exact wpAny_loadName_local c.env.k.kind hk hn hm ⟨Gr.refl _, r⟩
  ·exact wpAny_loadName_cell c.env.k.kind hk hc hv ⟨Gr.refl _, r⟩
  ·exact wpAny_loadName_free c.env.k.kind hk hc hv ⟨Gr.refl _, r⟩ h2
theorem glob_ok (ok : CfOk G cf k) (c : Cxt G k A X s env K ρ) (x : Str) (p : Pos) {d : D} (hk : K.lookup x = some .globalImplicit) (hd : cf.Γ x = some d) (h1 : (x == ("__debug__" : Str)) = false) :
  Ev G A X s (eval (.Name x p) env) d := by
 intro E
 obtain ⟨v, hv, hr⟩ := ok.gam x d hd
 have hk' : env.kindOf x = some .globalImplicit := by unfold Env.kindOf; rw [c.env.k.names]; exact hk
 have upN : ∀ a m, G.hb.Ns a m → s.heap.Ns a m := fun a m h => h.at' fun o e => c.cx.hb _ o e
 have ng : s.heap.Ns env.globals G.mg := by rw [c.env.k.glob]; exact upN _ _ G.hmg
 have nb : s.heap.Ns env.builtins G.mb := by rw [c.env.k.bi]; exact upN _ _ G.hmb
 refine Name_function_global c.env.k.kind hk' ?_ h1
 rcases hv with hv | ⟨hm, hv⟩
 ·exact loadGlobal_global ng hv ⟨Gr.refl _, (hr _ _).rv⟩
 ·exact loadGlobal_builtin ng hm nb hv ⟨Gr.refl _, (hr _ _).rv⟩
theorem truS_ok {a : D} {va : Value} {b : Bool} (ra : Rv G.C X s.heap a va) (e : truS a = some b) :
  ∀ E (Q : Bool → Shared → Prop), (∀ s', Gr G s s' → Q b s') → wpAny (model G.prog G.w) A (truthy va) Q E s := by
 cases a with
 | str x => dsimp only [truS] at e; split at e; (rename_i h; exact truthD_ok ra (Nat.le_of_ble_eq_true h) e); cases e
 | lst x => dsimp only [truS] at e; split at e; (rename_i h; exact truthD_ok ra (Nat.le_of_ble_eq_true h) e); cases e
 | own x => dsimp only [truS] at e; split at e; (rename_i h; exact truthD_ok ra (Nat.le_of_ble_eq_true h) e); cases e
 | _ => exact truthD_ok ra trivial e
end
end Mine
namespace Mine
open PySem PySem.Calls PyProof.Rows PySem.W
theorem closure_ok (env : Env) : ∀ (names : Kn) (acc : List (Str × Addr)), (∀ p ∈ names, p.2 = .free → ∃ c, env.cells.lookup p.1 = some c) →
  ∃ cl, (forIn names acc fun (p : Str × NameKind) (r : List (Str × Addr)) => (match p with | (name, kind) => if (kind == .free) = true then do let a ← cellOf env name; pure (ForInStep.yield ((name, a) :: r)) else pure (ForInStep.yield r) : Sem (ForInStep (List (Str × Addr))))) = (pure cl : Sem _) ∧
   (∀ y, (∃ p ∈ names, p.1 = y ∧ p.2 = .free) → cl.lookup y = env.cells.lookup y) ∧ (∀ y, (¬ ∃ p ∈ names, p.1 = y ∧ p.2 = .free) → cl.lookup y = acc.lookup y)
 | [], acc, _ => ⟨acc, rfl, (fun y h => by obtain ⟨p, h, _⟩ := h; cases h), (fun _ _ => rfl)⟩
 | (name, kind) :: r, acc, h => by
  cases hk : kind == NameKind.free with
  | false =>
   obtain ⟨cl, e, h1, h2⟩ := closure_ok env r acc fun p hp => h p (.tail _ hp)
   have hk' : kind ≠ .free := fun q => by rw [q] at hk; cases hk
   have eqv : ∀ y, (∃ p ∈ (name, kind) :: r, p.1 = y ∧ p.2 = NameKind.free) ↔ (∃ p ∈ r, p.1 = y ∧ p.2 = NameKind.free) := fun y => by
    constructor
    ·rintro ⟨p, hp, e1, e2⟩
     rcases List.mem_cons.mp hp with q | q
     ·subst q; exact absurd e2 hk'
     ·exact ⟨p, q, e1, e2⟩
    ·rintro ⟨p, hp, e⟩; exact ⟨p, .tail _ hp, e⟩
   refine ⟨cl, ?_, fun y hy => h1 y ((eqv y).mp hy), fun y hy => h2 y fun q => hy ((eqv y).mpr q)⟩
   rw [List.forIn_cons]
   simp only [hk, Bool.false_eq_true, if_false]
   rw [pure_bind]; exact e
  | true =>
   have hk' : kind = .free := beq_iff_eq.mp hk
   obtain ⟨c, hc⟩ := h (name, kind) (.head _) hk'
   obtain ⟨cl, e, h1, h2⟩ := closure_ok env r ((name, c) :: acc) fun p hp => h p (.tail _ hp)
   refine ⟨cl, ?_, fun y hy => ?_, fun y hy => ?_⟩
   ·rw [List.forIn_cons]
    simp only [hk, if_true]
    have : cellOf env name = pure c := by unfold cellOf; rw [hc]
    rw [this, pure_bind, pure_bind]; exact e
   ·by_cases q : ∃ p ∈ r, p.1 = y ∧ p.2 = NameKind.free
    ·exact h1 y q
    ·rw [h2 y q]
     obtain ⟨p, hp, e1, e2⟩ := hy
     rcases List.mem_cons.mp hp with z | z
     ·subst z
      simp only at e1; subst e1
      rw [List.lookup_cons, beq_self_eq_true, hc]
     ·exact absurd ⟨p, z, e1, e2⟩ q
   ·rw [h2 y fun ⟨p, hp, z⟩ => hy ⟨p, .tail _ hp, z⟩, List.lookup_cons]
    cases q : y == name with
    | false => rfl
    | true => exact absurd ⟨(name, kind), .head _, (beq_iff_eq.mp q).symm, hk'⟩ hy
theorem lookup_filter {p : Str → Bool} : ∀ {ρ : Rho} {y : Str} {d : D}, (ρ.filter fun q => p q.1).lookup y = some d → ρ.lookup y = some d ∧ p y = true
 | [], _, _, h => by simp at h
 | (k, v) :: r, y, d, h => by
  rw [List.filter_cons] at h
  cases hb : y == k with
  | true =>
   have hyk := beq_iff_eq.mp hb
   subst hyk
   cases hp : p y with
   | true => simp only [hp, if_true, List.lookup_cons, beq_self_eq_true] at h; exact ⟨by rw [List.lookup_cons, beq_self_eq_true]; exact h, rfl⟩
   | false =>
    simp only [hp, Bool.false_eq_true, if_false] at h
    obtain ⟨_, q⟩ := lookup_filter h
    rw [hp] at q; cases q
  | false =>
   rw [List.lookup_cons, hb]
   cases hp : p k with
   | true => simp only [hp, if_true, List.lookup_cons, hb] at h; exact lookup_filter h
   | false => simp only [hp, Bool.false_eq_true, if_false] at h; exact lookup_filter h
theorem lookup_map_kind (f : Str → NameKind → NameKind) : ∀ (names : Kn) (y : Str), (names.map fun p => (p.1, f p.1 p.2)).lookup y = (names.lookup y).map (f y)
 | [], _ => rfl
 | (k, v) :: r, y => by
  simp only [List.map_cons, List.lookup_cons]
  cases hb : y == k with
  | true => have := beq_iff_eq.mp hb; subst this; rfl
  | false => exact lookup_map_kind f r y
theorem relK_lookup (names K : Kn) (y : Str) : (relK names K).lookup y = (names.lookup y).map fun k => if (k == .free && (ScopeKind.function == .function) && K.lookup y == some .cell) then .cell else k := by
 have : relK names K = names.map fun p => (p.1, (fun (n : Str) (k : NameKind) => if (k == .free && (ScopeKind.function == .function) && K.lookup n == some .cell) then NameKind.cell else k) p.1 p.2) := by
  unfold relK
  refine List.map_congr_left fun p _ => ?_
  obtain ⟨n, k⟩ := p
  dsimp only
  split <;> rfl
 rw [this]
 exact lookup_map_kind (fun n k => if (k == .free && (ScopeKind.function == .function) && K.lookup n == some .cell) then NameKind.cell else k) names y
theorem relabel_names (csc : Scope) (env : Env) (K : Kn) (k : EnvK env K) : (relabel csc env).names = relK csc.names K := by
 unfold relabel relK Env.kindOf
 rw [k.names, k.kind]
theorem zN {names K : Kn} {ρ : Rho} {x : Str} (h : goodComp names K ρ x = true) :
  (∀ y ∈ names, y.2 ≠ .cell) ∧ (∀ y ∈ names, y.2 = .local → names.lookup y.1 = some .local) ∧ names.lookup x = some .local ∧ (∀ y ∈ names, y.2 = .free → known ρ K y.1 = true ∧ names.lookup y.1 = some .free) := by
 unfold goodComp at h
 simp only [Bool.and_eq_true, List.all_eq_true, Bool.or_eq_true, bne_iff_ne, beq_iff_eq] at h
 obtain ⟨⟨⟨⟨h1, h2⟩, h3⟩, h4⟩, h5⟩ := h
 refine ⟨h1, fun y hy e => (h2 y hy).resolve_left fun q => q e, h3, fun y hy e => (h4 y hy).resolve_left fun q => q e⟩
theorem codeOf_none {K : Kn} (h : codeOf K = none) : K.lookup ("_twin_re_1" : Str) = none ∧ K.lookup ("RuntimeError" : Str) = none ∧ K.lookup ("script" : Str) = none := by
 unfold codeOf at h
 split at h
 ·cases h
 ·rename_i h1
  split at h
  ·cases h
  ·rename_i h2
   split at h
   ·cases h
   ·rename_i h3; exact ⟨h1, h2, h3⟩
theorem goodComp_code {names K : Kn} {ρ : Rho} {x : Str} (h : goodComp names K ρ x = true) : codeOf (relK names K) = none := by
 unfold goodComp at h
 rw [Bool.and_eq_true] at h
 obtain ⟨h1, h2, h3⟩ := codeOf_none (Option.isNone_iff_eq_none.mp h.2)
 unfold codeOf
 rw [relK_lookup, relK_lookup, relK_lookup, h1, h2, h3]
 rfl
theorem known_cell {G : Gd} {env : Env} {K : Kn} {X : List Addr} {h : Heap} {ρ : Rho} (e : EnvOk G env K X h ρ) {y : Str} (hk : known ρ K y = true) : ∃ c, env.cells.lookup y = some c := by
 obtain ⟨ek, m, W, hn, hi, hv⟩ := e
 unfold known at hk
 split at hk
 ·cases hk
 ·rename_i d hd hl
  rcases hv y d hl with q | ⟨v, q, _⟩
  ·subst q; exact absurd rfl hd
  ·rcases q with ⟨ql, _⟩ | ⟨_, c, hc, _⟩
   ·unfold Env.kindOf at ql
    rw [ek.names] at ql
    rw [ql] at hk; cases hk
   ·exact ⟨c, hc⟩
 ·cases hk
section
variable {G : Gd} {k : Nat} {A : Around} {X : List Addr} {s : Shared} {env : Env} {K : Kn} {ρ : Rho}
theorem comp_closure (csc : Scope) {x : Str} (c : EnvOk G env K X s.heap ρ) (hg : goodComp csc.names K ρ x = true) :
  ∃ cl, closureFor csc env = pure cl ∧ ∀ y, csc.names.lookup y = some .free → cl.lookup y = env.cells.lookup y := by
 obtain ⟨h1, h2, h3, h4⟩ := zN hg
 obtain ⟨cl, e, a, b⟩ := closure_ok env csc.names [] fun p hp hf => known_cell c (h4 p hp hf).1
 refine ⟨cl, ?_, fun y hy => a y ⟨(y, .free), mem_of_lookup hy, rfl, rfl⟩⟩
 unfold closureFor
 exact (congrArg (fun t => t >>= fun r => (pure r : Sem (List (Str × Addr)))) e).trans (pure_bind _ _)
theorem comp_cxt {csc : Scope} {cl : List (Str × Addr)} {C : Addr} {x : Str} {d : D} {v : Value} {Xi : List Addr} {s₃ : Shared} {m₃} (c : Cxt G k A X s env K ρ) (hg : goodComp csc.names K ρ x = true) (hkind : csc.kind = .function)
  (hcl : ∀ y, csc.names.lookup y = some .free → cl.lookup y = env.cells.lookup y) (hXs : ∀ a ∈ X, a ∈ Xi) (hXi : ∀ a ∈ Xi, a ∈ X ∨ s.heap.get? a = none) (g : Gr G s s₃) (ti : G.TI s₃.heap) (hX₃ : XOk G Xi s₃.heap)
  (hn : s₃.heap.Ns C m₃) (hm : m₃ x = some v) (r : Rd G.C Xi s₃.heap d v) :
  Cxt G k A Xi s₃ (compEnvC csc cl C env) (relK csc.names K) ((x, d) :: ρ.filter fun q => freeIn csc.names q.1) := by
 obtain ⟨h1, h2, h3, h4⟩ := zN hg
 obtain ⟨ek, m, W, hns, hi, hv⟩ := c.env
 refine ⟨c.room, g.cx c.cx, hX₃, ⟨⟨(fun cc q => by rw [goodComp_code hg] at q; cases q), ?_, ?_, ek.glob, ek.bi⟩, m₃, W, hn, hi, fun y d' hy => ?_⟩⟩
 ·exact relabel_names csc env K ek
 ·show (relabel csc env).kind = .function
  unfold relabel; exact hkind
 ·rw [List.lookup_cons] at hy
  cases hb : y == x with
  | true =>
   rw [hb] at hy; cases hy
   have := beq_iff_eq.mp hb; subst this
   refine .inr ⟨v, .inl ⟨?_, hm⟩, ?_⟩
   ·show (relabel csc env).names.lookup y = _
    rw [relabel_names csc env K ek, relK_lookup, h3]; rfl
   ·cases d <;> first | exact r | (unfold Rd at r; exact r.elim)
  | false =>
   rw [hb] at hy
   obtain ⟨hl, hf⟩ := lookup_filter hy
   unfold freeIn at hf
   simp only [List.any_eq_true, Bool.and_eq_true, beq_iff_eq] at hf
   obtain ⟨p, hp, e1, e2⟩ := hf
   subst e1
   obtain ⟨kn, nl⟩ := h4 p hp e2
   rcases hv p.1 d' hl with q | ⟨u, q, b⟩
   ·exact .inl q
   ·refine .inr ⟨u, ?_, b.imp (fun b o hb e => ⟨fun q => (hXi b q).elim hb fun z => (by rw [z] at e; cases e), g.heap b o (fun t => hb (c.xok.tabs b t)) e⟩) fun a ds _ ha vs n e => ⟨hXs a ha, g.heap _ _ (c.cx.notTab e zI) e⟩⟩
    have hkc : K.lookup p.1 = some .cell ∨ K.lookup p.1 = some .free := by
     unfold known at kn
     rw [hl] at kn
     cases d' <;> simp only [] at kn <;> first | (cases kn; done) | (split at kn <;> first | (rename_i z; exact .inl z) | (rename_i z; exact .inr z) | cases kn)
    rcases q with ⟨ql, _⟩ | ⟨_, cc, hc, hcv⟩
    ·unfold Env.kindOf at ql
     rw [ek.names] at ql
     rcases hkc with z | z <;> rw [ql] at z <;> cases z
    ·refine .inr ⟨?_, cc, ?_, IsCell.at' hcv fun o e => g.heap _ o ((NT.cell hcv).notTab c.cx.ti) e⟩
     ·show (relabel csc env).names.lookup p.1 = _ ∨ (relabel csc env).names.lookup p.1 = _
      rw [relabel_names csc env K ek, relK_lookup, nl]
      rcases hkc with z | z
      ·left; simp [z]
      ·right; simp [z]
     ·show cl.lookup p.1 = _
      rw [hcl _ nl]; exact hc
end
end Mine
namespace Mine
open PySem PySem.Calls PyProof.Rows PySem.W
theorem evD_star {cf n K ρ e d} (h : evD cf n K ρ e = some d) (rest : List Expr) (env : Env) : starEach (e :: rest) env = (false, eval e env) :: starEach rest env := by
 cases n with
 | zero => unfold evD at h; cases h
 | succ n => cases e <;> first | rfl | (unfold evD at h; cases h)
theorem evD_marks {cf n K ρ e d} (h : evD cf n K ρ e = some d) (op : CmpOp) : behindInMarks op e = false := by
 cases n with
 | zero => unfold evD at h; cases h
 | succ n => cases e <;> first | rfl | (unfold evD at h; cases h)
theorem zK {cf n K ρ e d} (h : evD cf n K ρ e = some d) (env : Env) (v : Value) : foldedSetIterable e env v = pure v := by
 cases n with
 | zero => unfold evD at h; cases h
 | succ n => cases e <;> first | rfl | (unfold evD at h; cases h)
theorem evD_subscripted {cf n K ρ e d} (h : evD cf n K ρ e = some d) (o i : Value) : subscripted e false o i = operate [o, i] (getItem o i) := by
 cases n with
 | zero => unfold evD at h; cases h
 | succ n => cases e <;> first | rfl | (unfold evD at h; cases h)
theorem isCN_base {o : Expr} (h : isCN o = true) (name : Str) (env : Env) (w : Sem Value) : attributeBase o name env w = w := by
 cases o <;> first | rfl | cases h
theorem evL_plain {cf K ρ} : ∀ {n es ds}, evL cf n K ρ es = some ds → ∀ (pos : Pos) (env : Env), (backTo pos (starEach es env)).all (fun x => !x.1) = true ∧ (backTo pos (starEach es env)).any (·.1) = false
 | 0, es, ds, h, _, _ => by unfold evL at h; cases h
 | n + 1, [], ds, h, _, _ => ⟨rfl, rfl⟩
 | n + 1, e :: es, ds, h, pos, env => by
  unfold evL at h
  dsimp only at h
  split at h
  ·rename_i d hd
   split at h
   ·rename_i ds' hds
    obtain ⟨h1, h2⟩ := evL_plain hds pos env
    rw [evD_star hd es env]
    exact ⟨by show (!false && _) = true; rw [Bool.not_false, Bool.true_and]; exact h1, by show (false || _) = false; rw [Bool.false_or]; exact h2⟩
   ·cases h
  ·cases h
theorem strsD_are {C X h} : ∀ {ds : List D} {vs : List Value} {xs : List Str}, RdL C X h ds vs → strsD ds = some xs → StrsAre vs xs
 | [], vs, xs, r, e => by have := r.nil_inv; subst this; cases e; exact .nil
 | d :: ds, vs, xs, r, e => by
  obtain ⟨v, vs', rfl, hr, l⟩ := r.cons_inv
  cases d with
  | str i =>
   dsimp only [strsD] at e
   split at e
   ·cases e
    obtain ⟨t, rfl⟩ := (Rd.rv hr).str
    exact .cons _ _ (strsD_are l (by assumption))
   ·cases e
  | _ => cases e
section
variable {G : Gd} {k : Nat} {cf : Cf} {A : Around} {X : List Addr} {s : Shared} {env : Env} {K : Kn} {ρ : Rho}
theorem sumD_ok (hh : A.handled = none) {a d : D} {va : Value} (ra : Rv G.C X s.heap a va) (e : sumD a = some d) : Ev G A X s (call (.builtin "sum") [va]) d := by
 intro E
 unfold sumD at e
 split at e
 ·rename_i ds hds
  split at e
  ·rename_i ns hns
   cases e
   obtain ⟨l, vs, n, rfl, hl, rl⟩ := ra.list hds
   have hi := intsD_are rl hns
   obtain ⟨xs, hx⟩ := hi.allInts.items
   have hl' : s.heap.IsList l (intItems xs) := hx ▸ ⟨_, hl, rfl, n, rfl⟩
   refine sum_intListG hh hl' fun h' tk t' hk => ?_
   have e1 : ns = xs.toList.map (·.1) := by
    rw [← nums_intItems, ← hx]
    exact (show numsOf vs.toArray.toList = ns from hi.numsOf).symm
   have e2 : preSum (numAt xs) xs.size = ns.sum := by
    rw [preSum_eq, List.take_of_length_le (by simp), e1]
   rw [e2]
   exact ⟨Gr.of hk, Rd.rv Rd.int'⟩
  ·cases e
 ·cases e
theorem joinD_ok {a d : D} {va : Value} {x : Str} {t : Tok} (ra : Rv G.C X s.heap a va) (e : joinD x a = some d) : Ev G A X s (call (.builtin "str.join") [.str x t, va]) d := by
 intro E
 unfold joinD at e
 split at e
 ·rename_i ds hds
  split at e
  ·rename_i xs hxs
   split at e
   ·rename_i hb
    cases e
    obtain ⟨l, vs, n, rfl, hl, rl⟩ := ra.list hds
    have := Nat.le_of_ble_eq_true hb
    exact PyProof.Rows.join_list (items := vs.toArray) ⟨_, hl, rfl, n, rfl⟩ (strsD_are rl hxs) (Nat.le_trans this (by decide)) fun t' k => ⟨Gr.tok, Rd.rv Rd.str'⟩
   ·cases e
  ·cases e
 ·cases e
theorem callD_ok (ok : CfOk G cf k) (c : Cxt G k A X s env K ρ) {f d : D} {fv : Value} {ds : List D} {e : Expr} {rest : List Expr} {pos : Pos}
  (he : starEach (e :: rest) env = (false, eval e env) :: starEach rest env) (hp : (backTo pos (starEach rest env)).any (·.1) = false)
  (hf : Rd G.C X s.heap f fv) (hd : callD cf f ds = some d) (ha : ds.all (argOk f) = true) (ls : LsS G k K ρ (e :: rest) ds) :
  Ev G A X s (callWith pos fv [] (backTo pos (starEach (e :: rest) env)) []) d := by
 intro E
 have args := ls A X s env pos c E
 cases f with
 | opq a =>
  have := (Rd.rv hf).opq; subst this
  obtain ⟨o, fd, ho, hdat, nT, h⟩ := ok.fn a ds d hd
  refine callWith_def (o := o) (fd := fd) hdat (wpAny_mono args (fun vs s₁ h₁ => ?_) fun _ _ e => e) he
  obtain ⟨g, r⟩ := h₁
  have c₁ := c.gr g
  refine ⟨c₁.cx.hb _ _ ho, ?_⟩
  refine wpAny_mono (h A X s₁ vs c₁.room c₁.cx c₁.xok (forall2_pure r ?_) E) (fun v s₂ h₂ => ⟨g.trans h₂.1, h₂.2.rv⟩) fun _ _ e => e
  exact ha
 | blt id =>
  have := (Rd.rv hf).blt; subst this
  refine callWith_builtin1 (wpAny_mono args (fun vs s₁ h₁ => ?_) fun _ _ e => e) he hp
  obtain ⟨g, r⟩ := h₁
  dsimp only [callD] at hd
  split at hd
  ·rename_i hn
   have hn := beq_iff_eq.mp hn
   subst hn
   split at hd
   ·obtain - | ⟨h1, h2⟩ := r
    obtain - | _ := h2
    exact (lenD_ok h1 hd).up g
   ·cases hd
  ·split at hd
   ·rename_i hn
    have hn := beq_iff_eq.mp hn
    subst hn
    split at hd
    ·obtain - | ⟨h1, h2⟩ := r
     obtain - | _ := h2
     exact (sumD_ok c.room.hh h1 hd).up g
    ·cases hd
   ·cases hd
 | typ n =>
  have := (Rd.rv hf).typ; subst this
  refine PyProof.Rows.callWith_type1 (wpAny_mono args (fun vs s₁ h₁ => ?_) fun _ _ e => e) he hp
  obtain ⟨g, r⟩ := h₁
  have c₁ := c.gr g
  dsimp only [callD] at hd
  split at hd
  ·rename_i hn
   have hn := beq_iff_eq.mp hn
   subst hn
   have fresh : s₁.heap.objs.size ∉ X := c₁.xok.none (zL (o := { cls := .none, data := .fields #[] }))
   split at hd
   ·cases hd
    obtain - | ⟨h1, h2⟩ := r
    obtain - | _ := h2
    obtain ⟨t, rfl⟩ := h1.int
    refine call_range_1 ⟨g.trans Gr.push, Rd.rv ?_⟩
    unfold Rd
    exact ⟨_, _, _, _, rfl, fresh, Heap.get?_push_size _ rfl⟩
   ·cases hd
    obtain - | ⟨h1, h2⟩ := r
    obtain - | ⟨h2, h3⟩ := h2
    obtain - | _ := h3
    obtain ⟨t, rfl⟩ := h1.int
    obtain ⟨u, rfl⟩ := h2.int
    refine call_range_2 ⟨g.trans Gr.push, Rd.rv ?_⟩
    unfold Rd
    exact ⟨_, _, _, _, rfl, fresh, Heap.get?_push_size _ rfl⟩
   ·cases hd
  ·cases hd
 | _ => cases hd
end
end Mine
namespace Mine
open PySem PySem.Calls PyProof.Rows PySem.W
def TlS (G : Gd) (k : Nat) (K : Kn) (ρ : Rho) (es : List Expr) (b : Bool) : Prop := ∀ A X s env, Cxt G k A X s env K ρ → ∀ E, wpAny (model G.prog G.w) A (testsOf es env) (fun c s' => c = b ∧ Gr G s s') E s
def AllS (G : Gd) (k : Nat) (K : Kn) (ρ : Rho) (es : List Expr) (b : Bool) : Prop := ∀ A X s env, Cxt G k A X s env K ρ → ∀ E, wpAny (model G.prog G.w) A (allTrue .And es env) (fun c s' => c = b ∧ Gr G s s') E s
def AnyS (G : Gd) (k : Nat) (K : Kn) (ρ : Rho) (es : List Expr) (b : Bool) : Prop := ∀ A X s env, Cxt G k A X s env K ρ → ∀ E, wpAny (model G.prog G.w) A (allTrue .Or es env) (fun c s' => c = b ∧ Gr G s s') E s
def FsS (G : Gd) (k : Nat) (K : Kn) (ρ : Rho) (es : List Expr) (xs : List Str) : Prop := ∀ A X s env acc (Q : Str → Shared → Prop) E, Cxt G k A X s env K ρ → acc.length + lensS xs ≤ sizeLine → (∀ s', Gr G s s' → Q (xs.foldl (· ++ ·) acc) s') →
 Joins (model G.prog G.w) A E (evalEach es env) acc Q s
structure Sound (G : Gd) (cf : Cf) (k n : Nat) : Prop where
 ev : ∀ K ρ e d, evD cf n K ρ e = some d → EvS G k K ρ e d
 ts : ∀ K ρ e b, tsD cf n K ρ e = some b → TsS G k K ρ e b
 ls : ∀ K ρ es ds, evL cf n K ρ es = some ds → LsS G k K ρ es ds
 tl : ∀ K ρ es b, tsL cf n K ρ es = some b → TlS G k K ρ es b
 all : ∀ K ρ es b, allD cf n K ρ es = some b → AllS G k K ρ es b
 any : ∀ K ρ es b, anyD cf n K ρ es = some b → AnyS G k K ρ es b
 fs : ∀ K ρ es xs, fsD cf n K ρ es = some xs → FsS G k K ρ es xs
section
variable {G : Gd} {k n : Nat} {cf : Cf} {K : Kn} {ρ : Rho}
theorem TsS.post {e : Expr} {b : Bool} (h : TsS G k K ρ e b) {A X s env E} {Q : Bool → Shared → Prop} (c : Cxt G k A X s env K ρ) (hq : ∀ s', Gr G s s' → Q b s') : wpAny (model G.prog G.w) A (isTrue e env (eval e env)) Q E s :=
 wpAny_mono (h A X s env c E) (fun c s' h' => by obtain ⟨rfl, g⟩ := h'; exact hq s' g) fun _ _ e => e
theorem snd_ts (ok : CfOk G cf k) (I : Sound G cf k n) (e : Expr) (b : Bool) (h : tsD cf (n + 1) K ρ e = some b) : TsS G k K ρ e b := by
 intro A X s env c E
 cases e with
 | UnaryOp op x p =>
  cases op with
  | Not =>
   unfold tsD at h; dsimp only at h
   split at h
   ·rename_i b' hb
    cases h
    exact isTrue_not ((I.ts _ _ _ _ hb).post c fun s' g => ⟨rfl, g⟩)
   ·cases h
  | _ => unfold tsD at h; cases h
 | BoolOp op es p =>
  cases op with
  | And => unfold tsD at h; dsimp only at h; exact wpAny_isTrue_BoolOp (I.all _ _ _ _ h A X s env c E)
  | Or => unfold tsD at h; dsimp only at h; exact wpAny_isTrue_BoolOp (I.any _ _ _ _ h A X s env c E)
 | Compare l ops rs p =>
  rcases ops with _ | ⟨op, _ | _⟩ <;> rcases rs with _ | ⟨r, _ | _⟩ <;> first | (unfold tsD at h; cases h; done) | skip
  unfold tsD at h; dsimp only at h
  split at h
  ·rename_i a ha
   split at h
   ·rename_i b' hb
    refine wpAny_isTrue_Compare1 ((I.ev _ _ _ _ ha A X s env c).post fun va s₁ g₁ ra => ?_) (evD_marks hb op)
    have c₁ := c.gr g₁
    refine (I.ev _ _ _ _ hb A X s₁ env c₁).post fun vb s₂ g₂ rb => ?_
    have c₂ := c₁.gr g₂
    refine cmpD_ok (by have := c.room.units; omega) op (ra.gr c₁.xok.tabs c₁.cx g₂) rb h _ _ ?_
    exact wpAny_truthy_bool ⟨rfl, g₁.trans g₂⟩
   ·cases h
  ·cases h
 | Name x p =>
  unfold tsD at h; dsimp only at h
  split at h
  ·rename_i a ha
   refine isTrue_plain ((I.ev _ _ _ _ ha A X s env c).post fun va s₁ g₁ ra => ?_)
   exact truS_ok ra h _ _ fun s' g => ⟨rfl, g₁.trans g⟩
  ·cases h
 | Call f as ks p =>
  unfold tsD at h; dsimp only at h
  split at h
  ·rename_i a ha
   refine isTrue_plain ((I.ev _ _ _ _ ha A X s env c).post fun va s₁ g₁ ra => ?_)
   exact truS_ok ra h _ _ fun s' g => ⟨rfl, g₁.trans g⟩
  ·cases h
 | _ => unfold tsD at h; cases h
theorem snd_ls (I : Sound G cf k n) (es : List Expr) (ds : List D) (h : evL cf (n + 1) K ρ es = some ds) : LsS G k K ρ es ds := by
 intro A X s env pos c E
 cases es with
 | nil => unfold evL at h; cases h; exact args_nil ⟨Gr.refl _, .nil⟩
 | cons e es =>
  unfold evL at h; dsimp only at h
  split at h
  ·rename_i d hd
   split at h
   ·rename_i ds' hds
    cases h
    refine args_cons ((I.ev _ _ _ _ hd A X s env c).post fun v s₁ g₁ r => ?_) (evD_star hd es env)
    have c₁ := c.gr g₁
    refine wpAny_mono (I.ls _ _ _ _ hds A X s₁ env pos c₁ E) (fun vs s₂ h₂ => ?_) fun _ _ e => e
    exact ⟨g₁.trans h₂.1, .cons (r.gr c₁.xok.tabs c₁.cx h₂.1) h₂.2⟩
   ·cases h
  ·cases h
theorem snd_all (I : Sound G cf k n) (es : List Expr) (b : Bool) (h : allD cf (n + 1) K ρ es = some b) : AllS G k K ρ es b := by
 intro A X s env c E
 cases es with
 | nil => unfold allD at h; cases h; exact wpAny_allTrue_And_nil ⟨rfl, Gr.refl _⟩
 | cons e es =>
  unfold allD at h; dsimp only at h
  refine wpAny_allTrue_And_cons ?_
  split at h
  ·rename_i hd
   refine (I.ts _ _ _ _ hd).post c fun s' g => ?_
   simp only [if_true]
   exact wpAny_mono (I.all _ _ _ _ h A X s' env (c.gr g) E) (fun c s₂ h₂ => ⟨h₂.1, g.trans h₂.2⟩) fun _ _ e => e
  ·rename_i hd
   cases h
   refine (I.ts _ _ _ _ hd).post c fun s' g => ?_
   simp only [Bool.false_eq_true, if_false]
   exact ⟨trivial, g⟩
  ·cases h
theorem snd_any (I : Sound G cf k n) (es : List Expr) (b : Bool) (h : anyD cf (n + 1) K ρ es = some b) : AnyS G k K ρ es b := by
 intro A X s env c E
 cases es with
 | nil => unfold anyD at h; cases h; exact wpAny_allTrue_Or_nil ⟨rfl, Gr.refl _⟩
 | cons e es =>
  unfold anyD at h; dsimp only at h
  refine wpAny_allTrue_Or_cons ?_
  split at h
  ·rename_i hd
   cases h
   refine (I.ts _ _ _ _ hd).post c fun s' g => ?_
   simp only [if_true]
   exact ⟨trivial, g⟩
  ·rename_i hd
   refine (I.ts _ _ _ _ hd).post c fun s' g => ?_
   simp only [Bool.false_eq_true, if_false]
   exact wpAny_mono (I.any _ _ _ _ h A X s' env (c.gr g) E) (fun c s₂ h₂ => ⟨h₂.1, g.trans h₂.2⟩) fun _ _ e => e
  ·cases h
theorem snd_tl (I : Sound G cf k n) (es : List Expr) (b : Bool) (h : tsL cf (n + 1) K ρ es = some b) : TlS G k K ρ es b := by
 intro A X s env c E
 cases es with
 | nil => unfold tsL at h; cases h; exact wpAny_pure ⟨rfl, Gr.refl _⟩
 | cons e es =>
  unfold tsL at h; dsimp only at h
  unfold testsOf
  rw [List.forIn_cons]
  simp only [if_true]
  refine wpAny_bind ?_
  have skip : ∀ (es : List Expr) s', wpAny (model G.prog G.w) A (forIn es false fun c r => if r = true then do let ok ← isTrue c env (eval c env); pure (ForInStep.yield ok) else pure (ForInStep.yield r)) (fun c s' => c = false ∧ Gr G s s') E s' ↔ wpAny (model G.prog G.w) A (pure false : Sem Bool) (fun c s' => c = false ∧ Gr G s s') E s' := by
   intro es
   induction es with
   | nil => intro s'; exact Iff.rfl
   | cons e es ih =>
    intro s'
    rw [List.forIn_cons]
    simp only [Bool.false_eq_true, if_false]
    rw [pure_bind]
    exact ih s'
  split at h
  ·rename_i hd
   refine wpAny_bind ((I.ts _ _ _ _ hd).post c fun s' g => wpAny_pure ?_)
   exact wpAny_mono (I.tl _ _ _ _ h A X s' env (c.gr g) E) (fun c s₂ h₂ => ⟨h₂.1, g.trans h₂.2⟩) fun _ _ e => e
  ·rename_i hd
   cases h
   refine wpAny_bind ((I.ts _ _ _ _ hd).post c fun s' g => wpAny_pure ?_)
   exact (skip es s').mpr (wpAny_pure ⟨rfl, g⟩)
  ·cases h
theorem lensS_cons (x : Str) (xs : List Str) : lensS (x :: xs) = x.length + lensS xs := by simp [lensS]
theorem snd_fs (I : Sound G cf k n) (es : List Expr) (xs : List Str) (h : fsD cf (n + 1) K ρ es = some xs) : FsS G k K ρ es xs := by
 intro A X s env acc Q E c hb hq
 rcases es with _ | ⟨e, es⟩
 ·unfold fsD at h; cases h; exact hq s (Gr.refl _)
 ·cases e with
  | Constant cc kk p =>
   cases cc with
   | str x =>
    unfold fsD at h; dsimp only at h
    split at h
    ·rename_i ys hys
     cases h
     rw [lensS_cons] at hb
     refine Calls.Constant_str ⟨x, _, rfl, by rw [strLen_append]; omega, ?_⟩
     refine I.fs _ _ _ _ hys A X _ env _ Q E (c.gr Gr.tok) (by rw [strLen_append]; omega) fun s' g => hq s' (Gr.tok.trans g)
    ·cases h
   | _ => unfold fsD at h; cases h
  | FormattedValue v cv sp p =>
   unfold fsD at h
   split at h
   ·rename_i heq; cases heq
   ·rename_i heq; cases heq
   ·rename_i heq
    cases heq
    split at h
    ·rename_i x hx
     split at h
     ·rename_i ys hys
      cases h
      rw [lensS_cons] at hb
      show wpAny _ _ (eval _ env) _ _ _
      refine wpAny_FormattedValue_plain ((I.ev _ _ _ _ hx A X s env c).post fun vv s₁ g₁ r => ?_)
      obtain ⟨t, rfl⟩ := r.str
      have fin : ∀ s' t', Gr G s₁ s' → ∃ y t, Value.str x t' = .str y t ∧ (acc ++ y).length ≤ sizeLine ∧ Joins (model G.prog G.w) A E (evalEach es env) (acc ++ y) Q s' := fun s' t' g =>
       ⟨x, _, rfl, by rw [strLen_append]; omega, I.fs _ _ _ _ hys A X _ env _ Q E (c.gr (g₁.trans g)) (by rw [strLen_append]; omega) fun s₂ g₂ => hq s₂ (g₁.trans (g.trans g₂))⟩
      exact wpAny_formatField_str (fin _ _ (Gr.refl _)) (fin _ _ Gr.tok) (by omega)
     ·cases h
    ·cases h
   ·cases h
  | _ => unfold fsD at h; cases h
end
end Mine
namespace Mine
open PySem PySem.Calls PyProof.Rows PySem.W
section
variable {G : Gd} {k n : Nat} {cf : Cf} {K : Kn} {ρ : Rho}
theorem Rv.rd' {C X h d v} (r : Rv C X h d v) (p : ∀ ds, d ≠ .own ds) : Rd C X h d v := by cases d <;> first | exact r | exact absurd rfl (p _)
theorem new_fresh {G : Gd} {X : List Addr} {h : Heap} (hX : XOk G X h) : h.objs.size ∉ X := hX.none (zL (o := { cls := .none, data := .fields #[] }))
theorem snd_slice (I : Sound G cf k n) {v : Expr} {lo hi : Option Expr} {p p' : Pos} {a d : D} {l h : Option Int} (ha : evD cf n K ρ v = some a)
  (hl : (match lo with | none => some none | some e => (match evD cf n K ρ e with | some (.int i) => some (some i) | _ => none) : Option (Option Int)) = some l)
  (hh : (match hi with | none => some none | some e => (match evD cf n K ρ e with | some (.int i) => some (some i) | _ => none) : Option (Option Int)) = some h)
  (e : sliceD a l h = some d) : EvS G k K ρ (.Subscript v (.Slice lo hi none p) p') d := by
 intro A X s env c E
 refine PyProof.Rows.Subscript_ ((I.ev _ _ _ _ ha A X s env c).post fun va s₁ g₁ ra => ?_)
 have c₁ := c.gr g₁
 have part : ∀ (o : Option Expr) (q : Option Int), (match o with | none => some none | some e => (match evD cf n K ρ e with | some (.int i) => some (some i) | _ => none) : Option (Option Int)) = some q →
   ∀ s₂ (Q : Value → Shared → Prop), Cxt G k A X s₂ env K ρ → (∀ (pq : Option (Int × Tok)) s₃, Gr G s₂ s₃ → pq.map (·.1) = q → Q (partValue pq) s₃) → wpAny (model G.prog G.w) A (evalPart o env) Q E s₂ := by
  intro o q ho s₂ Q c₂ hQ
  cases o with
  | none => cases ho; exact evalPart_none_step (hQ none s₂ (Gr.refl _) rfl)
  | some e =>
   dsimp only at ho
   split at ho
   ·rename_i i hi'
    cases ho
    refine evalPart_some_step ((I.ev _ _ _ _ hi' A X s₂ env c₂).post fun v s₃ g₃ r => ?_)
    obtain ⟨t, rfl⟩ := r.int
    exact hQ (some (i, t)) s₃ g₃ rfl
   ·cases ho
 refine wpAny_Slice (part lo l hl s₁ _ c₁ fun pl s₂ g₂ el => part hi h hh s₂ _ (c₁.gr g₂) fun ph s₃ g₃ eh => evalPart_none_step ?_)
 have c₃ := (c₁.gr g₂).gr g₃
 have g23 := g₂.trans g₃
 exact wpAny_mono (sliceD_ok (plo := pl) (phi := ph) c₃.xok c₃.cx (ra.gr c₁.xok.tabs c₁.cx g23) (by rw [el, eh]; exact e) (fun q => rfl) E) (fun v s' h => ⟨(g₁.trans g23).trans h.1, h.2⟩) fun _ _ e => e
theorem evD_idx {v i : Expr} {p : Pos} {d : D} (hi : ∀ lo hi p, i ≠ .Slice lo hi none p) (h : evD cf (n + 1) K ρ (.Subscript v i p) = some d) : ∃ a b, evD cf n K ρ v = some a ∧ evD cf n K ρ i = some b ∧ idxD a b = some d := by
 have key : (match evD cf n K ρ v with | some a => (match evD cf n K ρ i with | some b => idxD a b | none => none) | none => none) = some d → ∃ a b, evD cf n K ρ v = some a ∧ evD cf n K ρ i = some b ∧ idxD a b = some d := by
  intro h
  split at h
  ·rename_i a ha
   split at h
   ·rename_i b hb
    exact ⟨a, b, ha, hb, h⟩
   ·cases h
  ·cases h
 unfold evD at h
 cases i with
 | Slice lo h st p =>
  cases st with
  | none => exact absurd rfl (hi _ _ _)
  | some _ => exact key h
 | _ => exact key h
theorem snd_comp (ok : CfOk G cf k) (I : Sound G cf k n) {elt iter : Expr} {x : Str} {px pos : Pos} {ifs : List Expr} {csc : Scope} {d : D} {ds ys : List D} (hg : goodComp csc.names K ρ x = true) (hk : csc.kind = .function)
  (hi : evD cf n K ρ iter = some d) (hd : itemsD d = some ds) (hc : compD (fun d => tsL cf n (relK csc.names K) ((x, d) :: ρ.filter fun q => freeIn csc.names q.1) ifs) (fun d => evD cf n (relK csc.names K) ((x, d) :: ρ.filter fun q => freeIn csc.names q.1) elt) ds = some ys) :
  EvS G k K ρ (.ListComp elt [⟨.Name x px, iter, ifs, 0⟩] csc pos) (.lst ys) := by
 intro A X s env c
 obtain ⟨h1, h2, h3, h4⟩ := zN hg
 obtain ⟨cl, hcl, hlk⟩ := comp_closure csc c.env hg
 refine comp_ev _ _ hc c.xok c.cx.ti hcl h1 hk h2 h3 ?_ ?_ ?_ (itemsD_len hd) (zK hi env)
 ·intro E
  refine (I.ev _ _ _ _ hi A X s env c).post fun v s₁ g₁ r => ?_
  have c₁ := c.gr g₁
  refine wpAny_mono (itemsD_ok c₁.room.hh c₁.xok c₁.cx.ti (r.rd' (fun l q => by subst q; cases hd)) hd E) (fun it s₂ h₂ => ?_) fun _ _ e => e
  obtain ⟨I', fp, wr, rfl, g₂, up, S⟩ := h₂
  exact ⟨I', fp, wr, s₁.heap, rfl, g₁.trans g₂, c₁.xok, g₁.heap, up, S⟩
 ·intro C Xi d' v s₃ m₃ b E' hC hXs hXi ht g ti hX hn hm hr
  exact I.tl _ _ _ _ ht A Xi s₃ _ (comp_cxt c hg hk hlk hXs hXi g ti hX hn hm hr) E'
 ·intro C Xi d' v s₃ m₃ y E' hC hXs hXi ht hy g ti hX hn hm hr
  exact I.ev _ _ _ _ hy A Xi s₃ _ (comp_cxt c hg hk hlk hXs hXi g ti hX hn hm hr) E'
theorem snd_call (ok : CfOk G cf k) (I : Sound G cf k n) {f : Str} {p pos : Pos} {a : Expr} {as : List Expr} {fd d : D} {ds : List D} (hl : ρ.lookup f = none) (hf : evD cf n K ρ (.Name f p) = some fd) (ha : evL cf n K ρ (a :: as) = some ds)
  (hok : ds.all (argOk fd) = true) (hd : callD cf fd ds = some d) : EvS G k K ρ (.Call (.Name f p) (a :: as) [] pos) d := by
 intro A X s env c E
 refine PyProof.Rows.Call_ ((I.ev _ _ _ _ hf A X s env c).post fun fv s₁ g₁ r => ?_)
 have c₁ := c.gr g₁
 have st : starEach (a :: as) env = (false, eval a env) :: starEach as env := by
  cases n with
  | zero => unfold evL at ha; cases ha
  | succ n =>
   unfold evL at ha; dsimp only at ha
   split at ha
   ·rename_i q; exact evD_star q as env
   ·cases ha
 have pl := (evL_plain ha pos env).2
 rw [st] at pl
 exact (callD_ok ok c₁ st (by simpa [backTo] using pl) (r.rd' fun l q => by subst q; cases hd) hd hok (I.ls _ _ _ _ ha)).up g₁
theorem snd_meth (I : Sound G cf k n) {o a : Expr} {name : Str} {apos pos : Pos} {as : List Expr} {x : Str} {d : D} {ds : List D} (hc : (isCN o && (apos.endLine == pos.line) && Nat.ble (as.length) 20) = true)
  (ho : evD cf n K ρ o = some (.str x)) (ha : evL cf n K ρ (a :: as) = some ds) (hd : meth name x ds = some d) : EvS G k K ρ (.Call (.Attribute o name apos) (a :: as) [] pos) d := by
 intro A X s env c E
 simp only [Bool.and_eq_true] at hc
 obtain ⟨⟨h1, h2⟩, h3⟩ := hc
 have h3 := Nat.le_of_ble_eq_true h3
 have st : starEach (a :: as) env = (false, eval a env) :: starEach as env := by
  cases n with
  | zero => unfold evL at ha; cases ha
  | succ n =>
   unfold evL at ha; dsimp only at ha
   split at ha
   ·rename_i q; exact evD_star q as env
   ·cases ha
 have pl := evL_plain ha pos env
 refine wpAny_Call_method_lateS (isCN_base h1 _ _ _) ?_ h2 ((I.ev _ _ _ _ ho A X s env c).post fun ov s₁ g₁ r => ?_)
 ·rw [pl.1]
  simp [keywordEach, backToKw]
  omega
 ·have c₁ := c.gr g₁
  obtain ⟨t, rfl⟩ := r.str
  have pl2 := pl.2
  rw [st] at pl2 ⊢
  have args := I.ls _ _ _ _ ha A X s₁ env pos c₁ E
  rw [st] at args
  obtain ⟨id, sl, ty, hcall⟩ : ∃ id, Slot "str" name id ∧ typeOf (.builtin id) = pure (.type "method_descriptor") ∧ ∀ s₂ vs, All2 (Rv G.C X s₂.heap) ds vs → Ev G A X s₂ (call (.builtin id) (.str x t :: vs)) d := by
   unfold meth at hd
   split at hd
   ·rename_i hn
    have := beq_iff_eq.mp hn
    subst this
    refine ⟨"str.join", F.slot_str_join, F.type_str_join, fun s₂ vs hr => ?_⟩
    split at hd
    ·obtain - | ⟨h1, h2⟩ := hr
     obtain - | _ := h2
     exact joinD_ok h1 hd
    ·cases hd
   ·split at hd
    ·rename_i hn
     have := beq_iff_eq.mp hn
     subst this
     refine ⟨"str.find", F.slot_str_find, F.type_str_find, fun s₂ vs hr => ?_⟩
     split at hd
     ·cases hd
      obtain - | ⟨h1, h2⟩ := hr
      obtain - | ⟨h2, h3⟩ := h2
      obtain - | _ := h3
      obtain ⟨u, rfl⟩ := h1.str
      obtain ⟨v, rfl⟩ := h2.int
      exact fun E => SC.find3 ⟨Gr.tok, Rd.rv Rd.int'⟩
     ·cases hd
    ·split at hd
     ·rename_i hn
      have := beq_iff_eq.mp hn
      subst this
      refine ⟨"str.replace", F.slot_str_replace, F.type_str_replace, fun s₂ vs hr => ?_⟩
      split at hd
      ·split at hd
       ·rename_i y z _ ho'
        cases hd
        obtain - | ⟨h1, h2⟩ := hr
        obtain - | ⟨h2, h3⟩ := h2
        obtain - | _ := h3
        obtain ⟨u, rfl⟩ := h1.str
        obtain ⟨v, rfl⟩ := h2.str
        intro E
        have gv := gives_str_replace x y z t u v fun q => by rw [ho'] at q; simp at q
        rw [ho'] at gv
        exact call_gives F.slot_str_replace (typeIs_str _ _ _) F.entry_str_replace (F.args_str_replace_3 _ _ _) (m := .val (.str x t)) gv ⟨Gr.refl _, Rd.rv Rd.str'⟩
       ·cases hd
      ·cases hd
     ·cases hd
  refine ⟨"str", id, F.plainAttrs_str, sl, ty, typeIs_str _ _ _, (fun _ e => nomatch e), callWith_builtin pl2 (evalArgs_plain (wpAny_mono args (fun vs s₂ h₂ => ?_) fun _ _ e => e))⟩
  exact (hcall s₂ vs h₂.2).up (g₁.trans h₂.1)
end
end Mine
namespace Mine
open PySem PySem.Calls PyProof.Rows PySem.W
section
variable {G : Gd} {k n : Nat} {cf : Cf} {K : Kn} {ρ : Rho}
theorem pure_all {ds : List D} (h : (ds.all D.pure && Nat.ble ds.length bigD) = true) : ds.all D.pure = true ∧ ds.length ≤ sizeLine := by
 rw [Bool.and_eq_true] at h
 exact ⟨h.1, (big63 h.2).2.2⟩
theorem snd_name (ok : CfOk G cf k) {x : Str} {p : Pos} {d : D} (h : evD cf (n + 1) K ρ (.Name x p) = some d) : EvS G k K ρ (.Name x p) d := by
 intro A X s env c
 unfold evD at h; dsimp only at h
 split at h
 ·cases h
 ·rename_i hn
  simp only [Bool.or_eq_true, not_or, Bool.not_eq_true] at hn
  split at h
  ·rename_i d' hl
   split at h
   ·cases h
   ·cases h
   ·rename_i h1 h2
    cases h
    exact load_ok c x p hl h1 h2 hn.1 hn.2
  ·split at h
   ·rename_i hk
    exact glob_ok ok c x p hk h hn.1
   ·cases h
theorem evD_comp (elt iter : Expr) (x : Str) (px : Pos) (ifs : List Expr) (csc : Scope) (p : Pos) : evD cf (n + 1) K ρ (.ListComp elt [⟨.Name x px, iter, ifs, 0⟩] csc p) =
 (match (goodComp csc.names K ρ x && (csc.kind == .function)) with
   | true => (match evD cf n K ρ iter with
    | some d => (match itemsD d with
     | some ds => (match compD (fun d => tsL cf n (relK csc.names K) ((x, d) :: ρ.filter fun q => freeIn csc.names q.1) ifs) (fun d => evD cf n (relK csc.names K) ((x, d) :: ρ.filter fun q => freeIn csc.names q.1) elt) ds with
      | some ys => some (.lst ys)
      | none => none)
     | none => none)
    | none => none)
   | false => none) := by
 rfl
set_option maxHeartbeats 1000000 in
theorem snd_ev (ok : CfOk G cf k) (I : Sound G cf k n) (e : Expr) (d : D) (h : evD cf (n + 1) K ρ e = some d) : EvS G k K ρ e d := by
 cases e with
 | Constant cc kk p =>
  intro A X s env c E
  cases cc with
  | int i => unfold evD at h; cases h; exact wpAny_Constant_int ⟨Gr.tok, Rd.rv Rd.int'⟩
  | str i => unfold evD at h; cases h; exact Calls.Constant_str ⟨Gr.tok, Rd.rv Rd.str'⟩
  | none => unfold evD at h; cases h; exact PyProof.Rows.Constant_none ⟨Gr.refl _, Rd.rv Rd.none'⟩
  | bool b => unfold evD at h; cases h; exact PyProof.Rows.Constant_bool ⟨Gr.refl _, Rd.rv Rd.bool'⟩
  | _ => unfold evD at h; cases h
 | Name x p => exact snd_name ok h
 | BinOp l op r p =>
  intro A X s env c E
  unfold evD at h; dsimp only at h
  split at h
  ·rename_i a ha
   split at h
   ·rename_i b hb
    refine wpAny_BinOp ((I.ev _ _ _ _ ha A X s env c).post fun va s₁ g₁ ra => ?_)
    have c₁ := c.gr g₁
    refine (I.ev _ _ _ _ hb A X s₁ env c₁).post fun vb s₂ g₂ rb => ?_
    have c₂ := c₁.gr g₂
    exact (binD_ok c₂.xok c₂.cx op (ra.gr c₁.xok.tabs c₁.cx g₂) rb h).up (g₁.trans g₂)
   ·cases h
  ·cases h
 | UnaryOp op x p =>
  intro A X s env c E
  cases op with
  | USub =>
   unfold evD at h; dsimp only at h
   split at h
   ·rename_i a ha
    refine UnaryOp_ ((I.ev _ _ _ _ ha A X s env c).post fun va s₁ g₁ ra => ?_)
    cases a with
    | int i => cases h; obtain ⟨t, rfl⟩ := ra.int; exact P.neg_int ⟨g₁.trans Gr.tok, Rd.rv Rd.int'⟩
    | _ => cases h
   ·cases h
  | _ => unfold evD at h; cases h
 | IfExp t b o p =>
  intro A X s env c E
  unfold evD at h; dsimp only at h
  refine IfExp_ ?_
  split at h
  ·rename_i ht
   refine (I.ts _ _ _ _ ht).post c fun s₁ g₁ => ?_
   simp only [if_true]
   exact (I.ev _ _ _ _ h A X s₁ env (c.gr g₁)).up g₁
  ·rename_i ht
   refine (I.ts _ _ _ _ ht).post c fun s₁ g₁ => ?_
   simp only [Bool.false_eq_true, if_false]
   exact (I.ev _ _ _ _ h A X s₁ env (c.gr g₁)).up g₁
  ·cases h
 | BoolOp op es p =>
  intro A X s env c E
  cases op with
  | Or => unfold evD at h; cases h
  | And =>
   rcases es with _ | ⟨a, _ | ⟨b, _ | _⟩⟩ <;> first | (unfold evD at h; cases h; done) | skip
   unfold evD at h; dsimp only at h
   split at h
   ·rename_i va ha
    refine BoolOp_and ((I.ev _ _ _ _ ha A X s env c).post fun v s₁ g₁ r => ?_)
    have c₁ := c.gr g₁
    split at h
    ·rename_i ht
     refine truS_ok r ht _ _ fun s₂ g₂ => ?_
     simp only [if_true]
     exact BoolOp_one ((I.ev _ _ _ _ h A X s₂ env (c₁.gr g₂)).up (g₁.trans g₂))
    ·rename_i ht
     cases h
     refine truS_ok r ht _ _ fun s₂ g₂ => ?_
     simp only [Bool.false_eq_true, if_false]
     exact ⟨g₁.trans g₂, r.gr c₁.xok.tabs c₁.cx g₂⟩
    ·cases h
   ·cases h
 | Compare l ops rs p =>
  intro A X s env c E
  rcases ops with _ | ⟨op, _ | _⟩ <;> rcases rs with _ | ⟨r, _ | _⟩ <;> first | (unfold evD at h; cases h; done) | skip
  unfold evD at h; dsimp only at h
  split at h
  ·rename_i a ha
   split at h
   ·rename_i b' hb
    split at h
    ·rename_i cc hc
     cases h
     refine wpAny_Compare1 ((I.ev _ _ _ _ ha A X s env c).post fun va s₁ g₁ ra => ?_) (evD_marks hb op)
     have c₁ := c.gr g₁
     refine (I.ev _ _ _ _ hb A X s₁ env c₁).post fun vb s₂ g₂ rb => ?_
     have c₂ := c₁.gr g₂
     exact cmpD_ok (by have := c.room.units; omega) op (ra.gr c₁.xok.tabs c₁.cx g₂) rb hc _ _ ⟨g₁.trans g₂, Rd.rv Rd.bool'⟩
    ·cases h
   ·cases h
  ·cases h
 | Tuple es kk p =>
  intro A X s env c E
  unfold evD at h; dsimp only at h
  split at h
  ·rename_i ds hds
   split at h
   ·rename_i hp
    cases h
    obtain ⟨h1, h2⟩ := pure_all hp
    refine Tuple_ (wpAny_mono (I.ls _ _ _ _ hds A X s env p c E) (fun vs s₁ h₁ => ?_) fun _ _ e => e)
    obtain ⟨g, r⟩ := h₁
    have c₁ := c.gr g
    have rl := forall2_pure r h1
    refine wpAny_newObj_type ⟨g.trans Gr.push', Rd.rv (Rd.tup' (vs := vs) (n := 0) (new_fresh c₁.xok) ?_ ?_)⟩ ?_
    ·exact Heap.get?_push_size _ rfl
    ·exact rl.gr c₁.xok.tabs Gr.push'
    ·show vs.toArray.size ≤ sizeLine
     rw [List.size_toArray, rl.length]; exact h2
   ·cases h
  ·cases h
 | List es p =>
  intro A X s env c E
  unfold evD at h; dsimp only at h
  split at h
  ·rename_i ds hds
   split at h
   ·rename_i hp
    cases h
    obtain ⟨h1, h2⟩ := pure_all hp
    refine List_ (wpAny_mono (I.ls _ _ _ _ hds A X s env p c E) (fun vs s₁ h₁ => ?_) fun _ _ e => e)
    obtain ⟨g, r⟩ := h₁
    have c₁ := c.gr g
    have rl := forall2_pure r h1
    refine wpAny_newObj_type ⟨g.trans Gr.push', Rd.rv (Rd.lst' (vs := vs) (n := 0) (new_fresh c₁.xok) ?_ ?_)⟩ ?_
    ·exact Heap.get?_push_size _ rfl
    ·exact rl.gr c₁.xok.tabs Gr.push'
    ·show vs.toArray.size ≤ sizeLine
     rw [List.size_toArray, rl.length]; exact h2
   ·cases h
  ·cases h
 | Subscript v i p =>
  by_cases hs : ∃ lo hi q, i = .Slice lo hi none q
  ·obtain ⟨lo, hi, q, rfl⟩ := hs
   unfold evD at h; dsimp only at h
   split at h
   ·rename_i a ha
    split at h
    ·rename_i l hl
     split at h
     ·rename_i hh' hh
      exact snd_slice I ha hl hh h
     ·cases h
    ·cases h
   ·cases h
  ·obtain ⟨a, b, ha, hb, hx⟩ := evD_idx (fun lo hi q e => hs ⟨lo, hi, q, e⟩) h
   intro A X s env c E
   refine PyProof.Rows.Subscript_ ((I.ev _ _ _ _ ha A X s env c).post fun va s₁ g₁ ra => ?_)
   have c₁ := c.gr g₁
   refine (I.ev _ _ _ _ hb A X s₁ env c₁).post fun vb s₂ g₂ rb => ?_
   exact (idxD_ok (ra.gr c₁.xok.tabs c₁.cx g₂) rb hx fun kk t _ => evD_subscripted hb _ _).up (g₁.trans g₂)
 | Call f as ks p =>
  cases ks with
  | cons _ _ => cases f <;> cases as <;> (unfold evD at h; cases h)
  | nil =>
   cases as with
   | nil => cases f <;> (unfold evD at h; cases h)
   | cons a as =>
    cases f with
    | Name f fp =>
     unfold evD at h; dsimp only at h
     split at h
     ·rename_i hl
      split at h
      ·rename_i fd hf
       split at h
       ·rename_i ds hds
        split at h
        ·rename_i hok
         exact snd_call ok I hl hf hds hok h
        ·cases h
       ·cases h
      ·cases h
     ·cases h
    | Attribute o name apos =>
     unfold evD at h; dsimp only at h
     split at h
     ·rename_i hc
      split at h
      ·rename_i x hx
       split at h
       ·rename_i ds hds
        split at h
        ·exact snd_meth I hc hx hds h
        ·cases h
       ·cases h
      ·exact fun A X s env c => ok.hook K ρ _ d h A X s env c.room c.cx c.xok c.env
     ·cases h
    | _ => unfold evD at h; cases h
 | Attribute v y p =>
  cases v with
  | Name x xp =>
   unfold evD at h; dsimp only at h
   split at h
   ·rename_i hy
    have hy := beq_iff_eq.mp hy
    subst hy
    split at h
    ·rename_i r t hx
     cases h
     intro A X s env c E
     rw [arm_eval_Attribute]
     refine wpAny_bind ((I.ev _ _ _ _ hx A X s env c).post fun v s₁ g₁ rv => wpAny_bind (wpAny_standAt ?_))
     have c₁ := c.gr g₁
     have rr : Rd G.C X s₁.heap (.node r t) v := rv
     unfold Rd at rr
     obtain ⟨a, rfl, na⟩ := rr
     refine wpAny_bind (wpAny_holding (wpAny_mono (ok.root A X s₁ a r t na c₁.cx c₁.xok E) (fun u s₂ h₂ => ?_) fun _ _ e => e))
     obtain ⟨g₂, t', rfl⟩ := h₂
     exact wpAny_bind (wpAny_letTemporaryGo (wpAny_pure ⟨g₁.trans g₂, Rd.rv Rd.int'⟩))
    ·cases h
   ·cases h
  | _ => unfold evD at h; cases h
 | ListComp elt gens csc p =>
  rcases gens with _ | ⟨⟨tg, iter, ifs, asy⟩, gs⟩
  ·unfold evD at h; cases h
  cases tg with
  | Name x px =>
   rcases asy with (_ | m) | m
   ·cases gs with
    | nil =>
     replace h : evD cf (n + 1) K ρ (.ListComp elt [⟨.Name x px, iter, ifs, 0⟩] csc p) = some d := h
     rw [evD_comp] at h
     split at h
     ·rename_i hg
      rw [Bool.and_eq_true] at hg
      split at h
      ·rename_i dd hdd
       split at h
       ·rename_i ds hds
        split at h
        ·rename_i ys hys
         cases h
         exact snd_comp ok I hg.1 (beq_iff_eq.mp hg.2) hdd hds hys
        ·cases h
       ·cases h
      ·cases h
     ·cases h
    | cons _ _ => unfold evD at h; cases h
   ·cases gs <;> (unfold evD at h; cases h)
   ·cases gs <;> (unfold evD at h; cases h)
  | _ => cases gs <;> (unfold evD at h; cases h)
 | JoinedStr vs p =>
  rcases vs with _ | ⟨v₁, _ | ⟨v₂, vs⟩⟩ <;> first | (unfold evD at h; cases h; done) | skip
  unfold evD at h; dsimp only at h
  split at h
  ·rename_i xs hxs
   split at h
   ·rename_i hb
    cases h
    intro A X s env c E
    refine wpAny_JoinedStr (I.fs _ _ _ _ hxs A X s env Str.empty _ E c ?_ fun s' g => ⟨?_, g.trans Gr.tok, Rd.rv Rd.str'⟩)
    ·show 0 + _ ≤ _
     rw [Nat.zero_add]; exact (big63 hb).2.2
    ·have : ∀ (ys : List Str) (acc : Str), (ys.foldl (· ++ ·) acc).length = acc.length + lensS ys := by
      intro ys
      induction ys with
      | nil => intro acc; simp [lensS]
      | cons y ys ih => intro acc; rw [List.foldl_cons, ih, strLen_append, lensS_cons, Nat.add_assoc]
     rw [this]
     show 0 + _ ≤ _
     rw [Nat.zero_add]; exact (big63 hb).2.2
   ·cases h
  ·cases h
 | _ => unfold evD at h; cases h
theorem sound (ok : CfOk G cf k) : ∀ n, Sound G cf k n
 | 0 => ⟨(fun _ _ _ _ h => by unfold evD at h; cases h), (fun _ _ _ _ h => by unfold tsD at h; cases h), (fun _ _ _ _ h => by unfold evL at h; cases h), (fun _ _ _ _ h => by unfold tsL at h; cases h), (fun _ _ _ _ h => by unfold allD at h; cases h), (fun _ _ _ _ h => by unfold anyD at h; cases h), (fun _ _ _ _ h => by unfold fsD at h; cases h)⟩
 | n + 1 => ⟨fun _ _ e d h => snd_ev ok (sound ok n) e d h, fun _ _ e d h => snd_ts ok (sound ok n) e d h, fun _ _ e d h => snd_ls (sound ok n) e d h, fun _ _ e d h => snd_tl (sound ok n) e d h, fun _ _ e d h => snd_all (sound ok n) e d h, fun _ _ e d h => snd_any (sound ok n) e d h, fun _ _ e d h => snd_fs (sound ok n) e d h⟩
end
end Mine
namespace Mine
open PySem PySem.Calls PyProof.Rows PySem.W
structure EnvAt (G : Gd) (env : Env) (K : Kn) (X : List Addr) (h : Heap) (ρ : Rho) (m : Str → Option Value) (W : Str → Option Addr) : Prop where
 k : EnvK env K
 ns : h.Ns env.locals m
 inj : ∀ x y a, W x = some a → W y = some a → x = y
 vars : ∀ x d, ρ.lookup x = some d → d = .unb ∨ ∃ v, Holds h env m x v ∧ Bears G.C X h W x d v
theorem EnvAt.ok {G env K X h ρ m W} (e : EnvAt G env K X h ρ m W) : EnvOk G env K X h ρ := ⟨e.k, m, W, e.ns, e.inj, e.vars⟩
theorem EnvAt.gr {G : Gd} {env : Env} {K : Kn} {X : List Addr} {s s' : Shared} {ρ : Rho} {m W} (hX : XOk G X s.heap) (x : Cx G s.heap) (g : Gr G s s') (e : EnvAt G env K X s.heap ρ m W) : EnvAt G env K X s'.heap ρ m W := by
 obtain ⟨k, hn, hi, hv⟩ := e
 refine ⟨k, hn.at' fun o e => g.heap _ o ((NT.dict hn).notTab x.ti) e, hi, fun y d e => ?_⟩
 rcases hv y d e with h | ⟨v, h, b⟩
 ·exact .inl h
 ·refine .inr ⟨v, ?_, b.imp (fun b o hb e => ⟨hb, g.heap b o (fun t => hb (hX.tabs b t)) e⟩) fun a ds _ ha vs n e => ⟨ha, g.heap _ _ (x.notTab e zI) e⟩⟩
  rcases h with h | ⟨h, c, h1, h2⟩
  ·exact .inl h
  ·exact .inr ⟨h, c, h1, IsCell.at' h2 fun o e => g.heap _ o ((NT.cell h2).notTab x.ti) e⟩
structure Stp (G : Gd) (Y : List Addr) (s : Shared) (Y' : List Addr) (s' : Shared) : Prop where
 sub : ∀ a ∈ Y, a ∈ Y'
 new : ∀ a ∈ Y', a ∈ Y ∨ s.heap.get? a = none
 grb : GrB G Y s s'
structure StC (G : Gd) (k : Nat) (A : Around) (Xc Y : List Addr) (s : Shared) (env : Env) (K : Kn) (ρ : Rho) : Prop where
 room : Room k A
 cx : Cx G s.heap
 xok : XOk G (Y ++ Xc) s.heap
 xc : ∀ a ∈ G.T, a ∈ Xc
 ex : ∃ m W, EnvAt G env K (Y ++ Xc) s.heap ρ m W ∧ ∀ x a, W x = some a → a ∈ Y
 loc : env.locals ∈ Y
 cel : ∀ x c, env.cells.lookup x = some c → K.lookup x = some .cell → c ∈ Y ∧ ∃ v, s.heap.IsCell c v
 apart : env.cells.Pairwise fun x y => x.2 ≠ y.2
 nt : ∀ y ∈ Y, NT s.heap y
 dis : ∀ a ∈ Y, a ∉ Xc
 hbY : ∀ a ∈ Y, G.hb.get? a = none
 celX : ∀ x, K.lookup x = some .cell → ∃ c, env.cells.lookup x = some c
 noFree : ∀ x, K.lookup x ≠ some .free
section
variable {G : Gd} {k : Nat} {A : Around} {Xc Y Y' : List Addr} {s s' : Shared} {env : Env} {K : Kn} {ρ : Rho}
theorem StC.cxt (c : StC G k A Xc Y s env K ρ) : Cxt G k A (Y ++ Xc) s env K ρ := by
 obtain ⟨m, W, e, _⟩ := c.ex
 exact ⟨c.room, c.cx, c.xok, e.ok⟩
theorem NT.gr {a : Addr} (t : G.TI s.heap) (n : NT s.heap a) (g : Gr G s s') : NT s'.heap a := by
 obtain ⟨o, ho, no⟩ := n
 exact ⟨o, g.heap a o (NT.notTab ⟨o, ho, no⟩ t) ho, no⟩
theorem StC.gr (c : StC G k A Xc Y s env K ρ) (g : Gr G s s') : StC G k A Xc Y s' env K ρ := by
 obtain ⟨m, W, e, hW⟩ := c.ex
 exact ⟨c.room, g.cx c.cx, c.xok.gr c.cx.ti g, c.xc, ⟨m, W, e.gr c.xok c.cx g, hW⟩, c.loc, (fun x cc h1 h2 => by obtain ⟨a, v, b⟩ := c.cel x cc h1 h2; exact ⟨a, v, IsCell.at' b fun o e => g.heap _ o ((NT.cell b).notTab c.cx.ti) e⟩), c.apart, fun y hy => NT.gr c.cx.ti (c.nt y hy) g, c.dis, c.hbY, c.celX, c.noFree⟩
theorem Stp.refl : Stp G Y s Y s := ⟨fun _ h => h, fun _ h => .inl h, GrB.refl s⟩
theorem Stp.gr (g : Gr G s s') : Stp G Y s Y s' := ⟨fun _ h => h, fun _ h => .inl h, g.b⟩
theorem Stp.trans {Y₁ Y₂ : List Addr} {s s₁ s₂ : Shared} (ti : G.TI s.heap) (a : Stp G Y s Y₁ s₁) (b : Stp G Y₁ s₁ Y₂ s₂) : Stp G Y s Y₂ s₂ := by
 refine ⟨fun x h => b.sub x (a.sub x h), fun x h => ?_, ⟨fun x o hT hY e => ?_, fun t => b.grb.ti (a.grb.ti t), b.grb.os.trans a.grb.os, fun t => b.grb.bare (a.grb.bare t)⟩⟩
 ·rcases b.new x h with h | h
  ·exact a.new x h
  ·by_cases hY : x ∈ Y
   ·exact .inl hY
   ·refine .inr ?_
    cases q : s.heap.get? x with
    | none => rfl
    | some o =>
     by_cases hT : x ∈ G.T
     ·obtain ⟨vs, e⟩ := G.tabs _ (a.grb.ti ti) x hT
      rw [h] at e; cases e
     ·rw [a.grb.heap x o hT hY q] at h; cases h
 ·refine b.grb.heap x o hT (fun q => ?_) (a.grb.heap x o hT hY e)
  rcases a.new x q with z | z
  ·exact hY z
  ·rw [z] at e; cases e
theorem Stp.cx (t : Stp G Y s Y' s') (x : Cx G s.heap) (hb : ∀ a ∈ Y, G.hb.get? a = none) : Cx G s'.heap :=
 ⟨fun b o e => t.grb.heap b o (fun q => by rw [G.hT b q] at e; cases e) (fun q => by rw [hb b q] at e; cases e) (x.hb b o e), t.grb.ti x.ti⟩
def setV : Rho → Str → D → Rho
 | [], _, _ => []
 | (y, v) :: r, x, d => (match y == x with | true => (y, d) :: r | false => (y, v) :: setV r x d)
theorem setV_lookup : ∀ (ρ : Rho) (x y : Str) (d : D), (setV ρ x d).lookup y = if y = x then (ρ.lookup x).map (fun _ => d) else ρ.lookup y
 | [], x, y, d => by simp [setV]
 | (z, v) :: r, x, y, d => by
  unfold setV
  cases hz : z == x with
  | true =>
   have := beq_iff_eq.mp hz; subst this
   simp only [List.lookup_cons]
   by_cases hy : y = z
   ·subst hy; simp
   ·have q : (y == z) = false := by simp [hy]
    simp [q, hy]
  | false =>
   have hz' : z ≠ x := fun q => by subst q; simp at hz
   simp only [List.lookup_cons]
   rw [setV_lookup r x y d]
   by_cases hy : y = x
   ·subst hy
    have : (y == z) = false := by simp [Ne.symm hz']
    simp [this]
   ·simp [hy]
def dropApp : Rho → Str → Rho
 | [], _ => []
 | (y, v) :: r, x => (y, match v with | .app z => (match z == x with | true => .unb | false => .app z) | v => v) :: dropApp r x
theorem dropApp_lookup : ∀ (ρ : Rho) (x y : Str) (d : D), (dropApp ρ x).lookup y = some d → d = .unb ∨ (ρ.lookup y = some d ∧ d ≠ .app x)
 | [], x, y, d, h => by simp [dropApp] at h
 | (z, v) :: r, x, y, d, h => by
  unfold dropApp at h
  rw [List.lookup_cons] at h ⊢
  cases hz : y == z with
  | true =>
   rw [hz] at h
   dsimp only at h
   cases v with
   | app u =>
    cases hu : u == x with
    | true => simp only [hu] at h; cases h; exact .inl rfl
    | false => simp only [hu] at h; cases h; exact .inr ⟨rfl, fun q => by cases q; simp at hu⟩
   | _ => cases h; exact .inr ⟨rfl, by simp⟩
  | false =>
   rw [hz] at h
   exact dropApp_lookup r x y d h
theorem EnvAt.store {h h' : Heap} {X X' : List Addr} {m W m' W'} {x : Str} {d : D} {v : Value} (e : EnvAt G env K X h ρ m W) (hn : h'.Ns env.locals m') (hm : ∀ y, y ≠ x → m' y = m y)
  (hW : ∀ y, y ≠ x → W' y = W y) (hi : ∀ x y a, W' x = some a → W' y = some a → x = y)
  (kc : ∀ y c u, y ≠ x → env.cells.lookup y = some c → h.IsCell c (some u) → h'.IsCell c (some u)) (kX : ∀ b o, b ∉ X → h.get? b = some o → b ∉ X' ∧ h'.get? b = some o)
  (kO : ∀ y a vs n, y ≠ x → W y = some a → a ∈ X → h.get? a = some (lstObj vs n) → a ∈ X' ∧ h'.get? a = some (lstObj vs n))
  (hv : Holds h' env m' x v) (hb : Bears G.C X' h' W' x d v) : EnvAt G env K X' h' (setV (dropApp ρ x) x d) m' W' := by
 refine ⟨e.k, hn, hi, fun y d' hy => ?_⟩
 rw [setV_lookup] at hy
 by_cases hyx : y = x
 ·subst hyx
  rw [if_pos rfl] at hy
  cases hl : (dropApp ρ y).lookup y with
  | none => rw [hl] at hy; cases hy
  | some z => rw [hl] at hy; cases hy; exact .inr ⟨v, hv, hb⟩
 ·rw [if_neg hyx] at hy
  rcases dropApp_lookup ρ x y d' hy with q | ⟨hl, hna⟩
  ·exact .inl q
  ·rcases e.vars y d' hl with q | ⟨u, q, b⟩
   ·exact .inl q
   ·refine .inr ⟨u, ?_, ?_⟩
    ·rcases q with ⟨q1, q2⟩ | ⟨q1, c, q2, q3⟩
     ·exact .inl ⟨q1, (hm y hyx).trans q2⟩
     ·exact .inr ⟨q1, c, q2, kc y c u hyx q2 q3⟩
    ·cases d' with
     | own ds =>
      obtain ⟨a, vs, n, e1, e2, hx, hg, hl⟩ := b
      obtain ⟨a1, a2⟩ := kO y a vs n hyx e1 hx hg
      exact ⟨a, vs, n, (hW y hyx).trans e1, e2, a1, a2, hl.imp kX⟩
     | app z =>
      obtain ⟨a, b, e1, e2, hx, o, vs, hg, r⟩ := b
      have hzx : z ≠ x := fun q => hna (by rw [q])
      exact ⟨a, b, (hW z hzx).trans e1, e2, (kX b o hx hg).1, o, vs, (kX b o hx hg).2, r⟩
     | _ => exact Rd.imp kX b
theorem NT.same {h h' : Heap} {T a : Addr} (n : NT h a) (k : Heap.SameBut T h h') (nt : NT h' T) : NT h' a := by
 by_cases q : a = T
 ·subst q; exact nt
 ·obtain ⟨o, ho, no⟩ := n; exact ⟨o, (k.2 a q).trans ho, no⟩
theorem SameBut.up {h h' : Heap} {T b : Addr} {o : Obj} (k : Heap.SameBut T h h') (q : b ≠ T) (e : h.get? b = some o) : h'.get? b = some o := (k.2 b q).trans e
theorem store_raw (c : StC G k A Xc Y s env K ρ) {x : Str} {v : Value} (hk : K.lookup x = some .local ∨ K.lookup x = some .cell) {m} (hn : s.heap.Ns env.locals m) {E : Value → Shared → Prop} {Q : Unit → Shared → Prop}
  (hQ : ∀ T h' m' t, T ∈ Y → Heap.SameBut T s.heap h' → NT h' T → h'.Ns env.locals m' → (∀ y, y ≠ x → m' y = m y) → Holds h' env m' x v →
   (∀ y cc u, y ≠ x → env.cells.lookup y = some cc → s.heap.IsCell cc (some u) → h'.IsCell cc (some u)) →
   (∀ y cc, env.cells.lookup y = some cc → (∃ u, s.heap.IsCell cc u) → ∃ u, h'.IsCell cc u) → (∀ a vs n, s.heap.get? a = some (lstObj vs n) → a ≠ T) →
   Q () { s with heap := h', toks := t }) : wpAny (model G.prog G.w) A (storeName env x v) Q E s := by
 have en := c.cxt.env.k
 rcases hk with hk | hk
 rotate_left
 obtain ⟨cc, hc⟩ := c.celX x hk
 rotate_left
 ·have hk' : env.kindOf x = some .local := by unfold Env.kindOf; rw [en.names]; exact hk
  refine wpAny_storeName_local hk' hn (fun h' hn' hs => ?_) (by rw [en.kind]; rfl)
  have diff : ∀ cc u, s.heap.IsCell cc u → cc ≠ env.locals := fun cc u hcell q => by
   subst q
   obtain ⟨o, es, ep, ho, hd, _⟩ := hn
   obtain ⟨o', ho', hd'⟩ := hcell
   rw [ho] at ho'; cases ho'
   rw [hd] at hd'; cases hd'
  refine hQ env.locals h' _ _ c.loc hs (.dict hn') hn' (fun y hy => by simp [hy]) (.inl ⟨hk', by simp⟩) (fun y cc u hy hc hcell => ?_) (fun y cc hc ⟨u, hcell⟩ => ⟨u, ?_⟩) (fun a vs n hg q => ?_)
  ·exact IsCell.at' hcell fun o e => SameBut.up hs (diff _ _ hcell) e
  ·exact IsCell.at' hcell fun o e => SameBut.up hs (diff _ _ hcell) e
  ·subst q
   obtain ⟨o, es, ep, ho, hd, _⟩ := hn
   rw [hg] at ho; cases ho; cases hd
 ·have hk' : env.kindOf x = some .cell := by unfold Env.kindOf; rw [en.names]; exact hk
  obtain ⟨hY, v₀, hcell⟩ := c.cel x cc hc hk
  refine wpAny_storeName_cell en.kind hk' hc hcell (fun h' hcell' hs => ?_)
  have nl : env.locals ≠ cc := fun q => by
   subst q
   obtain ⟨o, es, ep, ho, hd, _⟩ := hn
   obtain ⟨o', ho', hd'⟩ := hcell
   rw [ho] at ho'; cases ho'
   rw [hd] at hd'; cases hd'
  refine hQ cc h' m s.toks hY hs (.cell hcell') (hn.at' fun o e => SameBut.up hs nl e) (fun _ _ => rfl) (.inr ⟨.inl hk', cc, hc, hcell'⟩) (fun y c' u hy hc' hcl => ?_) (fun y c' hc' ⟨u, hcl⟩ => ?_) (fun a vs n hg q => by
   subst q
   obtain ⟨o', ho', hd'⟩ := hcell
   rw [hg] at ho'; cases ho'; cases hd')
  ·have : c' ≠ cc := fun q => hy (by subst q; exact name_of_addr c.apart (mem_of_lookup hc') (mem_of_lookup hc))
   exact IsCell.at' hcl fun o e => SameBut.up hs this e
  ·by_cases q : c' = cc
   ·subst q; exact ⟨_, hcell'⟩
   ·exact ⟨u, IsCell.at' hcl fun o e => SameBut.up hs q e⟩
theorem XOk.same {X : List Addr} {h h' : Heap} {T : Addr} (x : XOk G X h) (k : Heap.SameBut T h h') (nt : NT h' T) : XOk G X h' := ⟨x.tabs, fun a ha => by
 by_cases q : a = T
 ·subst q; obtain ⟨o, ho, _⟩ := nt; exact ⟨o, ho⟩
 ·obtain ⟨o, e⟩ := x.live a ha; exact ⟨o, SameBut.up k q e⟩⟩
theorem store_ok (c : StC G k A Xc Y s env K ρ) {x : Str} {d : D} {v : Value} (hk : K.lookup x = some .local ∨ K.lookup x = some .cell) (r : Rd G.C (Y ++ Xc) s.heap d v) {E : Value → Shared → Prop} {Q : Unit → Shared → Prop}
  (hQ : ∀ s', Stp G Y s Y s' → StC G k A Xc Y s' env K (setV (dropApp ρ x) x d) → Q () s') : wpAny (model G.prog G.w) A (storeName env x v) Q E s := by
 obtain ⟨m, W, e, hW⟩ := c.ex
 refine store_raw c hk e.ns fun T h' m' t hT hs nt hn' hm hv kc kce hnl => ?_
 have nT : NT s.heap T := c.nt T hT
 have up : ∀ b o, b ∉ Y ++ Xc → s.heap.get? b = some o → h'.get? b = some o := fun b o hb e => SameBut.up hs (fun q => hb (by rw [q]; exact List.mem_append_left _ hT)) e
 have stp : Stp G Y s Y { s with heap := h', toks := t } := ⟨fun _ h => h, fun _ h => .inl h, (GrB.same hs nT).mono fun y hy => by rw [List.mem_singleton.mp hy]; exact hT⟩
 refine hQ _ stp ⟨c.room, stp.cx c.cx c.hbY, c.xok.same hs nt, c.xc, ⟨m', (fun y => if y = x then none else W y), ?_, ?_⟩, c.loc, ?_, c.apart, ?_, c.dis, c.hbY, c.celX, c.noFree⟩
 ·refine e.store hn' hm (fun y hy => by simp [hy]) ?_ kc (fun b o hb e => ⟨hb, up b o hb e⟩) ?_ hv ?_
  ·intro y z a h1 h2
   by_cases hy : y = x
   ·simp [hy] at h1
   ·by_cases hz : z = x
    ·simp [hz] at h2
    ·simp only [hy, hz, if_false] at h1 h2; exact e.inj y z a h1 h2
  ·intro y a vs n hy hwa hx hg
   exact ⟨hx, SameBut.up hs (hnl _ _ _ hg) hg⟩
  ·cases d <;> first | exact Rd.imp (fun b o hb e => ⟨hb, up b o hb e⟩) r | (unfold Rd at r; exact r.elim)
 ·intro y a hy
  by_cases q : y = x
  ·simp [q] at hy
  ·simp only [q, if_false] at hy; exact hW y a hy
 ·intro y cc h1 h2
  obtain ⟨a, u⟩ := c.cel y cc h1 h2
  exact ⟨a, kce y cc h1 u⟩
 ·intro y hy; exact (c.nt y hy).same hs nt
theorem store_own (c : StC G k A Xc Y s env K ρ) {s₁ : Shared} (g : Gr G s s₁) {x : Str} {ds : List D} {a : Addr} {vs : List Value} {n : Nat} (hk : K.lookup x = some .local ∨ K.lookup x = some .cell)
  (ha : s.heap.get? a = none) (hg : s₁.heap.get? a = some (lstObj vs n)) (rl : RdL G.C (Y ++ Xc) s.heap ds vs) {E : Value → Shared → Prop} {Q : Unit → Shared → Prop}
  (hQ : ∀ s', Stp G Y s (a :: Y) s' → StC G k A Xc (a :: Y) s' env K (setV (dropApp ρ x) x (.own ds)) → Q () s') : wpAny (model G.prog G.w) A (storeName env x (.ref a)) Q E s₁ := by
 obtain ⟨m, W, e, hW⟩ := c.ex
 have c₁ := c.gr g
 have e₁ := e.gr c.xok c.cx g
 refine store_raw c₁ hk e₁.ns fun T h' m' t hT hs nt hn' hm hv kc kce hnl => ?_
 have nT : NT s₁.heap T := c₁.nt T hT
 have aX : a ∉ Y ++ Xc := c.xok.none ha
 have aT : T ≠ a := fun q => aX (by rw [← q]; exact List.mem_append_left _ hT)
 have upX : ∀ b o, b ∉ Y ++ Xc → s.heap.get? b = some o → h'.get? b = some o := fun b o hb e => SameBut.up hs (fun q => hb (by rw [q]; exact List.mem_append_left _ hT)) (g.heap b o (fun t => hb (c.xok.tabs b t)) e)
 have hga : h'.get? a = some (lstObj vs n) := SameBut.up hs (Ne.symm aT) hg
 have stp : Stp G Y s (a :: Y) { s₁ with heap := h', toks := t } := ⟨fun _ h => .tail _ h, fun b hb => (List.mem_cons.mp hb).elim (fun q => .inr (by rw [q]; exact ha)) .inl,
  g.b.trans ((GrB.same hs nT).mono fun y hy => by rw [List.mem_singleton.mp hy]; exact hT)⟩
 have hbY' : ∀ b ∈ a :: Y, G.hb.get? b = none := fun b hb => (List.mem_cons.mp hb).elim (fun q => by
  subst q
  cases z : G.hb.get? b with
  | none => rfl
  | some o => rw [c.cx.hb b o z] at ha; cases ha) (c.hbY b)
 have aT' : a ∉ G.T := fun q => aX (List.mem_append_right _ (c.xc a q))
 refine hQ _ stp ⟨c.room, ⟨fun b o q => stp.grb.heap b o (fun z => by rw [G.hT b z] at q; cases q) (fun z => by rw [c.hbY b z] at q; cases q) (c.cx.hb b o q), stp.grb.ti c.cx.ti⟩, ?_, c.xc, ⟨m', (fun y => if y = x then some a else W y), ?_, ?_⟩, .tail _ c.loc, ?_, c.apart, ?_, ?_, hbY', c.celX, c.noFree⟩
 ·refine ⟨fun b hb => List.mem_append_right _ (c.xc b hb), fun b hb => ?_⟩
  have := (c₁.xok.same hs nt).live
  rcases List.mem_append.mp hb with hb | hb
  ·rcases List.mem_cons.mp hb with rfl | hb
   ·exact ⟨_, hga⟩
   ·exact this b (List.mem_append_left _ hb)
  ·exact this b (List.mem_append_right _ hb)
 ·have kX : ∀ b o, b ∉ Y ++ Xc → s.heap.get? b = some o → b ∉ (a :: Y) ++ Xc ∧ h'.get? b = some o := fun b o hb e => ⟨fun q => by
   rcases List.mem_append.mp q with q | q
   ·rcases List.mem_cons.mp q with q | q
    ·rw [q, ha] at e; cases e
    ·exact hb (List.mem_append_left _ q)
   ·exact hb (List.mem_append_right _ q), upX b o hb e⟩
  refine e.store hn' hm (fun y hy => by simp [hy]) ?_ (fun y cc u hy hc q => kc y cc u hy hc (IsCell.at' q fun o e => g.heap _ o ((NT.cell q).notTab c.cx.ti) e)) kX ?_ hv ?_
  ·intro y z b h1 h2
   by_cases hy : y = x
   ·by_cases hz : z = x
    ·rw [hy, hz]
    ·simp only [hy, hz, if_true, if_false] at h1 h2
     cases h1
     exact absurd (List.mem_append_left _ (hW z a h2)) aX
   ·by_cases hz : z = x
    ·simp only [hy, hz, if_true, if_false] at h1 h2
     cases h2
     exact absurd (List.mem_append_left _ (hW y a h1)) aX
    ·simp only [hy, hz, if_false] at h1 h2; exact e.inj y z b h1 h2
  ·intro y b us j hy hwb hx hgb
   have hgb₁ := g.heap b _ (c.cx.notTab hgb zI) hgb
   refine ⟨?_, SameBut.up hs (hnl _ _ _ hgb₁) hgb₁⟩
   rcases List.mem_append.mp hx with q | q
   ·exact List.mem_append_left _ (.tail _ q)
   ·exact List.mem_append_right _ q
  ·exact ⟨a, vs, n, by simp, rfl, List.mem_append_left _ (.head _), hga, rl.imp kX⟩
 ·intro y b hy
  by_cases q : y = x
  ·simp only [q, if_true] at hy; cases hy; exact .head _
  ·simp only [q, if_false] at hy; exact .tail _ (hW y b hy)
 ·intro y cc h1 h2
  obtain ⟨q, u⟩ := c₁.cel y cc h1 h2
  exact ⟨.tail _ q, kce y cc h1 u⟩
 ·intro y hy
  rcases List.mem_cons.mp hy with rfl | hy
  ·exact ⟨_, hga, zI⟩
  ·exact (c₁.nt y hy).same hs nt
 ·intro b hb
  rcases List.mem_cons.mp hb with rfl | hb
  ·exact fun q => aX (List.mem_append_right _ q)
  ·exact c.dis b hb
end
end Mine
namespace Mine
open PySem PySem.Calls PyProof.Rows PySem.W
theorem slot_md_get : Slot "method_descriptor" "__get__" "method_descriptor.__get__" :=
 .of (owner := "method_descriptor") (n := "__get__") (by rw [typeLookup_type, builtinLookup_eq_fast]; kernel_rfl) (by decide +kernel) (by decide +kernel) (by decide +kernel)
  (by first | exact .inl (by decide +kernel) | exact .inr (by decide +kernel)) (by rw [isSubtype_type]; kernel_rfl)
theorem entry_md_get : entryFor table "method_descriptor.__get__" = some Builtin.«method_descriptor.__get__» := entryFor_of_tree (by kernel_rfl)
theorem args_md_get (a b c : Value) : argsOk "method_descriptor.__get__" ⟨[a, b, c], []⟩ := by unfold argsOk; kernel_rfl
theorem md_noset : typeLookup (.type "method_descriptor") "__set__" = pure none := by rw [typeLookup_type, builtinLookup_eq_fast]; kernel_rfl
theorem md_nodel : typeLookup (.type "method_descriptor") "__delete__" = pure none := by rw [typeLookup_type, builtinLookup_eq_fast]; kernel_rfl
theorem owner_append : (".".intercalate ("list.append".cutAt '.').dropLast) = "list" := by
 have e0 : "list.append".cutAt '.' = ["list", "append"] := by first | rfl | decide +kernel
 rw [e0]; decide +kernel
theorem told_append : Manifest.toldItsClass.contains "list.append" = false := by decide +kernel
section
variable {prog : Program} {w : World} {A : Around} {E : Value → Shared → Prop} {h : Heap} {g : Array GenState} {d : Drawn} {t : Nat} {os : OsState} {a : Addr} {o : Obj} {Q : Value → Shared → Prop}
theorem append_get (hx : h.get? a = some o) (hc : o.cls = .type "list") {R : Result → Shared → Prop}
  (hq : R (.ok (.ret (.ref h.objs.size))) ⟨h.push { cls := .type "builtin_function_or_method", data := .fields #[.builtin "list.append", .ref a] }, g, d, t, os⟩) :
  codeAny (model prog w) A (.call (.builtin "method_descriptor.__get__") ⟨[.builtin "list.append", .ref a, .type "list"], []⟩) R ⟨h, g, d, t, os⟩ := by
 have hT : (⟨h, g, d, t, os⟩ : Shared).TypeIs (.ref a) "list" := ⟨_, hx, hc⟩
 have hT5 : (⟨h, g, d, t, os⟩ : Shared).TypeIs (.builtin "list.append") "method_descriptor" := F.type_list_append
 have f1 := told_append
 have f2 := owner_append
 have f3 : isSubtype (.type "list") (.type "list") = pure true := by rw [isSubtype_type]; kernel_rfl
 have f4 : isSubtype (.type "list") (.type (".".intercalate ("list.append".cutAt '.').dropLast)) = pure true := by rw [f2]; exact f3
 refine codeAny_call_builtin slot_md_get.plain entry_md_get (slot_md_get.check _ _ _ _ _ _ _ _ hT5 (args_md_get _ _ _) ?_)
 unfold Builtin.«method_descriptor.__get__»
 refine wpAny_bind (wpAny_of_eq (a := (.builtin "list.append", some (.ref a), some (.type "list"))) (by first | rfl | kernel_rfl) ?_)
 dsimp only
 rw [f1]
 simp only [Bool.false_eq_true, if_false]
 refine wpAny_bind ?_
 refine wpAny_bind (wpAny_pure ?_)
 have f5 : isSubtype (.type "list") (.type (".".intercalate (("list.append".cutAt '.').dropLast))) = pure true := f4
 refine wpAny_bind (wpAny_isInstance (T := "list") (b := true) hT f5 ?_)
 refine wpAny_pure ?_
 refine wpAny_bind ?_
 refine wpAny_newObj_type ?_
 exact wpAny_pure hq
theorem append_find (hx : h.get? a = some o) (hc : o.cls = .type "list") (hd : o.dict = none) (hdat : ∀ c, o.data ≠ .cls c) {Q : Builtin.ObjectAttr.Found → Shared → Prop}
  (hq : Q (.bind (.builtin "method_descriptor.__get__") (.builtin "list.append")) ⟨h, g, d, t, os⟩) :
  wpAny (model prog w) A (Builtin.ObjectAttr.find (.ref a) (.type "list") "append") Q E ⟨h, g, d, t, os⟩ := by
 have hT : (⟨h, g, d, t, os⟩ : Shared).TypeIs (.ref a) "list" := ⟨_, hx, hc⟩
 have hT5 : (⟨h, g, d, t, os⟩ : Shared).TypeIs (.builtin "list.append") "method_descriptor" := F.type_list_append
 have f4 := slot_list_append.lookup
 have f6 := slot_md_get.lookup
 have f7 := md_noset
 have f8 := md_nodel
 unfold Builtin.ObjectAttr.find
 refine wpAny_bind (wpAny_of_eq f4 ?_)
 refine wpAny_bind (m := Builtin.ObjectAttr.getOf (some (.builtin "list.append"))) (show wpAny _ _ (specialOf (.builtin "list.append") "__get__") _ _ _ from wpAny_specialOf hT5 f6 ?_)
 refine wpAny_bind ?_
 unfold Builtin.ObjectAttr.dataDescriptor?
 dsimp only
 unfold Builtin.ObjectAttr.takesStores
 refine wpAny_bind (wpAny_bind (wpAny_specialOf hT5 f7 ?_))
 simp only [Option.isSome_none, Bool.false_eq_true, if_false]
 refine wpAny_bind (wpAny_specialOf hT5 f8 (wpAny_pure ?_))
 simp only [Option.isSome_none, Bool.false_eq_true, if_false]
 refine wpAny_pure ?_
 dsimp only
 unfold Builtin.ObjectAttr.ownThenClass
 have own : wpAny (model prog w) A (Builtin.ObjectAttr.inOwnDict "append" (.ref a)) (fun r s' => r = none ∧ s' = ⟨h, g, d, t, os⟩) E ⟨h, g, d, t, os⟩ := by
  unfold Builtin.ObjectAttr.inOwnDict
  dsimp only
  unfold Builtin.ObjectAttr.ownDict
  refine wpAny_bind (m := (do
   let __do_lift ← loadHead a
   match __do_lift.data with
    | Data.cls c => pure (some c.ns)
    | x => instanceDict a false : Sem (Option Addr))) (wpAny_bind (m := loadHead a) (wpAny_loadPart hx ?_))
  have inst : wpAny (model prog w) A (instanceDict a false) (fun r s' => r = none ∧ s' = ⟨h, g, d, t, os⟩) E ⟨h, g, d, t, os⟩ := by
   unfold instanceDict
   refine wpAny_bind (wpAny_loadPart hx ?_)
   rw [hc, hd]
   exact wpAny_pure ⟨rfl, rfl⟩
  split
  ·rename_i c hcc; exact absurd hcc (hdat c)
  ·refine wpAny_mono inst (fun r s' hr => ?_) fun _ _ e => e
   obtain ⟨rfl, rfl⟩ := hr
   exact wpAny_pure ⟨rfl, rfl⟩
 refine wpAny_bind (wpAny_mono own (fun r s' hr => ?_) fun _ _ e => e)
 obtain ⟨rfl, rfl⟩ := hr
 dsimp only
 refine wpAny_bind (wpAny_of_eq (a := ()) (by first | rfl | kernel_rfl) ?_)
 exact wpAny_bind (wpAny_rule (wpAny_pure hq))
theorem append_entry (hx : h.get? a = some o) (hc : o.cls = .type "list") (hd : o.dict = none) (hdat : ∀ c, o.data ≠ .cls c) {tk : Tok} {Q : Fin → Shared → Prop}
  (hq : Q (.done (.ret (.ref h.objs.size))) ⟨h.push { cls := .type "builtin_function_or_method", data := .fields #[.builtin "list.append", .ref a] }, g, d, t, os⟩) :
  wpAny (model prog w) A (Builtin.«object.__getattribute__» ⟨[.ref a, .str "append" tk], []⟩) Q E ⟨h, g, d, t, os⟩ := by
 have hT : (⟨h, g, d, t, os⟩ : Shared).TypeIs (.ref a) "list" := ⟨_, hx, hc⟩
 unfold Builtin.«object.__getattribute__»
 refine wpAny_bind (wpAny_of_eq (a := (.ref a, [.str "append" tk])) (by first | rfl | kernel_rfl) ?_)
 dsimp only
 refine wpAny_bind (wpAny_of_eq (a := ("append" : Str)) (by first | rfl | kernel_rfl) ?_)
 refine wpAny_bind (wpAny_typeOf hT ?_)
 refine wpAny_bind (append_find hx hc hd hdat ?_)
 dsimp only
 unfold Builtin.ObjectAttr.bindTo
 show wpAny _ _ (holding [.builtin "list.append"] (call (.builtin "method_descriptor.__get__") [.builtin "list.append", .ref a, .type "list"]) >>= ret) _ _ _
 refine wpAny_bind (wpAny_holding (wpAny_call (append_get hx hc ?_)))
 exact wpAny_pure hq
theorem entry_list_ga : entryFor table "list.__getattribute__" = some Builtin.«object.__getattribute__» :=
 entryFor_alias (id' := "object.__getattribute__") (by kernel_rfl) (by first | rfl | decide +kernel) (by decide +kernel) (by kernel_rfl)
theorem append_attr {s : Shared} (hx : s.heap.get? a = some o) (hc : o.cls = .type "list") (hd : o.dict = none) (hdat : ∀ c, o.data ≠ .cls c)
  (hq : Q (.ref s.heap.objs.size) { s with heap := s.heap.push { cls := .type "builtin_function_or_method", data := .fields #[.builtin "list.append", .ref a] }, toks := s.toks + 1 }) :
  wpAny (model prog w) A (getAttr (.ref a) "append" true) Q E s := by
 obtain ⟨h, g, d, t, os⟩ := s
 have hT : ∀ t', (⟨h, g, d, t', os⟩ : Shared).TypeIs (.ref a) "list" := fun t' => ⟨_, hx, hc⟩
 unfold getAttr
 refine wpAny_bind (wpAny_mkText ?_)
 unfold getAttrBy
 refine wpAny_holding (wpAny_bind (wpAny_typeOf (hT _) (wpAny_bind (wpAny_of_eq F.slot_list_getattribute.lookup ?_))))
 dsimp only
 rw [if_neg (by decide)]
 unfold getAttrByItsOwn
 refine wpAny_bind (wpAny_of_eq (a := none) rfl ?_)
 refine wpAny_bind ?_
 refine wpAny_attempt (wpAny_holding (show wpAny _ _ (boundAndCalled (.builtin "list.__getattribute__") (.ref a) (.str "append" t)) _ _ _ from ?_))
 unfold boundAndCalled
 refine wpAny_bind (wpAny_of_eq (F.slot_list_getattribute.bind (.ref a)) ?_)
 dsimp only
 refine wpAny_call_entry F.slot_list_getattribute (hT _) entry_list_ga (append_entry hx hc hd hdat ⟨_, rfl, ?_⟩) (F.args_list_getattribute_2 _ _)
 show wpAny _ _ (pure _) _ _ _
 exact wpAny_pure hq
theorem sig_append : ∃ sig, Manifest.signature? "list.append" = some sig ∧ ∀ a b : Value, Bind.checkArgs "list.append" { sig with full := (toString (Bind.lastOf "list") ++ toString "." ++ toString (Bind.lastOf "list.append")) } ⟨[a, b], []⟩ = pure () := by
 refine ⟨(Manifest.sig_list.lookup "append").get (by kernel_rfl), ?_, fun a b => ?_⟩
 ·rw [signature?_of (id := "list.append") (n := ['d', 'n', 'e', 'p', 'p', 'a']) (o := ['t', 's', 'i', 'l']) (by kernel_rfl) F.owner_list]
  kernel_rfl
 ·kernel_rfl
theorem bound_check {x : Value} {E : Value → Shared → Prop} {Q : Unit → Shared → Prop} {s : Shared} (hx : s.heap.get? a = some o) (hc : o.cls = .type "list") (hdat : ∀ c, o.data ≠ .cls c) (hq : Q () s) : wpAny (model prog w) A (checkBoundCall "list.append" ⟨[.ref a, x], []⟩) Q E s := by
 have hT : s.TypeIs (.ref a) "list" := ⟨_, hx, hc⟩
 obtain ⟨sig, hs, hck⟩ := sig_append
 have hk : builtinKind "list.append" = some .method := by decide +kernel
 have hv : Manifest.varargsMethods.contains "list.append" = false := by decide +kernel
 have hsub : isSubtype (.type "list") (.type "module") = pure false := by rw [isSubtype_type]; kernel_rfl
 unfold checkBoundCall
 rw [hs]
 dsimp only
 rw [hk]
 dsimp only
 rw [if_neg (by decide)]
 refine wpAny_bind (wpAny_isInstance (T := "list") (b := false) hT hsub ?_)
 rw [hv]
 rw [if_neg (by decide)]
 have ty : wpAny (model prog w) A (isType (.ref a)) (fun r s' => r = false ∧ s' = s) E s := by
  unfold isType
  refine wpAny_bind (m := loadHead a) (wpAny_loadPart hx (wpAny_pure ⟨?_, rfl⟩))
  split
  ·rename_i c hcc; exact absurd hcc (hdat c)
  ·rfl
 refine wpAny_bind (wpAny_mono ty (fun r s' hr => ?_) fun _ _ e => e)
 obtain ⟨rfl, rfl⟩ := hr
 rw [if_neg (by decide)]
 refine wpAny_bind (wpAny_typeOf hT ?_)
 dsimp only
 exact wpAny_of_eq (hck _ _) hq
theorem bound_call {b : Addr} {ob : Obj} {x : Value} {vs : Array Value} {its : Array Value} {s : Shared} {E : Value → Shared → Prop} {Q : Value → Shared → Prop} (hb : s.heap.get? b = some ob) (hcb : ob.cls = .type "builtin_function_or_method") (hdb : ob.data = .fields vs) (h0 : vs[0]? = some (.builtin "list.append")) (h1 : vs[1]? = some (.ref a))
  (hl : s.heap.PlainList a its) (hsz : its.size ≤ sizeLine) (hQ : ∀ h', h'.PlainList a (its.push x) → Heap.SameBut a s.heap h' → Q .none { s with heap := h' }) :
  wpAny (model prog w) A (call (.ref b) [x]) Q E s := by
 obtain ⟨n, ho⟩ := hl
 refine wpAny_call ?_
 refine codeAny_of_tree ?_
 show wpAny _ _ (callAny (.ref b) ⟨[x], []⟩) _ _ _
 unfold callAny
 dsimp only
 refine wpAny_bind (wpAny_load hb ?_)
 rw [hdb, hcb]
 dsimp only
 rw [if_pos (by decide), h0, h1]
 dsimp only
 rw [if_pos (by decide)]
 refine wpAny_bind (bound_check ho rfl (fun _ q => by cases q) ?_)
 refine wpAny_pure ⟨Code.quiet_builtin _ (by decide +kernel), codeAny_builtin entry_list_append ?_⟩
 show wpAny _ _ (updateSeq a (·.push x) >>= fun _ => ret .none) _ _ s
 refine wpAny_bind ?_
 refine wpAny_updateSeq ho rfl (wpAny_pure (hQ _ ⟨n + 1, ?_⟩ (Heap.SameBut.update ..)))
 rw [Heap.get?_update_self _ ho (by rw [Obj.mapSeq_push_plain]; rfl), Obj.mapSeq_push_plain]
theorem set_neg {l : Addr} {vs : List Value} {n : Nat} {k : Int} {t : Tok} {v old : Value} {s : Shared} {Q : Unit → Shared → Prop} (ho : s.heap.get? l = some { cls := .type "list", data := .seq vs.toArray n })
  (h0 : k < 0) (h1 : -(vs.toArray.size : Int) ≤ k) (hfit : -(2 ^ 63) ≤ k) (hx : vs.toArray[(k + vs.toArray.size).toNat]? = some old)
  (hQ : ∀ h' m, h'.get? l = some { cls := .type "list", data := .seq (vs.set (k + vs.toArray.size).toNat v).toArray m } → Heap.SameBut l s.heap h' → Q () { s with heap := h' }) :
  wpAny (model prog w) A (setItem (.ref l) (.int k t) v) Q E s := by
 have hl : s.heap.IsList l vs.toArray := ⟨_, ho, rfl, n, rfl⟩
 unfold setItem
 try with_reducible refine wpAny_holding ?_
 first | refine wpAny_bind (wpAny_pure ?_) | skip
 refine wpAny_bind (wpAny_sequenceKey hl.typeIs (by decide) ?_)
 refine wpAny_bind (wpAny_callSpecial?_slot (name := Str.ofString "__setitem__") hl.typeIs slot_list_setitem
  (wpAny_call_entry slot_list_setitem hl.typeIs entry_list_setitem ?_ (args_list_setitem _ _ _)))
 show wpAny _ _ (Builtin.List.listSubscript? (.int k t) >>= _) _ _ s
 refine wpAny_bind (wpAny_listSubscript_int (fitsIndex_neg h0 hfit) ?_)
 clear hfit
 have hidx := seqIndex_neg h0 h1
 obtain ⟨j, rfl⟩ : ∃ j : Nat, k = Int.negSucc j := by
  cases k with
  | ofNat n => exact absurd h0 (Int.not_lt.mpr (Int.natCast_nonneg n))
  | negSucc n => exact ⟨n, rfl⟩
 show wpAny _ _ ((Builtin.List.listItems (.ref l) >>= fun xs => pure ((seqIndex? (Int.negSucc j) xs.size).bind fun i => xs[i]?.map (i, ·))) >>= _) _ _ s
 refine wpAny_bind (wpAny_bind ?_)
 show wpAny _ _ (seqItems? (.ref l) >>= _) _ _ s
 refine wpAny_bind (wpAny_seqItems ho rfl (wpAny_pure (wpAny_pure ?_)))
 rw [hidx]
 simp only [Option.bind_some, hx, Option.map_some]
 obtain ⟨m, hm⟩ : ∃ m, Obj.mapSeq (·.setIfInBounds (Int.negSucc j + vs.toArray.size).toNat v) { cls := .type "list", data := .seq vs.toArray n } = { cls := .type "list", data := .seq (vs.toArray.setIfInBounds (Int.negSucc j + vs.toArray.size).toNat v) m } := ⟨_, rfl⟩
 have hfin : (s.heap.update l (Obj.mapSeq (·.setIfInBounds (Int.negSucc j + vs.toArray.size).toNat v))).get? l = some { cls := .type "list", data := .seq (vs.set (Int.negSucc j + vs.toArray.size).toNat v).toArray m } := by
  rw [Heap.get?_update_self _ ho (by rw [hm]; rfl), hm, List.setIfInBounds_toArray]
 refine wpAny_bind (wpAny_setSeqItemAt ho rfl ?_)
 first
  | exact wpAny_bind (wpAny_pure (wpAny_pure ⟨.none, rfl, wpAny_pure (hQ _ _ hfin (Heap.SameBut.update ..))⟩))
  | exact wpAny_pure ⟨.none, rfl, wpAny_pure (hQ _ _ hfin (Heap.SameBut.update ..))⟩
end
end Mine
namespace Mine
open PySem PySem.Calls PyProof.Rows PySem.W
section
variable {G : Gd} {k : Nat} {A : Around} {Xc Y Y' : List Addr} {s s' : Shared} {env : Env} {K : Kn} {ρ : Rho}
theorem own_at {X h m W} (e : EnvAt G env K X h ρ m W) {x : Str} {ds : List D} (hl : ρ.lookup x = some (.own ds)) : ∃ a vs n, W x = some a ∧ Holds h env m x (.ref a) ∧ a ∈ X ∧ h.get? a = some (lstObj vs n) ∧ RdL G.C X h ds vs := by
 rcases e.vars x _ hl with q | ⟨v, q, b⟩
 ·cases q
 ·obtain ⟨a, vs, n, e1, rfl, e3, e4, e5⟩ := b
  exact ⟨a, vs, n, e1, q, e3, e4, e5⟩
theorem load_raw (ek : EnvK env K) {m} (hn : s.heap.Ns env.locals m) {x : Str} {p : Pos} {v : Value} (h : Holds s.heap env m x v) (h1 : (x == ("__debug__" : Str)) = false) (h2 : (x == ("__classdict__" : Str)) = false) {Q : Value → Shared → Prop} {E} (hq : Q v s) :
  wpAny (model G.prog G.w) A (eval (.Name x p) env) Q E s := by
 refine wpAny_Name ?_ h1
 rcases h with ⟨hk, hm⟩ | ⟨hk | hk, cc, hc, hv⟩
 ·exact wpAny_loadName_local ek.kind hk hn hm hq
 ·exact wpAny_loadName_cell ek.kind hk hc hv hq
 ·exact wpAny_loadName_free ek.kind hk hc hv hq h2
theorem mutate (c : StC G k A Xc Y s env K ρ) {m W} (e : EnvAt G env K (Y ++ Xc) s.heap ρ m W) (hW : ∀ x a, W x = some a → a ∈ Y) {x : Str} {a : Addr} {vs vs' : List Value} {n n' : Nat} {ds' : List D} {ds : List D} (hl : ρ.lookup x = some (.own ds)) (hx : W x = some a) (hg : s.heap.get? a = some (lstObj vs n))
  {h' : Heap} {t : Nat} (hs : Heap.SameBut a s.heap h') (hg' : h'.get? a = some (lstObj vs' n')) (rl : RdL G.C (Y ++ Xc) s.heap ds' vs') :
  Stp G Y s Y { s with heap := h', toks := t } ∧ StC G k A Xc Y { s with heap := h', toks := t } env K (setV ρ x (.own ds')) := by
 have aY : a ∈ Y := hW x a hx
 have nT : NT s.heap a := c.nt a aY
 have nt' : NT h' a := ⟨_, hg', zI⟩
 have up : ∀ b o, b ∉ Y ++ Xc → s.heap.get? b = some o → h'.get? b = some o := fun b o hb e => SameBut.up hs (fun q => hb (by rw [q]; exact List.mem_append_left _ aY)) e
 have stp : Stp G Y s Y { s with heap := h', toks := t } := ⟨fun _ h => h, fun _ h => .inl h, (GrB.same hs nT).mono fun y hy => by rw [List.mem_singleton.mp hy]; exact aY⟩
 have cellUp : ∀ cc u, s.heap.IsCell cc u → h'.IsCell cc u := fun cc u q => IsCell.at' q fun o e => SameBut.up hs (fun z => by
  subst z
  obtain ⟨o', ho', hd'⟩ := q
  rw [hg] at ho'; cases ho'; cases hd') e
 have nl : env.locals ≠ a := fun q => by
  subst q
  obtain ⟨o, es, ep, ho, hd, _⟩ := e.ns
  rw [hg] at ho; cases ho; cases hd
 refine ⟨stp, c.room, stp.cx c.cx c.hbY, c.xok.same hs nt', c.xc, ⟨m, W, ⟨e.k, e.ns.at' fun o e => SameBut.up hs nl e, e.inj, fun y d' hy => ?_⟩, hW⟩, c.loc, ?_, c.apart, fun y hy => (c.nt y hy).same hs nt', c.dis, c.hbY, c.celX, c.noFree⟩
 ·rw [setV_lookup] at hy
  have hold : ∀ u, Holds s.heap env m y u → Holds h' env m y u := fun u q => by
   rcases q with q | ⟨q1, cc, q2, q3⟩
   ·exact .inl q
   ·exact .inr ⟨q1, cc, q2, cellUp _ _ q3⟩
  by_cases hyx : y = x
  ·subst hyx
   rw [if_pos rfl, hl] at hy
   cases hy
   rcases e.vars y _ hl with q | ⟨u, q, b⟩
   ·cases q
   ·obtain ⟨a', us, j, e1, rfl, e3, e4, e5⟩ := b
    rw [hx] at e1; cases e1
    exact .inr ⟨_, hold _ q, a, vs', n', hx, rfl, e3, hg', rl.imp fun b o hb e => ⟨hb, up b o hb e⟩⟩
  ·rw [if_neg hyx] at hy
   rcases e.vars y d' hy with q | ⟨u, q, b⟩
   ·exact .inl q
   ·refine .inr ⟨u, hold _ q, ?_⟩
    cases d' with
    | own es =>
     obtain ⟨a', us, j, e1, e2, e3, e4, e5⟩ := b
     have : a' ≠ a := fun z => hyx (e.inj y x a (z ▸ e1) hx)
     exact ⟨a', us, j, e1, e2, e3, SameBut.up hs this e4, e5.imp fun b o hb e => ⟨hb, up b o hb e⟩⟩
    | app z =>
     obtain ⟨a', b, e1, e2, e3, o, us, hgb, r⟩ := b
     exact ⟨a', b, e1, e2, e3, o, us, up b o e3 hgb, r⟩
    | _ => exact Rd.imp (fun b o hb e => ⟨hb, up b o hb e⟩) b
 ·intro y cc h1 h2
  obtain ⟨q, u, z⟩ := c.cel y cc h1 h2
  exact ⟨q, u, cellUp _ _ z⟩
end
inductive Out where
 | next (ρ : Rho)
 | brk (ρ : Rho)
 | ret (d : D)
def storable (K : Kn) (x : Str) : Bool := match K.lookup x with | some .local => true | some .cell => true | _ => false
def stD (ρ : Rho) (x : Str) (d : D) : Rho := setV (dropApp ρ x) x d
def zO (x : Str) : Bool := !((x == ("__debug__" : Str)) || (x == ("__classdict__" : Str)))
def whD (ts : Rho → Option Bool) (ex : Rho → Option Out) : Nat → Rho → Option Out
 | 0, _ => none
 | n + 1, ρ => (match ts ρ with
  | some true => (match ex ρ with | some (.next ρ') => whD ts ex n ρ' | some (.brk ρ') => some (.next ρ') | some (.ret d) => some (.ret d) | none => none)
  | some false => some (.next ρ)
  | none => none)
def forD (ex : Rho → Option Out) (x : Str) : List D → Rho → Option Out
 | [], ρ => some (.next ρ)
 | d :: ds, ρ => (match d.pure with
  | true => (match ex (stD ρ x d) with | some (.next ρ') => forD ex x ds ρ' | some (.brk ρ') => some (.next ρ') | some (.ret d) => some (.ret d) | none => none)
  | false => none)
def loopD : Nat := 1000000
def ret1 (ev : Expr → Option D) (ρ : Rho) (e : Expr) : Option Out := match (match e with
  | .Name x _ => (match ρ.lookup x with | some (.own ds) => (match zO x with | true => some ds | false => none) | _ => none)
  | _ => none : Option (List D)) with
 | some ds => some (.ret (.lst ds))
 | none => (match ev e with | some d => (match d.pure with | true => some (.ret d) | false => none) | none => none)
mutual
def exD (cf : Cf) (mu : List Str) : Nat → Kn → Rho → Stmt → Option Out
 | 0, _, _, _ => none
 | n + 1, K, ρ, st => match st with
  | .Assign [.Name x _] v _ => (match storable K x with
   | true => (match v with
    | .List es p => (match mu.contains x with
     | true => (match evL cf n K ρ es with | some ds => (match (ds.all D.pure && Nat.ble ds.length bigD) with | true => some (.next (stD ρ x (.own ds))) | false => none) | none => none)
     | false => (match evD cf (n + 1) K ρ (.List es p) with | some d => (match d.pure with | true => some (.next (stD ρ x d)) | false => none) | none => none))
    | .Attribute (.Name r p) nm q => (match (nm == ("append" : Str)) with
     | true => (match ρ.lookup r with | some (.own _) => (match (zO r && (r != x)) with | true => some (.next (stD ρ x (.app r))) | false => none) | _ => none)
     | false => (match evD cf (n + 1) K ρ (.Attribute (.Name r p) nm q) with | some d => (match d.pure with | true => some (.next (stD ρ x d)) | false => none) | none => none))
    | .ListComp e gs c p => (match K.lookup x with
     | some .cell => (match evD cf (n + 1) K ρ (.ListComp e gs c p) with | some d => (match d.pure with | true => some (.next (stD ρ x d)) | false => none) | none => none)
     | _ => none)
    | v => (match evD cf (n + 1) K ρ v with | some d => (match d.pure with | true => some (.next (stD ρ x d)) | false => none) | none => none))
   | false => none)
  | .Assign [.Tuple [.Name x px, .Name y py] _ _] (.Tuple [a, .Call f as ks p] _ _) _ => (match ((K.lookup x == some .local) && (K.lookup y == some .local) && (px.line == py.line) && (x != y)) with
   | true => (match evD cf n K ρ a with
    | some da => (match evD cf n K ρ (.Call f as ks p) with
     | some db => (match (da.pure && db.pure) with | true => some (.next (stD (stD ρ y db) x da)) | false => none)
     | none => none)
    | none => none)
   | false => none)
  | .AugAssign (.Name x p) .Add e _ => (match (storable K x && zO x) with
   | true => (match evD cf (n + 1) K ρ (.Name x p) with
    | some (.int i) => (match evD cf n K ρ e with | some (.int j) => some (.next (stD ρ x (.int (i + j)))) | _ => none)
    | _ => none)
   | false => none)
  | .AugAssign (.Subscript (.Name x _) i _) .Add e _ => (match ρ.lookup x with
   | some (.own ds) => (match (zO x && Nat.ble ds.length bigD) with
    | true => (match evD cf n K ρ i with
     | some (.int k) => (match (decide (k < 0) && decide (0 ≤ k + ds.length)) with
      | true => (match ds[(k + ds.length).toNat]? with
       | some (.str z) => (match evD cf n K ρ e with
        | some (.str y) => (match Nat.ble (z.length + y.length) bigD with | true => some (.next (setV ρ x (.own (ds.set (k + ds.length).toNat (.str (z ++ y)))))) | false => none)
        | _ => none)
       | _ => none)
      | false => none)
     | _ => none)
    | false => none)
   | _ => none)
  | .If t b o _ => (match tsD cf n K ρ t with | some true => exL cf mu n K ρ b | some false => exL cf mu n K ρ o | none => none)
  | .While t b [] _ => whD (fun ρ => tsD cf n K ρ t) (fun ρ => exL cf mu n K ρ b) loopD ρ
  | .For (.Name x _) it b [] _ => (match storable K x with
   | true => (match evD cf n K ρ it with
    | some d => (match itemsD d with | some ds => forD (fun ρ => exL cf mu n K ρ b) x ds ρ | none => none)
    | none => none)
   | false => none)
  | .Return (some (.IfExp t b o _)) _ => (match tsD cf n K ρ t with
   | some true => ret1 (evD cf n K ρ) ρ b
   | some false => ret1 (evD cf n K ρ) ρ o
   | none => none)
  | .Return (some e) _ => ret1 (evD cf n K ρ) ρ e
  | .Expr (.Call (.Attribute (.Name x _) nm apos) [a] [] cpos) _ => (match ((nm == ("append" : Str)) && (apos.endLine == cpos.line) && zO x) with
   | true => (match ρ.lookup x with
    | some (.own ds) => (match evD cf n K ρ a with | some d => (match (d.pure && Nat.ble ds.length bigD) with | true => some (.next (setV ρ x (.own (ds ++ [d])))) | false => none) | none => none)
    | _ => none)
   | false => none)
  | .Expr (.Call (.Name f _) [a] [] _) _ => (match zO f with
   | true => (match ρ.lookup f with
    | some (.app x) => (match ρ.lookup x with
     | some (.own ds) => (match evD cf n K ρ a with | some d => (match (d.pure && Nat.ble ds.length bigD) with | true => some (.next (setV ρ x (.own (ds ++ [d])))) | false => none) | none => none)
     | _ => none)
    | _ => none)
   | false => none)
  | .Assert t none _ => (match tsD cf n K ρ t with | some true => some (.next ρ) | _ => none)
  | .Break _ => some (.brk ρ)
  | _ => none
def exL (cf : Cf) (mu : List Str) : Nat → Kn → Rho → List Stmt → Option Out
 | 0, _, _, _ => none
 | n + 1, K, ρ, ss => match ss with
  | [] => some (.next ρ)
  | st :: ss => (match exD cf mu n K ρ st with | some (.next ρ') => exL cf mu n K ρ' ss | o => o)
end
end Mine
namespace Mine
open PySem PySem.Calls PyProof.Rows PySem.W
def PostX (G : Gd) (k : Nat) (A : Around) (Xc : List Addr) (env : Env) (K : Kn) (Y : List Addr) (s : Shared) (o : Out) (f : Flow) (s' : Shared) : Prop := ∃ Y', Stp G Y s Y' s' ∧ match o with
 | .next ρ' => f = .next ∧ StC G k A Xc Y' s' env K ρ'
 | .brk ρ' => f = .brk ∧ StC G k A Xc Y' s' env K ρ'
 | .ret d => ∃ v, f = .ret v ∧ Rd G.C Xc s'.heap d v
def ExS (G : Gd) (k : Nat) (K : Kn) (ρ : Rho) (st : Stmt) (o : Out) : Prop := ∀ A Xc Y s env, StC G k A Xc Y s env K ρ → ∀ E, wpAny (model G.prog G.w) A (exec st env) (PostX G k A Xc env K Y s o) E s
def ExL (G : Gd) (k : Nat) (K : Kn) (ρ : Rho) (ss : List Stmt) (o : Out) : Prop := ∀ A Xc Y s env, StC G k A Xc Y s env K ρ → ∀ E, wpAny (model G.prog G.w) A (execs ss env) (PostX G k A Xc env K Y s o) E s
section
variable {G : Gd} {k n : Nat} {cf : Cf} {mu : List Str} {K : Kn} {ρ : Rho} {A : Around} {Xc Y Y' : List Addr} {s s' : Shared} {env : Env}
theorem PostX.pre {Y₁ : List Addr} {s₁ : Shared} {o : Out} {f : Flow} (ti : G.TI s.heap) (t : Stp G Y s Y₁ s₁) (p : PostX G k A Xc env K Y₁ s₁ o f s') : PostX G k A Xc env K Y s o f s' := by
 obtain ⟨Y', t', h⟩ := p
 exact ⟨Y', t.trans ti t', h⟩
theorem plainName_parts {x : Str} (h : zO x = true) : (x == ("__debug__" : Str)) = false ∧ (x == ("__classdict__" : Str)) = false := by
 unfold zO at h
 simpa using h
theorem storable_parts {x : Str} (h : storable K x = true) : K.lookup x = some .local ∨ K.lookup x = some .cell := by
 unfold storable at h
 split at h
 ·rename_i q; exact .inl q
 ·rename_i q; exact .inr q
 ·cases h
theorem x_assign (ok : CfOk G cf k) {x : Str} {px pos : Pos} {v : Expr} {d : D} (hk : storable K x = true) (hd : evD cf n K ρ v = some d) (hp : d.pure = true) (hs : ∀ env : Env, EnvK env K → swapsWith v (some (.Name x px)) pos.line env = pure false) :
  ExS G k K ρ (.Assign [.Name x px] v pos) (.next (stD ρ x d)) := by
 intro A Xc Y s env c E
 refine wpAny_Assign_Name (((sound ok n).ev _ _ _ _ hd A _ s env c.cxt).post fun vv s₁ g r => ?_) (hs env c.cxt.env.k)
 have c₁ := c.gr g
 exact store_ok c₁ (storable_parts hk) (r.rd hp) fun s₂ t c₂ => ⟨Y, (Stp.gr g).trans c.cx.ti t, rfl, c₂⟩
theorem evD_swaps {v : Expr} {d : D} (h : evD cf n K ρ v = some d) (hn : ∀ a b c e, v ≠ .ListComp a b c e) (t : Expr) (l : Nat) (env : Env) : swapsWith v (some t) l env = pure false := by
 cases n with
 | zero => unfold evD at h; cases h
 | succ n => cases v <;> first | rfl | exact absurd rfl (hn _ _ _ _) | (unfold evD at h; cases h)
theorem x_own (ok : CfOk G cf k) {x : Str} {px pos p : Pos} {es : List Expr} {ds : List D} (hk : storable K x = true) (hd : evL cf n K ρ es = some ds) (hp : (ds.all D.pure && Nat.ble ds.length bigD) = true) :
  ExS G k K ρ (.Assign [.Name x px] (.List es p) pos) (.next (stD ρ x (.own ds))) := by
 intro A Xc Y s env c E
 obtain ⟨h1, h2⟩ := pure_all hp
 refine wpAny_Assign_Name (List_ (wpAny_mono ((sound ok n).ls _ _ _ _ hd A _ s env p c.cxt E) (fun vs s₁ h₁ => ?_) fun _ _ e => e))
 obtain ⟨g, r⟩ := h₁
 have c₁ := c.gr g
 have rl := forall2_pure r h1
 refine wpAny_newObj_type ?_ ?_
 ·exact store_own c₁ (s₁ := { s₁ with heap := s₁.heap.push (lstObj vs 0) }) Gr.push' (storable_parts hk) (zL (o := lstObj vs 0)) (Heap.get?_push_size _ rfl) rl fun s₂ t c₂ => ⟨_, (Stp.gr g).trans c.cx.ti t, rfl, c₂⟩
 ·show vs.toArray.size ≤ sizeLine
  rw [List.size_toArray, rl.length]; exact h2
theorem x_ret1 (ok : CfOk G cf k) {e : Expr} {o : Out} (h : ret1 (evD cf n K ρ) ρ e = some o) (c : StC G k A Xc Y s env K ρ) {E : Value → Shared → Prop} :
  wpAny (model G.prog G.w) A (eval e env) (fun v s' => PostX G k A Xc env K Y s o (.ret v) s') E s := by
 unfold ret1 at h
 split at h
 ·rename_i ds hds
  cases h
  split at hds
  ·rename_i x p
   split at hds
   ·rename_i es hl
    split at hds
    ·rename_i hpn
     cases hds
     obtain ⟨m, W, ea, hW⟩ := c.ex
     obtain ⟨a, vs, j, e1, e2, e3, e4, e5⟩ := own_at ea hl
     obtain ⟨n1, n2⟩ := plainName_parts hpn
     refine load_raw ea.k ea.ns e2 n1 n2 ⟨Y, Stp.refl, _, rfl, Rd.lst' (c.dis a (hW _ _ e1)) e4 (e5.less fun b hb => List.mem_append_right _ hb)⟩
    ·cases hds
   ·cases hds
  ·cases hds
 ·split at h
  ·rename_i d hd
   split at h
   ·rename_i hp
    cases h
    refine ((sound ok n).ev _ _ _ _ hd A _ s env c.cxt).post fun v s₁ g r => ?_
    exact ⟨Y, Stp.gr g, v, rfl, (r.rd hp).less fun b hb => List.mem_append_right _ hb⟩
   ·cases h
  ·cases h
theorem x_ret (ok : CfOk G cf k) {e : Expr} {pos : Pos} {o : Out} (h : ret1 (evD cf n K ρ) ρ e = some o) : ExS G k K ρ (.Return (some e) pos) o := by
 intro A Xc Y s env c E
 exact wpAny_Return_some (x_ret1 ok h c)
theorem x_retIf (ok : CfOk G cf k) {t b e : Expr} {p pos : Pos} {o : Out} (h : (match tsD cf n K ρ t with | some true => ret1 (evD cf n K ρ) ρ b | some false => ret1 (evD cf n K ρ) ρ e | none => none) = some o) : ExS G k K ρ (.Return (some (.IfExp t b e p)) pos) o := by
 intro A Xc Y s env c E
 refine wpAny_Return_some (IfExp_ ?_)
 split at h
 ·rename_i ht
  refine ((sound ok n).ts _ _ _ _ ht).post c.cxt fun s₁ g₁ => ?_
  simp only [if_true]
  exact wpAny_mono (x_ret1 ok h (c.gr g₁)) (fun v s' p => p.pre c.cx.ti (Stp.gr g₁)) fun _ _ e => e
 ·rename_i ht
  refine ((sound ok n).ts _ _ _ _ ht).post c.cxt fun s₁ g₁ => ?_
  simp only [Bool.false_eq_true, if_false]
  exact wpAny_mono (x_ret1 ok h (c.gr g₁)) (fun v s' p => p.pre c.cx.ti (Stp.gr g₁)) fun _ _ e => e
 ·cases h
theorem x_if (ok : CfOk G cf k) {t : Expr} {b e : List Stmt} {pos : Pos} {o : Out} {c : Bool} (ht : tsD cf n K ρ t = some c) (hb : ExL G k K ρ (if c then b else e) o) : ExS G k K ρ (.If t b e pos) o := by
 intro A Xc Y s env st E
 refine wpAny_If (((sound ok n).ts _ _ _ _ ht).post st.cxt fun s₁ g₁ => ?_)
 have := wpAny_mono (hb A Xc Y s₁ env (st.gr g₁) E) (fun v s' p => p.pre st.cx.ti (Stp.gr g₁)) fun _ _ e => e
 cases c <;> exact this
theorem x_assert (ok : CfOk G cf k) {t : Expr} {pos : Pos} (ht : tsD cf n K ρ t = some true) : ExS G k K ρ (.Assert t none pos) (.next ρ) := by
 intro A Xc Y s env st E
 exact wpAny_Assert_holds (((sound ok n).ts _ _ _ _ ht).post st.cxt fun s₁ g₁ => ⟨rfl, Y, Stp.gr g₁, rfl, st.gr g₁⟩)
theorem x_break {pos : Pos} : ExS G k K ρ (.Break pos) (.brk ρ) := by
 intro A Xc Y s env st E
 exact wpAny_Break ⟨Y, Stp.refl, rfl, st⟩
theorem x_aug (ok : CfOk G cf k) {x : Str} {p pos : Pos} {e : Expr} {i j : Int} (hk : storable K x = true) (hpn : zO x = true) (hx : evD cf (n + 1) K ρ (.Name x p) = some (.int i)) (he : evD cf n K ρ e = some (.int j)) :
  ExS G k K ρ (.AugAssign (.Name x p) .Add e pos) (.next (stD ρ x (.int (i + j)))) := by
 intro A Xc Y s env c E
 have hl : ρ.lookup x = some (.int i) ∨ ρ.lookup x = none := by
  unfold evD at hx; dsimp only at hx
  split at hx
  ·cases hx
  ·split at hx
   ·rename_i d hl
    split at hx
    ·cases hx
    ·cases hx
    ·cases hx; exact .inl hl
   ·rename_i hl; exact .inr hl
 rcases hl with hl | hl
 ·obtain ⟨m, W, ea, hW⟩ := c.ex
  rcases ea.vars x _ hl with q | ⟨v, q, b⟩
  ·cases q
  ·have rv : Rv G.C (Y ++ Xc) s.heap (.int i) v := b.rv (by simp)
   obtain ⟨t, rfl⟩ := rv.int
   have ld : ∀ Q : Value → Shared → Prop, Q (.int i t) s → wpAny (model G.prog G.w) A (loadName env x) Q E s := by
    intro Q hq
    obtain ⟨n1, n2⟩ := plainName_parts hpn
    rcases q with ⟨hk, hm⟩ | ⟨hk | hk, cc, hc, hv⟩
    ·exact wpAny_loadName_local ea.k.kind hk ea.ns hm hq
    ·exact wpAny_loadName_cell ea.k.kind hk hc hv hq
    ·exact wpAny_loadName_free ea.k.kind hk hc hv hq n2
   refine wpAny_AugAssign_Name (ld _ (((sound ok n).ev _ _ _ _ he A _ s env c.cxt).post fun v s₁ g r => ?_))
   obtain ⟨u, rfl⟩ := r.int
   have c₁ := c.gr g
   refine AutoIntOps.iadd_0 ?_
   have g₂ : Gr G s₁ { s₁ with toks := s₁.toks + 1 } := Gr.tok
   exact store_ok (c₁.gr g₂) (storable_parts hk) Rd.int' fun s₂ t c₂ => ⟨Y, ((Stp.gr g).trans c.cx.ti (Stp.gr g₂)).trans c.cx.ti t, rfl, c₂⟩
 ·exfalso
  have := storable_parts hk
  unfold evD at hx; dsimp only at hx
  split at hx
  ·cases hx
  ·rw [hl] at hx
   dsimp only at hx
   rcases this with q | q <;> rw [q] at hx <;> cases hx
theorem x_append (ok : CfOk G cf k) {x : Str} {xp apos cpos pos : Pos} {a : Expr} {ds : List D} {d : D} (hp : (apos.endLine == cpos.line) = true) (hpn : zO x = true) (hl : ρ.lookup x = some (.own ds)) (ha : evD cf n K ρ a = some d) (hd : (d.pure && Nat.ble ds.length bigD) = true) :
  ExS G k K ρ (.Expr (.Call (.Attribute (.Name x xp) "append" apos) [a] [] cpos) pos) (.next (setV ρ x (.own (ds ++ [d])))) := by
 intro A Xc Y s env c E
 rw [Bool.and_eq_true] at hd
 obtain ⟨m, W, ea, hW⟩ := c.ex
 obtain ⟨l, vs, j, e1, e2, e3, e4, e5⟩ := own_at ea hl
 obtain ⟨n1, n2⟩ := plainName_parts hpn
 refine wpAny_Expr (wpAny_Call_method_lateS rfl ?_ hp (load_raw ea.k ea.ns e2 n1 n2 ?_)) (by unfold interactive; rw [ea.k.kind]; rfl) rfl
 ·rw [evD_star ha]; rfl
 ·rw [evD_star ha]
  refine ⟨"list", "list.append", F.plainAttrs_list, slot_list_append, F.type_list_append, ⟨_, e4, rfl⟩, (fun a q => by cases q; exact ⟨_, e4, rfl⟩), callWith_builtin rfl (evalArgs_plain (spliced_cons (((sound ok n).ev _ _ _ _ ha A _ s env c.cxt).post fun v s₁ g r => spliced_nil ?_)))⟩
  have c₁ := c.gr g
  have ea₁ := ea.gr c.xok c.cx g
  have hg₁ := g.heap _ _ (c.cx.notTab e4 zI) e4
  have rl := (e5.gr c.xok.tabs g).append (.cons (r.rd hd.1) .nil)
  refine wpAny_list_append_plain (items := vs.toArray) ⟨j, hg₁⟩ (fun h' hl' hs' => ?_) (by rw [size_arr, e5.length]; exact (big63 hd.2).2.2)
  obtain ⟨j', hj⟩ := hl'
  obtain ⟨t, c₂⟩ := mutate (t := s₁.toks) (vs' := vs ++ [v]) (n' := j') c₁ ea₁ hW hl e1 hg₁ hs' (by rw [hj]; simp) rl
  exact ⟨Y, (Stp.gr g).trans c.cx.ti t, rfl, c₂⟩
theorem callWith_bound {M : Model} {b : Addr} {ob : Obj} {us : Array Value} {pos : Pos} {e : Expr} {E : Value → Shared → Prop} {Q : Value → Shared → Prop} (hb : s.heap.get? b = some ob) (hc : ob.cls = .type "builtin_function_or_method") (hd : ob.data = .fields us)
  (he : starEach [e] env = (false, eval e env) :: starEach [] env) (h : wpAny M A (eval e env) (fun v s₁ => s₁.heap.get? b = some ob ∧ wpAny M A (call (.ref b) [v]) Q E s₁) E s) :
  wpAny M A (callWith pos (.ref b) [] (backTo pos (starEach [e] env)) []) Q E s := by
 rw [he]
 show wpAny M A (callWith pos (.ref b) [] [(false, eval e env)] []) Q E s
 unfold callWith
 refine wpAny_bind (wpAny_holding (evalArgs_plain (spliced_cons (wpAny_mono h (fun v s₁ h₁ => spliced_nil (wpAny_bind (wpAny_standAt ?_))) fun _ _ x => x))))
 have kp : wpAny M A (keeperOf (.ref b)) (fun r s' => r = .machine ∧ s' = s₁) E s₁ := by
  unfold keeperOf
  refine wpAny_bind (wpAny_load h₁.1 ?_)
  rw [hd]
  dsimp only
  rw [hc, if_pos (by decide), if_pos (by decide)]
  exact wpAny_pure ⟨rfl, rfl⟩
 refine wpAny_bind (wpAny_mono kp (fun r s' hr => ?_) fun _ _ x => x)
 obtain ⟨rfl, rfl⟩ := hr
 exact wpAny_bind (wpAny_mono h₁.2 (fun r s₂ hr => wpAny_bind (wpAny_holding (wpAny_point (wpAny_pure hr)))) fun _ _ x => x)
theorem x_add (ok : CfOk G cf k) {f x : Str} {fp cpos pos : Pos} {a : Expr} {ds : List D} {d : D} (hpn : zO f = true) (hf : ρ.lookup f = some (.app x)) (hl : ρ.lookup x = some (.own ds)) (ha : evD cf n K ρ a = some d) (hd : (d.pure && Nat.ble ds.length bigD) = true) :
  ExS G k K ρ (.Expr (.Call (.Name f fp) [a] [] cpos) pos) (.next (setV ρ x (.own (ds ++ [d])))) := by
 intro A Xc Y s env c E
 rw [Bool.and_eq_true] at hd
 obtain ⟨m, W, ea, hW⟩ := c.ex
 obtain ⟨l, vs, j, e1, e2, e3, e4, e5⟩ := own_at ea hl
 obtain ⟨n1, n2⟩ := plainName_parts hpn
 rcases ea.vars f _ hf with q | ⟨fv, q, b⟩
 ·cases q
 obtain ⟨l', bb, f1, rfl, f3, ob, us, f4, f5, f6, f7, f8⟩ := b
 rw [e1] at f1; cases f1
 refine wpAny_Expr (PyProof.Rows.Call_ (load_raw ea.k ea.ns q n1 n2 ?_)) (by unfold interactive; rw [ea.k.kind]; rfl) rfl
 refine callWith_bound f4 f5 f6 (evD_star ha [] env) (((sound ok n).ev _ _ _ _ ha A _ s env c.cxt).post fun v s₁ g r => ?_)
 have c₁ := c.gr g
 have ea₁ := ea.gr c.xok c.cx g
 have hg₁ := g.heap _ _ (c.cx.notTab e4 zI) e4
 have hb₁ := g.heap _ _ (fun q => f3 (c.xok.tabs _ q)) f4
 have rl := (e5.gr c.xok.tabs g).append (.cons (r.rd hd.1) .nil)
 refine ⟨hb₁, bound_call hb₁ f5 f6 f7 f8 ⟨j, hg₁⟩ (by rw [size_arr, e5.length]; exact (big63 hd.2).2.2) fun h' hl' hs' => ?_⟩
 obtain ⟨j', hj⟩ := hl'
 obtain ⟨t, c₂⟩ := mutate (t := s₁.toks) (vs' := vs ++ [v]) (n' := j') c₁ ea₁ hW hl e1 hg₁ hs' (by rw [hj]; simp) rl
 exact ⟨Y, (Stp.gr g).trans c.cx.ti t, rfl, c₂⟩
end
end Mine
namespace Mine
open PySem PySem.Calls PyProof.Rows PySem.W
section
variable {G : Gd} {k n : Nat} {cf : Cf} {mu : List Str} {K : Kn} {ρ : Rho} {A : Around} {Xc Y Y' : List Addr} {s s' : Shared} {env : Env}
theorem x_takeApp {x r : Str} {px rp p pos : Pos} {ds : List D} (hk : storable K x = true) (hl : ρ.lookup r = some (.own ds)) (hpn : (zO r && (r != x)) = true) :
  ExS G k K ρ (.Assign [.Name x px] (.Attribute (.Name r rp) "append" p) pos) (.next (stD ρ x (.app r))) := by
 intro A Xc Y s env c E
 rw [Bool.and_eq_true] at hpn
 obtain ⟨n1, n2⟩ := plainName_parts hpn.1
 have hrx : r ≠ x := by simpa using hpn.2
 obtain ⟨m, W, ea, hW⟩ := c.ex
 obtain ⟨l, vs, j, e1, e2, e3, e4, e5⟩ := own_at ea hl
 refine wpAny_Assign_Name ?_
 rw [arm_eval_Attribute]
 refine wpAny_bind (load_raw ea.k ea.ns e2 n1 n2 (wpAny_bind (wpAny_standAt ?_)))
 refine wpAny_bind (wpAny_holding (append_attr e4 rfl rfl (fun _ q => by cases q) (wpAny_bind (wpAny_letTemporaryGo (wpAny_pure ?_)))))
 generalize hob : ({ cls := .type "builtin_function_or_method", data := .fields #[.builtin "list.append", .ref l] } : Obj) = ob
 have g : Gr G s { s with heap := s.heap.push ob, toks := s.toks + 1 } := Gr.push
 have c₁ := c.gr g
 have ea₁ := ea.gr c.xok c.cx g
 have fresh : s.heap.objs.size ∉ Y ++ Xc := new_fresh c.xok
 have hb : (s.heap.push ob).get? s.heap.objs.size = some ob := Heap.get?_push_size _ (by rw [← hob]; rfl)
 refine store_raw c₁ (storable_parts hk) ea₁.ns fun T h' m' t hT hs nt hn' hm hv kc kce hnl => ?_
 have nT : NT (s.heap.push ob) T := c₁.nt T hT
 have up : ∀ b o, b ∉ Y ++ Xc → (s.heap.push ob).get? b = some o → h'.get? b = some o := fun b o hb e => SameBut.up hs (fun q => hb (by rw [q]; exact List.mem_append_left _ hT)) e
 have stp : Stp G Y { s with heap := s.heap.push ob, toks := s.toks + 1 } Y { s with heap := h', toks := t } := ⟨fun _ h => h, fun _ h => .inl h, (GrB.same (s := { s with heap := s.heap.push ob, toks := s.toks + 1 }) hs nT).mono fun y hy => by rw [List.mem_singleton.mp hy]; exact hT⟩
 refine ⟨Y, (Stp.gr g).trans c.cx.ti stp, rfl, ⟨c.room, stp.cx c₁.cx c.hbY, c₁.xok.same hs nt, c.xc, ⟨m', (fun y => if y = x then none else W y), ?_, ?_⟩, c.loc, ?_, c.apart, ?_, c.dis, c.hbY, c.celX, c.noFree⟩⟩
 ·refine ea₁.store hn' hm (fun y hy => by simp [hy]) ?_ kc (fun b o hb e => ⟨hb, up b o hb e⟩) (fun y a vs n hy hwa hx hg => ⟨hx, SameBut.up hs (hnl _ _ _ hg) hg⟩) hv ?_
  ·intro y z a h1 h2
   by_cases hy : y = x
   ·simp [hy] at h1
   ·by_cases hz : z = x
    ·simp [hz] at h2
    ·simp only [hy, hz, if_false] at h1 h2; exact ea.inj y z a h1 h2
  ·exact ⟨l, s.heap.objs.size, by simp [hrx, e1], rfl, fresh, ob, _, up _ _ fresh hb, by rw [← hob], by rw [← hob], rfl, rfl⟩
 ·intro y a hy
  by_cases q : y = x
  ·simp [q] at hy
  ·simp only [q, if_false] at hy; exact hW y a hy
 ·intro y cc h1 h2
  obtain ⟨a, u⟩ := c₁.cel y cc h1 h2
  exact ⟨a, kce y cc h1 u⟩
 ·intro y hy; exact (c₁.nt y hy).same hs nt
theorem swapped_two {x y : Str} {px py fp : Pos} {a f : Expr} {as : List Expr} {ks : List Keyword} {kk k2 : Nat} {tp vp : Pos} (ek : EnvK env K) (h1 : K.lookup x = some .local) (h2 : K.lookup y = some .local) (hl : px.line = py.line) (hxy : x ≠ y) (ha : ∀ e p, a ≠ .Starred e p) :
  swappedStores [.Tuple [.Name x px, .Name y py] kk tp] (.Tuple [a, .Call f as ks fp] k2 vp) env = pure (some [x, y]) := by
 have k1 : env.kindOf x = some .local := by unfold Env.kindOf; rw [ek.names]; exact h1
 have k2' : env.kindOf y = some .local := by unfold Env.kindOf; rw [ek.names]; exact h2
 have hb : env.blockKind = .function := by unfold Env.blockKind; rw [ek.kind]; rfl
 have hst : (match a with | .Starred .. => true | _ => false) = false := by cases a <;> first | rfl | exact absurd rfl (ha _ _)
 have hf : ([a, Expr.Call f as ks fp].all (foldedForSure 8)) = false := by rw [List.all_cons, List.all_cons]; show (_ && (false && _)) = false; simp
 have hc : ([a, Expr.Call f as ks fp].all (constantsAlone 8)) = false := by rw [List.all_cons, List.all_cons]; show (_ && (false && _)) = false; simp
 have hs : ([a, Expr.Call f as ks fp].any fun | .Starred .. => true | _ => false) = false := by
  rw [List.any_cons, List.any_cons]
  show (_ || (false || false)) = false
  rw [Bool.or_false, Bool.or_false]
  cases a <;> first | rfl | exact absurd rfl (ha _ _)
 have hn : ([Expr.Name x px, Expr.Name y py].filterMap fun
  | .Name id pos => if env.kindOf id == some .local && pos.line == px.line then some id else none
  | _ => none) = [x, y] := by
  simp [List.filterMap_cons, k1, k2', hl]
 have hd' : [x, y].eraseDups = [x, y] := by
  have q : (y == x) = false := by simp [Ne.symm hxy]
  simp [List.eraseDups, List.eraseDupsBy, List.eraseDupsBy.loop, q]
 unfold swappedStores
 dsimp only
 refine (if_neg (by rw [hb]; simp)).trans ?_
 refine (if_neg (fun q => Bool.noConfusion (hs.symm.trans q))).trans ?_
 generalize hN : List.filterMap _ _ = names
 have hN' : names = [x, y] := hN.symm.trans hn
 subst hN'
 refine (if_neg (by rw [Bool.or_eq_true, not_or]; exact ⟨by simp, by rw [hd']; simp⟩)).trans ?_
 exact (if_neg (by rw [hf]; simp)).trans (if_neg (by rw [hc]; simp))
end
end Mine
namespace Mine
open PySem PySem.Calls PyProof.Rows PySem.W
section
variable {G : Gd} {k n : Nat} {cf : Cf} {mu : List Str} {K : Kn} {ρ : Rho} {A : Around} {Xc Y Y' : List Addr} {s s' : Shared} {env : Env}
theorem x_two (ok : CfOk G cf k) {x y : Str} {px py fp tp vp pos : Pos} {a f : Expr} {as : List Expr} {ks : List Keyword} {kk k2 : Nat} {da db : D} (h1 : K.lookup x = some .local) (h2 : K.lookup y = some .local) (hl : px.line = py.line) (hxy : x ≠ y)
  (ha : evD cf n K ρ a = some da) (hb : evD cf n K ρ (.Call f as ks fp) = some db) (hp : (da.pure && db.pure) = true) :
  ExS G k K ρ (.Assign [.Tuple [.Name x px, .Name y py] kk tp] (.Tuple [a, .Call f as ks fp] k2 vp) pos) (.next (stD (stD ρ y db) x da)) := by
 intro A Xc Y s env c E
 rw [Bool.and_eq_true] at hp
 have hns : ∀ e p, a ≠ .Starred e p := fun e p q => by
  subst q
  cases n with
  | zero => unfold evD at ha; cases ha
  | succ n => unfold evD at ha; cases ha
 refine Assign_Tuple_swapped (names := [x, y]) (Tuple_ ?_) rfl (swapped_two c.cxt.env.k h1 h2 hl hxy hns)
 refine args_cons (((sound ok n).ev _ _ _ _ ha A _ s env c.cxt).post fun va s₁ g₁ r₁ => ?_) (evD_star ha _ env)
 have c₁ := c.gr g₁
 refine args_cons (((sound ok n).ev _ _ _ _ hb A _ s₁ env c₁.cxt).post fun vb s₂ g₂ r₂ => ?_) (evD_star hb _ env)
 refine args_nil ?_
 have c₂ := c₁.gr g₂
 refine wpAny_newObj_type ?_ (by show 2 ≤ sizeLine; decide)
 have g₃ : Gr G s₂ { s₂ with heap := s₂.heap.push (tupObj [va, vb] 0) } := Gr.push'
 have c₃ := c₂.gr g₃
 have hh : A.handled = none := c.room.hh
 refine unpackItems_tuple (items := [va, vb].toArray) hh ⟨_, Heap.get?_push_size _ rfl, rfl, 0, rfl⟩ fun h' he => ?_
 have g₄ : Gr G { s₂ with heap := s₂.heap.push (tupObj [va, vb] 0) } { s₂ with heap := h' } := Gr.of (s := { s₂ with heap := s₂.heap.push (tupObj [va, vb] 0) }) (tk := s₂.toks) fun b o e => he b o (fun q => by rw [q, zL (o := tupObj [va, vb] 0)] at e; cases e) e
 have c₄ := c₃.gr g₄
 have ra : Rd G.C (Y ++ Xc) h' da va := Rd.gr c₃.xok.tabs g₄ (Rd.gr c₂.xok.tabs g₃ (Rd.gr c₁.xok.tabs g₂ (r₁.rd hp.1)))
 have rb : Rd G.C (Y ++ Xc) h' db vb := Rd.gr c₃.xok.tabs g₄ (Rd.gr c₂.xok.tabs g₃ (r₂.rd hp.2))
 show wpAny _ _ (do holding [va] (bindName env y vb); assignInOrder [fun v => bindName env x v] [va]) _ _ _
 refine wpAny_bind (wpAny_holding (bindName_ (store_ok c₄ (.inl h2) rb fun s₅ t₅ c₅ => ?_)))
 show wpAny _ _ (do holding [] (bindName env x va); assignInOrder [] []) _ _ _
 have ra₅ : Rd G.C (Y ++ Xc) s₅.heap da va := ra.imp fun b o hb e => ⟨hb, t₅.grb.heap b o (fun q => hb (List.mem_append_right _ (c.xc b q))) (fun q => hb (List.mem_append_left _ q)) e⟩
 refine wpAny_bind (wpAny_holding (bindName_ (store_ok c₅ (.inl h1) ra₅ fun s₆ t₆ c₆ => wpAny_pure ?_)))
 have t : Stp G Y s Y { s₂ with heap := h' } := Stp.gr (((g₁.trans g₂).trans g₃).trans g₄)
 exact ⟨Y, (t.trans c.cx.ti t₅).trans c.cx.ti t₆, rfl, c₆⟩
theorem RdL.set {C X h} : ∀ {ds : List D} {vs : List Value} {i : Nat} {d : D} {v : Value}, RdL C X h ds vs → Rd C X h d v → RdL C X h (ds.set i d) (vs.set i v)
 | [], vs, i, d, v, r, q => by rw [r.nil_inv]; exact .nil
 | e :: ds, vs, i, d, v, r, q => by
  obtain ⟨u, us, rfl, hr, l⟩ := r.cons_inv
  cases i with
  | zero => exact .cons q l
  | succ i => exact .cons hr (RdL.set l q)
theorem x_augSub (ok : CfOk G cf k) {x : Str} {xp sp pos : Pos} {i e : Expr} {ds : List D} {kk : Int} {z y : Str} (hi' : ∀ a b c, i ≠ .Slice a b none c) (hl : ρ.lookup x = some (.own ds)) (hc : (zO x && Nat.ble ds.length bigD) = true) (hi : evD cf n K ρ i = some (.int kk))
  (h0 : kk < 0) (h1 : 0 ≤ kk + ds.length) (hz : ds[(kk + ds.length).toNat]? = some (.str z)) (he : evD cf n K ρ e = some (.str y)) (hb : Nat.ble (z.length + y.length) bigD = true) :
  ExS G k K ρ (.AugAssign (.Subscript (.Name x xp) i sp) .Add e pos) (.next (setV ρ x (.own (ds.set (kk + ds.length).toNat (.str (z ++ y)))))) := by
 intro A Xc Y s env c E
 rw [Bool.and_eq_true] at hc
 obtain ⟨n1, n2⟩ := plainName_parts hc.1
 obtain ⟨m, W, ea, hW⟩ := c.ex
 obtain ⟨l, vs, j, e1, e2, e3, e4, e5⟩ := own_at ea hl
 have hsz := big63 hc.2
 refine wpAny_AugAssign_SubscriptAny (load_raw ea.k ea.ns e2 n1 n2 (((sound ok n).ev _ _ _ _ hi A _ s env c.cxt).post fun iv s₁ g₁ r₁ => ?_)) ?_
 ·obtain ⟨t, rfl⟩ := r₁.int
  have c₁ := c.gr g₁
  have hg₁ := g₁.heap _ _ (c.cx.notTab e4 zI) e4
  have rl₁ := e5.gr c.xok.tabs g₁
  obtain ⟨old, ho, ro⟩ := rl₁.get hz
  obtain ⟨u, rfl⟩ := (Rd.rv ro).str
  have len : vs.toArray.size = ds.length := by rw [size_arr, rl₁.length]
  refine wpAny_getItem_list_neg (items := vs.toArray) ⟨_, hg₁, rfl, j, rfl⟩ h0 (by rw [len]; omega) (by omega) (x := .str z u) (by rw [len]; simpa using ho) ?_
  refine ((sound ok n).ev _ _ _ _ he A _ s₁ env c₁.cxt).post fun v s₂ g₂ r₂ => ?_
  obtain ⟨w, rfl⟩ := r₂.str
  have c₂ := c₁.gr g₂
  refine PyProof.Rows.iadd_str (fun t' tk => ?_) (by have := (big63 hb).2.2; exact this)
  have g₃ : Gr G s₂ { s₂ with toks := tk } := Gr.tok
  have c₃ := c₂.gr g₃
  have g13 := g₂.trans g₃
  have ea₃ := ea.gr c.xok c.cx (g₁.trans g13)
  have hg₃ := g13.heap _ _ (c₁.cx.notTab hg₁ zI) hg₁
  have rl₃ := rl₁.gr c₁.xok.tabs g13
  refine set_neg hg₃ h0 (by rw [len]; omega) (by omega) (old := .str z u) (by rw [len]; simpa using ho) fun h' mm hg' hs' => ?_
  obtain ⟨tt, c₄⟩ := mutate (t := tk) (s := { s₂ with toks := tk }) c₃ ea₃ hW hl e1 hg₃ hs' hg' (by rw [len]; exact rl₃.set Rd.str')
  exact ⟨Y, (Stp.gr (g₁.trans g13)).trans c.cx.ti tt, rfl, c₄⟩
 ·intro ov iv new
  cases i <;> first | rfl | skip
  rename_i a b st p
  cases st with
  | none => exact absurd rfl (hi' _ _ _)
  | some _ => rfl
theorem x_while (ok : CfOk G cf k) {t : Expr} {b : List Stmt} {pos : Pos} {o : Out} (hb : ∀ ρ o, exL cf mu n K ρ b = some o → ExL G k K ρ b o) (h : whD (fun ρ => tsD cf n K ρ t) (fun ρ => exL cf mu n K ρ b) loopD ρ = some o) : ExS G k K ρ (.While t b [] pos) o := by
 intro A Xc Y s env c E
 refine wpAny_While (codeAny_whileLoop (fun m s' => ∃ Y' ρ', Stp G Y s Y' s' ∧ StC G k A Xc Y' s' env K ρ' ∧ whD (fun ρ => tsD cf n K ρ t) (fun ρ => exL cf mu n K ρ b) m ρ' = some o) ?_ loopD ⟨Y, ρ, Stp.refl, c, h⟩)
 rintro m s' ⟨Y', ρ', tt, c', hw⟩
 cases m with
 | zero => unfold whD at hw; cases hw
 | succ m =>
  unfold whD at hw
  split at hw
  ·rename_i ht
   refine ((sound ok n).ts _ _ _ _ ht).post c'.cxt fun s₁ g₁ => ?_
   simp only [if_true]
   have c₁ := c'.gr g₁
   have t₁ := tt.trans c.cx.ti (Stp.gr g₁)
   split at hw
   ·rename_i ρ₂ hρ
    refine wpAny_mono (hb _ _ hρ A Xc Y' s₁ env c₁ _) (fun f s₂ p => ?_) fun _ _ e => e
    obtain ⟨Y₂, t₂, rfl, c₂⟩ := p
    exact ⟨m, Nat.lt_succ_self _, Y₂, ρ₂, t₁.trans c.cx.ti t₂, c₂, hw⟩
   ·rename_i ρ₂ hρ
    cases hw
    refine wpAny_mono (hb _ _ hρ A Xc Y' s₁ env c₁ _) (fun f s₂ p => ?_) fun _ _ e => e
    obtain ⟨Y₂, t₂, rfl, c₂⟩ := p
    exact ⟨Y₂, t₁.trans c.cx.ti t₂, rfl, c₂⟩
   ·rename_i d hρ
    cases hw
    refine wpAny_mono (hb _ _ hρ A Xc Y' s₁ env c₁ _) (fun f s₂ p => ?_) fun _ _ e => e
    obtain ⟨Y₂, t₂, v, rfl, r⟩ := p
    exact ⟨Y₂, t₁.trans c.cx.ti t₂, v, rfl, r⟩
   ·cases hw
  ·rename_i ht
   cases hw
   refine ((sound ok n).ts _ _ _ _ ht).post c'.cxt fun s₁ g₁ => ?_
   simp only [Bool.false_eq_true, if_false]
   exact wpAny_execs_nil ⟨Y', tt.trans c.cx.ti (Stp.gr g₁), rfl, c'.gr g₁⟩
  ·cases hw
theorem EnvAt.move {X X' h h' m W} (e : EnvAt G env K X h ρ m W) (hn : h'.Ns env.locals m) (kX : ∀ b o, b ∉ X → h.get? b = some o → b ∉ X' ∧ h'.get? b = some o)
  (kO : ∀ x a vs j, W x = some a → a ∈ X → h.get? a = some (lstObj vs j) → a ∈ X' ∧ h'.get? a = some (lstObj vs j))
  (kc : ∀ x c u, (env.kindOf x = some .cell ∨ env.kindOf x = some .free) → env.cells.lookup x = some c → h.IsCell c (some u) → h'.IsCell c (some u)) : EnvAt G env K X' h' ρ m W := by
 refine ⟨e.k, hn, e.inj, fun y d hy => ?_⟩
 rcases e.vars y d hy with q | ⟨v, q, b⟩
 ·exact .inl q
 ·refine .inr ⟨v, ?_, ?_⟩
  ·rcases q with q | ⟨q1, c, q2, q3⟩
   ·exact .inl q
   ·exact .inr ⟨q1, c, q2, kc y c v q1 q2 q3⟩
  ·cases d with
   | own ds =>
    obtain ⟨a, vs, j, e1, e2, e3, e4, e5⟩ := b
    obtain ⟨a1, a2⟩ := kO y a vs j e1 e3 e4
    exact ⟨a, vs, j, e1, e2, a1, a2, e5.imp kX⟩
   | app z =>
    obtain ⟨a, b, e1, e2, hx, o, vs, hg, r⟩ := b
    exact ⟨a, b, e1, e2, (kX b o hx hg).1, o, vs, (kX b o hx hg).2, r⟩
   | _ => exact Rd.imp kX b
theorem noFree_cell (c : StC G k A Xc Y s env K ρ) {x : Str} {cc : Addr} (h : env.kindOf x = some .cell ∨ env.kindOf x = some .free) (hc : env.cells.lookup x = some cc) : cc ∈ Y := by
 unfold Env.kindOf at h
 rw [c.cxt.env.k.names] at h
 rcases h with h | h
 ·exact (c.cel x cc hc h).1
 ·exact absurd h (c.noFree x)
theorem StC.into (c : StC G k A Xc Y s env K ρ) {wr : List Addr} {s₂ : Shared} (g : Gr G s s₂) (up : ∀ b o, s.heap.get? b = some o → s₂.heap.get? b = some o) (hwr : ∀ b ∈ wr, s.heap.get? b = none) (hnt : ∀ b ∈ wr, NT s₂.heap b) : StC G k A (wr ++ Xc) Y s₂ env K ρ := by
 have c₂ := c.gr g
 obtain ⟨m, W, e, hW⟩ := c.ex
 refine ⟨c.room, c₂.cx, ⟨fun a ha => List.mem_append_right _ (List.mem_append_right _ (c.xc a ha)), fun a ha => ?_⟩, fun a ha => List.mem_append_right _ (c.xc a ha), ⟨m, W, e.move (e.ns.at' fun o q => up _ o q) (fun b o hb q => ⟨fun z => ?_, up b o q⟩) (fun x a vs j h1 h2 h3 => ⟨?_, up _ _ h3⟩) (fun x cc u _ _ h => IsCell.at' h fun o q => up _ o q), hW⟩, c.loc, c₂.cel, c.apart, c₂.nt, fun a ha q => ?_, c.hbY, c.celX, c.noFree⟩
 ·rcases List.mem_append.mp ha with h | h
  ·exact c₂.xok.live a (List.mem_append_left _ h)
  ·rcases List.mem_append.mp h with h | h
   ·obtain ⟨o, ho, _⟩ := hnt a h; exact ⟨o, ho⟩
   ·exact c₂.xok.live a (List.mem_append_right _ h)
 ·rcases List.mem_append.mp z with z | z
  ·exact hb (List.mem_append_left _ z)
  ·rcases List.mem_append.mp z with z | z
   ·rw [hwr b z] at q; cases q
   ·exact hb (List.mem_append_right _ z)
 ·exact List.mem_append_left _ (hW x a h1)
 ·rcases List.mem_append.mp q with q | q
  ·obtain ⟨o, ho⟩ := c.xok.live a (List.mem_append_left _ ha)
   rw [hwr a q] at ho; cases ho
  ·exact c.dis a ha q
theorem StC.turn {wr : List Addr} (c : StC G k A (wr ++ Xc) Y s env K ρ) {h' : Heap} {tk : Nat} (hk : ∀ b o, b ∉ wr → s.heap.get? b = some o → h'.get? b = some o) (hnt : ∀ b ∈ wr, NT s.heap b) (hnt' : ∀ b ∈ wr, NT h' b) (hbw : ∀ b ∈ wr, G.hb.get? b = none) : StC G k A (wr ++ Xc) Y { s with heap := h', toks := tk } env K ρ := by
 have out : ∀ a ∈ Y, a ∉ wr := fun a ha q => c.dis a ha (List.mem_append_left _ q)
 have gb : GrB G wr s { s with heap := h', toks := tk } := GrB.change hk hnt
 obtain ⟨m, W, e, hW⟩ := c.ex
 refine ⟨c.room, ⟨fun b o q => ?_, gb.ti c.cx.ti⟩, ⟨c.xok.tabs, fun a ha => ?_⟩, c.xc, ⟨m, W, e.move (e.ns.at' fun o q => hk _ o (out _ c.loc) q) (fun b o hb q => ⟨hb, hk b o (fun z => hb (List.mem_append_right _ (List.mem_append_left _ z))) q⟩) (fun x a vs j h1 h2 h3 => ⟨h2, hk _ _ (out a (hW x a h1)) h3⟩) (fun x cc u h1 h2 h => IsCell.at' h fun o q => hk _ o (out _ (noFree_cell c h1 h2)) q), hW⟩, c.loc, ?_, c.apart, ?_, c.dis, c.hbY, c.celX, c.noFree⟩
 ·by_cases z : b ∈ wr
  ·rw [hbw b z] at q; cases q
  ·exact hk b o z (c.cx.hb b o q)
 ·by_cases z : a ∈ wr
  ·obtain ⟨o, ho, _⟩ := hnt' a z; exact ⟨o, ho⟩
  ·obtain ⟨o, ho⟩ := c.xok.live a ha
   exact ⟨o, hk a o z ho⟩
 ·intro y cc h1 h2
  obtain ⟨a, u, b⟩ := c.cel y cc h1 h2
  exact ⟨a, u, IsCell.at' b fun o q => hk _ o (out _ a) q⟩
 ·intro y hy
  obtain ⟨o, ho, no⟩ := c.nt y hy
  exact ⟨o, hk y o (out y hy) ho, no⟩
theorem StC.out {wr : List Addr} (c : StC G k A (wr ++ Xc) Y s env K ρ) (hT : ∀ a ∈ G.T, a ∈ Xc) : StC G k A Xc Y s env K ρ := by
 obtain ⟨m, W, e, hW⟩ := c.ex
 have sub : ∀ b, b ∈ Y ++ Xc → b ∈ Y ++ (wr ++ Xc) := fun b hb => (List.mem_append.mp hb).elim (fun q => List.mem_append_left _ q) fun q => List.mem_append_right _ (List.mem_append_right _ q)
 exact ⟨c.room, c.cx, ⟨fun a ha => List.mem_append_right _ (hT a ha), fun a ha => c.xok.live a (sub a ha)⟩, hT, ⟨m, W, e.move e.ns (fun b o hb q => ⟨fun z => hb (sub b z), q⟩) (fun x a vs j h1 h2 h3 => ⟨List.mem_append_left _ (hW x a h1), h3⟩) (fun x cc u h1 h2 h => h), hW⟩, c.loc, c.cel, c.apart, c.nt, fun a ha q => c.dis a ha (List.mem_append_right _ q), c.hbY, c.celX, c.noFree⟩
theorem StC.last {wr : List Addr} (c : StC G k A (wr ++ Xc) Y s env K ρ) {h' : Heap} {tk : Nat} (hk : ∀ b o, b ∉ wr → s.heap.get? b = some o → h'.get? b = some o) (hnt : ∀ b ∈ wr, NT s.heap b) (hbw : ∀ b ∈ wr, G.hb.get? b = none) (hT : ∀ a ∈ G.T, a ∈ Xc) (hx : ∀ a ∈ Xc, a ∉ wr) : StC G k A Xc Y { s with heap := h', toks := tk } env K ρ := by
 have out : ∀ a ∈ Y, a ∉ wr := fun a ha q => c.dis a ha (List.mem_append_left _ q)
 have gb : GrB G wr s { s with heap := h', toks := tk } := GrB.change hk hnt
 obtain ⟨m, W, e, hW⟩ := c.ex
 have sub : ∀ b, b ∈ Y ++ Xc → b ∈ Y ++ (wr ++ Xc) := fun b hb => (List.mem_append.mp hb).elim (fun q => List.mem_append_left _ q) fun q => List.mem_append_right _ (List.mem_append_right _ q)
 refine ⟨c.room, ⟨fun b o q => ?_, gb.ti c.cx.ti⟩, ⟨fun a ha => List.mem_append_right _ (hT a ha), fun a ha => ?_⟩, hT, ⟨m, W, e.move (e.ns.at' fun o q => hk _ o (out _ c.loc) q) (fun b o hb q => ⟨fun z => hb (sub b z), hk b o (fun z => hb (List.mem_append_right _ (List.mem_append_left _ z))) q⟩) (fun x a vs j h1 h2 h3 => ⟨List.mem_append_left _ (hW x a h1), hk _ _ (out a (hW x a h1)) h3⟩) (fun x cc u h1 h2 h => IsCell.at' h fun o q => hk _ o (out _ (noFree_cell c h1 h2)) q), hW⟩, c.loc, ?_, c.apart, ?_, fun a ha q => c.dis a ha (List.mem_append_right _ q), c.hbY, c.celX, c.noFree⟩
 ·by_cases z : b ∈ wr
  ·rw [hbw b z] at q; cases q
  ·exact hk b o z (c.cx.hb b o q)
 ·obtain ⟨o, ho⟩ := c.xok.live a (sub a ha)
  exact ⟨o, hk a o ((List.mem_append.mp ha).elim (out a) (hx a)) ho⟩
 ·intro y cc h1 h2
  obtain ⟨a, u, b⟩ := c.cel y cc h1 h2
  exact ⟨a, u, IsCell.at' b fun o q => hk _ o (out _ a) q⟩
 ·intro y hy
  obtain ⟨o, ho, no⟩ := c.nt y hy
  exact ⟨o, hk y o (out y hy) ho, no⟩
theorem x_forG (ok : CfOk G cf k) {x : Str} {xp pos : Pos} {it : Expr} {b : List Stmt} {o : Out} {d : D} {ds : List D} (hk : storable K x = true) (hit : evD cf n K ρ it = some d) (hds : itemsD d = some ds) (ex : Rho → Option Out) (hb : ∀ ρ o, ex ρ = some o → ExL G k K ρ b o)
  (h : forD ex x ds ρ = some o) : ExS G k K ρ (.For (.Name x xp) it b [] pos) o := by
 intro A Xc Y s env c E
 refine wpAny_For (((sound ok n).ev _ _ _ _ hit A _ s env c.cxt).post fun v s₁ g₁ r => ?_) (zK hit env)
 have c₁ := c.gr g₁
 refine wpAny_mono (itemsD_ok c.room.hh c₁.xok c₁.cx.ti (r.rd' (fun l q => by subst q; cases hds)) hds E) (fun itv s₂ h₂ => ?_) fun _ _ e => e
 obtain ⟨I, fp, wr, rfl, g₂, up, S⟩ := h₂
 obtain ⟨St, P, W, hst, hwr, hfp, hlt, hNT, hrd⟩ := S
 have hbw : ∀ b ∈ wr, G.hb.get? b = none := fun b q => by
  cases z : G.hb.get? b with
  | none => rfl
  | some o => have := c₁.cx.hb b o z; rw [hwr b q] at this; cases this
 have c₂ := c₁.into g₂ up hwr (hNT 0 _ hst)
 have fpY : ∀ b ∈ fp, b ∉ Y := fun b q z => by
  rcases (hfp b q).1 with y | y
  ·obtain ⟨o, ho⟩ := c₁.xok.live b (List.mem_append_left _ z)
   rw [hwr b y] at ho; cases ho
  ·exact y.1 (List.mem_append_left _ z)
 refine codeAny_forLoop_any (fun m s' => ∃ i Y' ρ', m = ds.length - i ∧ i ≤ ds.length ∧ Stp G Y s₁ Y' s' ∧ St i s'.heap ∧ StC G k A (wr ++ Xc) Y' s' env K ρ' ∧ forD ex x (ds.drop i) ρ' = some o) ?_ ds.length
  ⟨0, Y, ρ, rfl, Nat.zero_le _, Stp.gr g₂, hst, c₂, by simpa using h⟩
 rintro m s' ⟨i, Y', ρ', rfl, hi, tt, hst', c', hf⟩
 have keep : ∀ (h' : Heap) (tk : Nat), (∀ b o, b ∉ wr → s'.heap.get? b = some o → h'.get? b = some o) → Stp G Y s₁ Y' { s' with heap := h', toks := tk } := fun h' tk hk' =>
  ⟨tt.sub, tt.new, ⟨fun b o hT hY e => hk' b o (fun q => by rw [hwr b q] at e; cases e) (tt.grb.heap b o hT hY e), fun t => G.frame _ _ (tt.grb.ti t) fun b o tk' e => hk' b o (fun q => by
   obtain ⟨o', ho', no⟩ := hNT i _ hst' b q
   rw [e] at ho'; cases ho'
   exact no tk') e, tt.grb.os, tt.grb.bare⟩⟩
 by_cases hlt' : i < ds.length
 ·have hdrop : ds.drop i = ds[i] :: ds.drop (i + 1) := by rw [List.drop_eq_getElem_cons hlt']
  rw [hdrop] at hf
  unfold forD at hf
  refine W.item i _ _ _ hlt' hst' fun v h₁ tk₁ hPv hst₁ hk₁ => ?_
  refine wpAny_of_eq (a := ()) rfl ?_
  have c₃ := c'.turn (tk := tk₁) hk₁ (hNT i _ hst') (hNT (i + 1) _ hst₁) hbw
  have t₃ := keep h₁ tk₁ hk₁
  obtain ⟨d', hd', hr0⟩ := hrd i v hlt' hPv
  have hdd : d' = ds[i] := by rw [List.getElem?_eq_getElem hlt'] at hd'; exact (Option.some.inj hd').symm
  subst hdd
  have hr : Rd G.C (Y' ++ (wr ++ Xc)) h₁ ds[i] v := hr0.lift (fun b hb => by
    rcases List.mem_append.mp hb with q | q
    ·rcases tt.new b q with z | z
     ·exact .inl (List.mem_append_left _ z)
     ·exact .inr z
    ·rcases List.mem_append.mp q with q | q
     ·exact .inr (hwr b q)
     ·exact .inl (List.mem_append_right _ q)) fun b o hb e => t₃.grb.heap b o (fun q => hb (c₁.xok.tabs b q)) (fun q => hb (List.mem_append_left _ q)) e
  refine wpAny_assign_Name (store_ok c₃ (storable_parts hk) hr fun s₄ t₄ c₄ => ?_)
  have t₄' := t₃.trans c₁.cx.ti t₄
  have nfp : ∀ (Y' : List Addr), (∀ a ∈ Y', a ∈ Y ∨ s₁.heap.get? a = none) → ∀ b ∈ fp, ∀ h i, St i h → b ∉ Y' ∨ True := fun _ _ _ _ _ _ _ => .inr trivial
  have hYfp : ∀ b ∈ fp, b ∉ Y' := fun b q z => by
   rcases tt.new b z with y | y
   ·exact fpY b q y
   ·by_cases w : b ∈ wr
    ·exact c'.dis b z (List.mem_append_left _ w)
    ·rcases (hfp b q).1 with v | ⟨_, o, v⟩
     ·exact w v
     ·rw [y] at v; cases v
  have hst₄ : St (i + 1) s₄.heap := W.frame _ _ _ hst₁ fun b hb' o e => t₄.grb.heap b o (hfp b hb').2 (hYfp b hb') e
  have pure' : ds[i].pure = true := hr.pure
  rw [pure'] at hf
  dsimp only at hf
  have after : ∀ Y₂ s₅, Stp G Y' s₄ Y₂ s₅ → St (i + 1) s₅.heap := fun Y₂ s₅ t₅ => W.frame _ _ _ hst₄ fun b hb' o e => t₅.grb.heap b o (hfp b hb').2 (hYfp b hb') e
  split at hf
  ·rename_i ρ₂ hρ
   refine wpAny_mono (hb _ _ hρ A (wr ++ Xc) Y' s₄ env c₄ _) (fun f s₅ p => ?_) fun _ _ e => e
   obtain ⟨Y₂, t₅, rfl, c₅⟩ := p
   exact ⟨ds.length - (i + 1), by omega, i + 1, Y₂, ρ₂, rfl, hlt', t₄'.trans c₁.cx.ti t₅, after _ _ t₅, c₅, hf⟩
  ·rename_i ρ₂ hρ
   cases hf
   refine wpAny_mono (hb _ _ hρ A (wr ++ Xc) Y' s₄ env c₄ _) (fun f s₅ p => ?_) fun _ _ e => e
   obtain ⟨Y₂, t₅, rfl, c₅⟩ := p
   exact ⟨Y₂, (Stp.gr g₁).trans c.cx.ti (t₄'.trans c₁.cx.ti t₅), rfl, c₅.out c.xc⟩
  ·rename_i dd hρ
   cases hf
   refine wpAny_mono (hb _ _ hρ A (wr ++ Xc) Y' s₄ env c₄ _) (fun f s₅ p => ?_) fun _ _ e => e
   obtain ⟨Y₂, t₅, u, rfl, ru⟩ := p
   exact ⟨Y₂, (Stp.gr g₁).trans c.cx.ti (t₄'.trans c₁.cx.ti t₅), u, rfl, ru.less fun b hb => List.mem_append_right _ hb⟩
  ·cases hf
 ·have hin : i = ds.length := by omega
  subst hin
  refine W.done _ _ _ hst' fun h₁ tk₁ hk₁ => ?_
  rw [List.drop_length] at hf
  cases hf
  exact wpAny_execs_nil ⟨Y', (Stp.gr g₁).trans c.cx.ti (keep h₁ tk₁ hk₁), rfl, c'.last hk₁ (hNT _ _ hst') hbw c.xc fun a ha q => by
   obtain ⟨o, ho⟩ := c₁.xok.live a (List.mem_append_right _ ha)
   rw [hwr a q] at ho; cases ho⟩
theorem x_for (ok : CfOk G cf k) {x : Str} {xp pos : Pos} {it : Expr} {b : List Stmt} {o : Out} {d : D} {ds : List D} (hk : storable K x = true) (hit : evD cf n K ρ it = some d) (hds : itemsD d = some ds) (hb : ∀ ρ o, exL cf mu n K ρ b = some o → ExL G k K ρ b o)
  (h : forD (fun ρ => exL cf mu n K ρ b) x ds ρ = some o) : ExS G k K ρ (.For (.Name x xp) it b [] pos) o := x_forG ok hk hit hds _ hb h
end
end Mine
namespace Mine
open PySem PySem.Calls PyProof.Rows PySem.W
section
variable {G : Gd} {k n : Nat} {cf : Cf} {mu : List Str} {K : Kn} {ρ : Rho}
theorem swaps_cell {x : Str} {px : Pos} {e : Expr} {gs : List Comprehension} {c : Scope} {p : Pos} {l : Nat} (h : K.lookup x = some .cell) (env : Env) (ek : EnvK env K) : swapsWith (.ListComp e gs c p) (some (.Name x px)) l env = pure false := by
 have hk : env.kindOf x = some .cell := by unfold Env.kindOf; rw [ek.names]; exact h
 unfold swapsWith
 dsimp only
 rw [hk]
 have : (some NameKind.cell == some NameKind.local) = false := by decide
 rw [this]
 simp
theorem asg (ok : CfOk G cf k) {x : Str} {px pos : Pos} {v : Expr} {o : Out} (hk : storable K x = true) (hs : ∀ d, evD cf (n + 1) K ρ v = some d → ∀ env : Env, EnvK env K → swapsWith v (some (.Name x px)) pos.line env = pure false)
  (h : (match evD cf (n + 1) K ρ v with | some d => (match d.pure with | true => some (Out.next (stD ρ x d)) | false => none) | none => none) = some o) : ExS G k K ρ (.Assign [.Name x px] v pos) o := by
 split at h
 ·rename_i d hd
  split at h
  ·rename_i hp
   cases h
   exact x_assign ok hk hd hp (hs d hd)
  ·cases h
 ·cases h
theorem asg' (ok : CfOk G cf k) {x : Str} {px pos : Pos} {v : Expr} {o : Out} (hk : storable K x = true) (hn : ∀ a b c e, v ≠ .ListComp a b c e)
  (h : (match evD cf (n + 1) K ρ v with | some d => (match d.pure with | true => some (Out.next (stD ρ x d)) | false => none) | none => none) = some o) : ExS G k K ρ (.Assign [.Name x px] v pos) o :=
 asg ok hk (fun d hd env _ => evD_swaps hd hn _ _ _) h
set_option maxHeartbeats 1000000 in
theorem exD_assign (ok : CfOk G cf k) {x : Str} {px pos : Pos} {v : Expr} {o : Out} (h : exD cf mu (n + 1) K ρ (.Assign [.Name x px] v pos) = some o) : ExS G k K ρ (.Assign [.Name x px] v pos) o := by
 unfold exD at h
 dsimp only at h
 split at h
 ·rename_i hk
  cases v with
  | List es p =>
   dsimp only at h
   split at h
   ·split at h
    ·rename_i ds hds
     split at h
     ·rename_i hp
      cases h
      exact x_own ok hk hds hp
     ·cases h
    ·cases h
   ·exact asg' (n := n) ok hk (by simp) h
  | Attribute b nm p =>
   cases b with
   | Name r rp =>
    dsimp only at h
    split at h
    ·rename_i hnm
     have := beq_iff_eq.mp hnm
     subst this
     split at h
     ·rename_i ds hl
      split at h
      ·rename_i hp
       cases h
       exact x_takeApp hk hl hp
      ·cases h
     ·cases h
    ·exact asg' (n := n) ok hk (by simp) h
   | _ => exact asg' (n := n) ok hk (by simp) h
  | ListComp e gs c p =>
   dsimp only at h
   split at h
   ·rename_i hc
    exact asg (n := n) ok hk (fun d hd env ek => swaps_cell hc env ek) h
   ·cases h
  | _ => exact asg' (n := n) ok hk (by simp) h
 ·cases h
set_option maxHeartbeats 1000000 in
theorem exD_snd (ok : CfOk G cf k) (IL : ∀ K ρ ss o, exL cf mu n K ρ ss = some o → ExL G k K ρ ss o) (st : Stmt) {o : Out} (h : exD cf mu (n + 1) K ρ st = some o) : ExS G k K ρ st o := by
 cases st with
 | Assign ts v pos =>
  rcases ts with _ | ⟨t, _ | _⟩
  ·unfold exD at h; cases h
  ·cases t with
   | Name x px => exact exD_assign ok h
   | Tuple es kk tp =>
    rcases es with _ | ⟨a, _ | ⟨b, _ | _⟩⟩
    ·unfold exD at h; cases h
    ·cases a <;> (unfold exD at h; cases h)
    ·cases a with
     | Name x px =>
      cases b with
      | Name y py =>
       cases v with
       | Tuple vs k2 vp =>
        rcases vs with _ | ⟨c, _ | ⟨d, _ | _⟩⟩
        ·unfold exD at h; cases h
        ·unfold exD at h; cases h
        ·cases d with
         | Call f as ks fp =>
          unfold exD at h; dsimp only at h
          split at h
          ·rename_i hc
           simp only [Bool.and_eq_true, beq_iff_eq, bne_iff_ne] at hc
           split at h
           ·rename_i da ha
            split at h
            ·rename_i db hb
             split at h
             ·rename_i hp
              cases h
              exact x_two ok hc.1.1.1 hc.1.1.2 hc.1.2 hc.2 ha hb hp
             ·cases h
            ·cases h
           ·cases h
          ·cases h
         | _ => unfold exD at h; cases h
        ·cases d <;> (unfold exD at h; cases h)
       | _ => unfold exD at h; cases h
      | _ => unfold exD at h; cases h
     | _ => unfold exD at h; cases h
    ·cases a <;> first | (unfold exD at h; cases h; done) | (cases b <;> (unfold exD at h; cases h))
   | _ => unfold exD at h; cases h
  ·cases t <;> first | (unfold exD at h; cases h; done) | (rename_i es _ _; rcases es with _ | ⟨a, es⟩; (unfold exD at h; cases h); cases a <;> first | (unfold exD at h; cases h; done) | (rcases es with _ | ⟨b, es⟩; (unfold exD at h; cases h); cases b <;> first | (unfold exD at h; cases h; done) | (cases es <;> (unfold exD at h; cases h))))
 | AugAssign t op e pos =>
  cases op with
  | Add =>
   cases t with
   | Name x p =>
    unfold exD at h; dsimp only at h
    split at h
    ·rename_i hc
     rw [Bool.and_eq_true] at hc
     split at h
     ·rename_i i hi
      split at h
      ·rename_i j hj
       cases h
       exact x_aug ok hc.1 hc.2 hi hj
      ·cases h
     ·cases h
    ·cases h
   | Subscript b i sp =>
    cases b with
    | Name x xp =>
     unfold exD at h; dsimp only at h
     split at h
     ·rename_i ds hl
      split at h
      ·rename_i hc
       split at h
       ·rename_i kk hk
        split at h
        ·rename_i hd
         rw [Bool.and_eq_true, decide_eq_true_eq, decide_eq_true_eq] at hd
         split at h
         ·rename_i z hz
          split at h
          ·rename_i y hy
           split at h
           ·rename_i hb
            cases h
            refine x_augSub ok (fun a b c q => ?_) hl hc hk hd.1 hd.2 hz hy hb
            subst q
            cases n with
            | zero => unfold evD at hk; cases hk
            | succ n => unfold evD at hk; cases hk
           ·cases h
          ·cases h
         ·cases h
        ·cases h
       ·cases h
      ·cases h
     ·cases h
    | _ => unfold exD at h; cases h
   | _ => unfold exD at h; cases h
  | _ => cases t <;> first | (unfold exD at h; cases h; done) | (rename_i b _ _; cases b <;> (unfold exD at h; cases h))
 | If t b e pos =>
  unfold exD at h; dsimp only at h
  split at h
  ·rename_i ht
   exact x_if (c := true) ok ht (IL _ _ _ _ h)
  ·rename_i ht
   exact x_if (c := false) ok ht (IL _ _ _ _ h)
  ·cases h
 | While t b e pos =>
  cases e with
  | nil =>
   unfold exD at h; dsimp only at h
   exact x_while ok (fun ρ o h => IL _ _ _ _ h) h
  | cons _ _ => unfold exD at h; cases h
 | For t it b e pos =>
  cases t with
  | Name x xp =>
   cases e with
   | nil =>
    unfold exD at h; dsimp only at h
    split at h
    ·rename_i hk
     split at h
     ·rename_i d hd
      split at h
      ·rename_i ds hds
       exact x_for ok hk hd hds (fun ρ o h => IL _ _ _ _ h) h
      ·cases h
     ·cases h
    ·cases h
   | cons _ _ => unfold exD at h; cases h
  | _ => unfold exD at h; cases h
 | Return e pos =>
  cases e with
  | none => unfold exD at h; cases h
  | some e =>
   cases e with
   | IfExp t b e p =>
    unfold exD at h; dsimp only at h
    exact x_retIf ok h
   | _ => unfold exD at h; exact x_ret ok h
 | Expr e pos =>
  cases e with
  | Call f as ks cp =>
   rcases as with _ | ⟨a, _ | _⟩
   ·cases f <;> first | (unfold exD at h; cases h; done) | (rename_i b _ _; cases b <;> (unfold exD at h; cases h))
   ·cases ks with
    | cons _ _ => cases f <;> first | (unfold exD at h; cases h; done) | (rename_i b _ _; cases b <;> (unfold exD at h; cases h))
    | nil =>
     cases f with
     | Name f fp =>
      unfold exD at h; dsimp only at h
      split at h
      ·rename_i hp
       split at h
       ·rename_i x hf
        split at h
        ·rename_i ds hl
         split at h
         ·rename_i d hd
          split at h
          ·rename_i hc
           cases h
           exact x_add ok hp hf hl hd hc
          ·cases h
         ·cases h
        ·cases h
       ·cases h
      ·cases h
     | Attribute b nm apos =>
      cases b with
      | Name x xp =>
       unfold exD at h; dsimp only at h
       split at h
       ·rename_i hp
        rw [Bool.and_eq_true, Bool.and_eq_true] at hp
        have := beq_iff_eq.mp hp.1.1
        subst this
        split at h
        ·rename_i ds hl
         split at h
         ·rename_i d hd
          split at h
          ·rename_i hc
           cases h
           exact x_append ok hp.1.2 hp.2 hl hd hc
          ·cases h
         ·cases h
        ·cases h
       ·cases h
      | _ => unfold exD at h; cases h
     | _ => unfold exD at h; cases h
   ·cases f <;> first | (unfold exD at h; cases h; done) | (rename_i b _ _; cases b <;> (unfold exD at h; cases h))
  | _ => unfold exD at h; cases h
 | Assert t m pos =>
  cases m with
  | none =>
   unfold exD at h; dsimp only at h
   split at h
   ·rename_i ht
    cases h
    exact x_assert ok ht
   ·cases h
  | some _ => unfold exD at h; cases h
 | Break pos => unfold exD at h; cases h; exact x_break
 | _ => unfold exD at h; cases h
theorem exL_snd (IS : ∀ K ρ st o, exD cf mu n K ρ st = some o → ExS G k K ρ st o) (IL : ∀ K ρ ss o, exL cf mu n K ρ ss = some o → ExL G k K ρ ss o) (ss : List Stmt) {o : Out} (h : exL cf mu (n + 1) K ρ ss = some o) : ExL G k K ρ ss o := by
 intro A Xc Y s env c E
 cases ss with
 | nil => unfold exL at h; cases h; exact wpAny_execs_nil ⟨Y, Stp.refl, rfl, c⟩
 | cons st ss =>
  unfold exL at h; dsimp only at h
  refine wpAny_execs_cons ?_
  split at h
  ·rename_i ρ' hst
   refine wpAny_mono (IS _ _ _ _ hst A Xc Y s env c E) (fun f s₁ p => ?_) fun _ _ e => e
   obtain ⟨Y₁, t₁, rfl, c₁⟩ := p
   exact wpAny_mono (IL _ _ _ _ h A Xc Y₁ s₁ env c₁ E) (fun f s₂ p => p.pre c.cx.ti t₁) fun _ _ e => e
  ·rename_i hne
   refine wpAny_mono (IS _ _ _ _ h A Xc Y s env c E) (fun f s₁ p => ?_) fun _ _ e => e
   obtain ⟨Y₁, t₁, q⟩ := p
   cases o with
   | next ρ' => exact absurd h (hne ρ')
   | brk ρ' => obtain ⟨rfl, c₁⟩ := q; exact ⟨Y₁, t₁, rfl, c₁⟩
   | ret d => obtain ⟨v, rfl, r⟩ := q; exact ⟨Y₁, t₁, v, rfl, r⟩
theorem ex_sound (ok : CfOk G cf k) (mu : List Str) : ∀ n, (∀ K ρ st o, exD cf mu n K ρ st = some o → ExS G k K ρ st o) ∧ (∀ K ρ ss o, exL cf mu n K ρ ss = some o → ExL G k K ρ ss o)
 | 0 => ⟨(fun _ _ _ _ h => by unfold exD at h; cases h), (fun _ _ _ _ h => by unfold exL at h; cases h)⟩
 | n + 1 => ⟨fun K ρ st o h => exD_snd ok (ex_sound ok mu n).2 st h, fun K ρ ss o h => exL_snd (ex_sound ok mu n).1 (ex_sound ok mu n).2 ss h⟩
end
end Mine
namespace Mine
open PySem PySem.Calls PyProof.Rows PySem.W
def rho0 (K : Kn) (ps : List Str) (ds : List D) : Rho := K.filterMap fun p => match p.2 with
 | .local => some (p.1, ((ps.zip ds).lookup p.1).getD .unb)
 | .cell => some (p.1, ((ps.zip ds).lookup p.1).getD .unb)
 | _ => none
theorem rho0_lookup {K : Kn} {ps : List Str} {ds : List D} {x : Str} {d : D} (h : (rho0 K ps ds).lookup x = some d) : d = .unb ∨ (ps.zip ds).lookup x = some d := by
 induction K with
 | nil => simp [rho0] at h
 | cons p K ih =>
  obtain ⟨y, kd⟩ := p
  unfold rho0 at h ih
  rw [List.filterMap_cons] at h
  have key : ((y, ((ps.zip ds).lookup y).getD .unb) :: (K.filterMap fun p => match p.2 with
 | .local => some (p.1, ((ps.zip ds).lookup p.1).getD .unb)
 | .cell => some (p.1, ((ps.zip ds).lookup p.1).getD .unb)
 | _ => none)).lookup x = some d → d = .unb ∨ (ps.zip ds).lookup x = some d := by
   intro h
   rw [List.lookup_cons] at h
   cases hb : x == y with
   | true =>
    rw [hb] at h
    have := beq_iff_eq.mp hb; subst this
    cases hl : (ps.zip ds).lookup x with
    | none => rw [hl] at h; cases h; exact .inl rfl
    | some z => rw [hl] at h; cases h; exact .inr rfl
   | false => rw [hb] at h; exact ih h
  cases kd <;> first | exact key h | exact ih h
theorem zip_values {C X h} : ∀ {ps : List Str} {ds : List D} {vs : List Value} {x : Str} {d : D}, RdL C X h ds vs → (ps.zip ds).lookup x = some d → ∃ v, (ps.zip vs).lookup x = some v ∧ Rd C X h d v
 | [], _, _, _, _, _, h => by simp at h
 | p :: ps, [], vs, x, d, r, h => by simp at h
 | p :: ps, e :: ds, vs, x, d, r, h => by
  obtain ⟨v, vs', rfl, hr, l⟩ := r.cons_inv
  rw [List.zip_cons_cons, List.lookup_cons] at h ⊢
  cases hb : x == p with
  | true => rw [hb] at h; cases h; exact ⟨v, rfl, hr⟩
  | false => rw [hb] at h; exact zip_values l h
theorem bindL_other (kof : Str → Option NameKind) : ∀ (binds : List (Str × Value)) (m : Str → Option Value) (x : Str), (∀ p ∈ binds, p.1 ≠ x) → bindL kof binds m x = m x
 | [], m, x, _ => rfl
 | (y, v) :: r, m, x, h => by
  unfold bindL
  rw [bindL_other kof r _ x fun p hp => h p (.tail _ hp)]
  have : x ≠ y := fun q => h (y, v) (.head _) q.symm
  split
  ·simp [this]
  ·rfl
theorem bindL_at (kof : Str → Option NameKind) : ∀ (binds : List (Str × Value)) (m : Str → Option Value) (x : Str) (v : Value), (binds.map (·.1)).Nodup → binds.lookup x = some v → kof x = some .local → bindL kof binds m x = some v
 | [], m, x, v, _, h, _ => by simp at h
 | (y, u) :: r, m, x, v, hn, h, hk => by
  unfold bindL
  rw [List.map_cons, List.nodup_cons] at hn
  rw [List.lookup_cons] at h
  cases hb : x == y with
  | true =>
   rw [hb] at h; cases h
   have := beq_iff_eq.mp hb; subst this
   rw [if_pos hk, bindL_other kof r _ x fun p hp q => hn.1 (List.mem_map.mpr ⟨p, hp, q⟩)]
   simp
  | false => rw [hb] at h; exact bindL_at kof r _ x v hn.2 h hk
theorem bindC_other (kof : Str → Option NameKind) : ∀ (binds : List (Str × Value)) (m : Str → Option Value) (x : Str), (∀ p ∈ binds, p.1 ≠ x) → bindC kof binds m x = m x
 | [], m, x, _ => rfl
 | (y, v) :: r, m, x, h => by
  unfold bindC
  rw [bindC_other kof r _ x fun p hp => h p (.tail _ hp)]
  have : x ≠ y := fun q => h (y, v) (.head _) q.symm
  split
  ·rfl
  ·simp [this]
theorem bindC_at (kof : Str → Option NameKind) : ∀ (binds : List (Str × Value)) (m : Str → Option Value) (x : Str) (v : Value), (binds.map (·.1)).Nodup → binds.lookup x = some v → kof x = some .cell → bindC kof binds m x = some v
 | [], m, x, v, _, h, _ => by simp at h
 | (y, u) :: r, m, x, v, hn, h, hk => by
  unfold bindC
  rw [List.map_cons, List.nodup_cons] at hn
  rw [List.lookup_cons] at h
  cases hb : x == y with
  | true =>
   rw [hb] at h; cases h
   have := beq_iff_eq.mp hb; subst this
   rw [if_neg (by rw [hk]; decide), bindC_other kof r _ x fun p hp q => hn.1 (List.mem_map.mpr ⟨p, hp, q⟩)]
   simp
  | false => rw [hb] at h; exact bindC_at kof r _ x v hn.2 h hk
theorem cellsFrom_acc : ∀ (names : Kn) (n : Nat) (acc : List (Str × Addr)) (x : Str), (acc.lookup x).isSome = true → ((cellsFrom n names acc).lookup x).isSome = true
 | [], _, _, _, h => h
 | (y, kd) :: r, n, acc, x, h => by
  unfold cellsFrom
  split
  ·refine cellsFrom_acc r _ _ x ?_
   rw [List.lookup_cons]
   split <;> first | rfl | exact h
  ·exact cellsFrom_acc r _ _ x h
theorem cellsFrom_has : ∀ (names : Kn) (n : Nat) (acc : List (Str × Addr)) (x : Str), names.lookup x = some .cell → ((cellsFrom n names acc).lookup x).isSome = true
 | [], _, _, _, h => by simp at h
 | (y, kd) :: r, n, acc, x, h => by
  unfold cellsFrom
  rw [List.lookup_cons] at h
  cases hb : x == y with
  | true =>
   rw [hb] at h; cases h
   rw [if_pos (by decide)]
   refine cellsFrom_acc r _ _ x ?_
   rw [List.lookup_cons, hb]; rfl
  | false =>
   rw [hb] at h
   split
   ·exact cellsFrom_has r _ _ x h
   ·exact cellsFrom_has r _ _ x h
structure FnRec (G : Gd) (a : Addr) (o : Obj) (fd : FuncData) (body : List Stmt) (K : Kn) (ps : List Str) : Prop where
 ho : G.hb.get? a = some o
 hd : o.data = .func fd
 body : fd.body = .stmts body
 clo : fd.closure = []
 glob : fd.globals = mainGlobals
 bi : fd.builtins = builtinsNs
 code : G.hb.CodeRec fd.code fd.qualname
 names : fd.scope.names = K
 kind : fd.scope.kind = .function
 co : fd.scope.isCoroutine = false
 gen : fd.scope.isGenerator = false
 bind : ∀ vals : List Value, vals.length = ps.length → ∀ s : Shared, (∀ b o, G.hb.get? b = some o → s.heap.get? b = some o) → BindsTo s fd ⟨vals, []⟩ (ps.zip vals)
 par : ∀ x ∈ ps, K.lookup x = some .local ∨ K.lookup x = some .cell
 nodup : ps.Nodup
 free : ∀ x, K.lookup x ≠ some .free
 cod : ∀ c, codeOf K = some c → fd.code = c.1 ∧ fd.qualname ++ (".<locals>." : Str) = c.2
theorem CodeRec.up {h h' : Heap} {c : Value} {q : Str} (x : h.CodeRec c q) (k : ∀ b o, h.get? b = some o → h'.get? b = some o) : h'.CodeRec c q := by
 obtain ⟨c, oc, vs, tq, hc, hoc, r⟩ := x
 exact ⟨c, oc, vs, tq, hc, k _ _ hoc, r⟩
section
variable {G : Gd} {k n : Nat} {cf : Cf} {mu : List Str} {K : Kn} {ρ : Rho} {a : Addr} {o : Obj} {fd : FuncData} {body : List Stmt} {ps : List Str}
theorem call_cells {prog : Program} {w : World} {A : Around} {s : Shared} {R : Result → Shared → Prop} {a : Addr} {o : Obj} {fd : FuncData} {body : List Stmt} {vals : List Value} {binds : List (Str × Value)}
  (hroom : A.depth < recursionLimit) (ho : s.heap.get? a = some o) (hdata : o.data = .func fd) (hlim : s.heap.NoLimit) (hcd : s.heap.CodeRec fd.code fd.qualname)
  (hbody : fd.body = .stmts body) (hbind : BindsTo s fd ⟨vals, []⟩ binds) (hclo : fd.closure = [])
  (hkind : ∀ x ∈ binds, fd.scope.names.lookup x.1 = some .local ∨ (fd.scope.names.lookup x.1 = some .cell ∧ ((cellsFrom (s.heap.objs.size + 1) fd.scope.names []).lookup x.1).isSome = true))
  (h : ∀ s₁, InCallC s (callEnvC fd s.heap.objs.size a).locals (bindL (callEnvC fd s.heap.objs.size a).kindOf binds fun _ => none) (callEnvC fd s.heap.objs.size a).cells
    (bindC (callEnvC fd s.heap.objs.size a).kindOf binds fun _ => none) s₁ →
   wpAny (model prog w) (A.deeper (callEnvC fd s.heap.objs.size a)) (execs body (callEnvC fd s.heap.objs.size a)) (fun f s' => R (.ok (.ret (match f with | .ret v => v | _ => .none))) s')
    (fun e s' => wpAny (model prog w) (A.deeper (callEnvC fd s.heap.objs.size a)) (leaving (callEnvC fd s.heap.objs.size a) e) (fun _ s'' => R (.error e) s'') (fun e' s'' => R (.error e') s'') s') s₁)
  (hco : fd.scope.isCoroutine = false) (hgen : fd.scope.isGenerator = false) (hk : fd.scope.kind = .function) :
  codeAny (model prog w) A (.call (.ref a) ⟨vals, []⟩) R s := by
 refine codeAny_call_function hroom ho hdata hco hgen hbody hcd (hbind _ _ _ _ ?_)
 rw [hclo]
 refine wpAny_newFunctionEnv_cells hk hkind fun env he s' x => ?_
 subst he
 exact ⟨hlim.keeps x.toInCall.keep, codeAny_func (h s' x)⟩
theorem enter (fr : FnRec G a o fd body K ps) {A : Around} {X : List Addr} {s : Shared} {ds : List D} {vs : List Value} (room : Room (k + 1) A) (cx : Cx G s.heap) (xok : XOk G X s.heap) (r : RdL G.C X s.heap ds vs) (hlen : ds.length = ps.length) {R : Result → Shared → Prop}
  (h : ∀ env Y s₁, Gr G s s₁ → (∀ b ∈ Y, s.heap.get? b = none) → StC G k (A.deeper env) X Y s₁ env K (rho0 K ps ds) →
   wpAny (model G.prog G.w) (A.deeper env) (execs body env) (fun f s' => R (.ok (.ret (match f with | .ret v => v | _ => .none))) s')
    (fun e s' => wpAny (model G.prog G.w) (A.deeper env) (leaving env e) (fun _ s'' => R (.error e) s'') (fun e' s'' => R (.error e') s'') s') s₁) :
  codeAny (model G.prog G.w) A (.call (.ref a) ⟨vs, []⟩) R s := by
 have hvs : vs.length = ps.length := by rw [r.length, hlen]
 have hroom : A.depth < recursionLimit := by have := room.depth; omega
 have zl : ∀ y : Str × Value, y ∈ ps.zip vs → y.1 ∈ ps := fun y hy => (List.of_mem_zip hy).1
 refine call_cells hroom (cx.hb _ _ fr.ho) fr.hd (G.nolim.keeps cx.hb) (CodeRec.up fr.code cx.hb) fr.body (fr.bind vs hvs s cx.hb) fr.clo (fun y hy => ?_) (fun s₁ ic => ?_) fr.co fr.gen fr.kind
 ·rw [fr.names]
  rcases fr.par y.1 (zl y hy) with q | q
  ·exact .inl q
  ·exact .inr ⟨q, cellsFrom_has K _ [] y.1 q⟩
 ·obtain ⟨h', tk, rfl, keep⟩ := ic.done
  have g : Gr G s { s with heap := h', toks := tk } := Gr.of keep
  have eL : (callEnvC fd s.heap.objs.size a).locals = s.heap.objs.size := rfl
  have eK : (callEnvC fd s.heap.objs.size a).scope.names = K := fr.names
  have kof : ∀ x, (callEnvC fd s.heap.objs.size a).kindOf x = K.lookup x := fun x => by unfold Env.kindOf; rw [eK]
  generalize henv : callEnvC fd s.heap.objs.size a = env at *
  have ns := ic.toInCall.ns
  have hfresh : ∀ b ∈ (env.locals :: (K.map (·.1)).filterMap (env.cells.lookup ·)), s.heap.get? b = none := fun b hb => by
   rcases List.mem_cons.mp hb with rfl | hb
   ·rw [eL]; exact zL (o := { cls := .none, data := .fields #[] })
   ·obtain ⟨x, hx, hc⟩ := List.mem_filterMap.mp hb
    have := ic.above x b (mem_of_lookup hc)
    rw [eL] at this
    exact zF (Nat.le_of_lt this)
  refine h env (env.locals :: (K.map (·.1)).filterMap (env.cells.lookup ·)) _ g hfresh ⟨⟨room.hh, ?_, ?_⟩, g.cx cx, ⟨fun b hb => List.mem_append_right _ (xok.tabs b hb), fun b hb => ?_⟩, xok.tabs, ⟨_, (fun _ => none), ⟨⟨(fun cc q => by rw [← henv]; exact fr.cod cc q), eK, ?_, ?_, ?_⟩, ns, fun x y b h1 => (by cases h1), fun x d hd => ?_⟩, fun x b h1 => by cases h1⟩, .head _, ?_, ic.apart, ?_, ?_, ?_, ?_, fr.free⟩
  ·have := room.depth
   show A.depth + 1 + 2 * k < recursionLimit
   omega
  ·have := room.units
   show A.units + 3 + 40 * k + 100 < cLine
   omega
  ·rcases List.mem_append.mp hb with hb | hb
   ·rcases List.mem_cons.mp hb with rfl | hb
    ·obtain ⟨oo, _, _, ho, _⟩ := ns; exact ⟨oo, ho⟩
    ·obtain ⟨x, hx, hc⟩ := List.mem_filterMap.mp hb
     obtain ⟨oo, ho, _⟩ := ic.cell x b hc
     exact ⟨oo, ho⟩
   ·exact (xok.gr cx.ti g).live b hb
  ·rw [← henv]; exact fr.kind
  ·rw [← henv]; exact fr.glob
  ·rw [← henv]; exact fr.bi
  ·rcases rho0_lookup hd with q | q
   ·exact .inl q
   ·obtain ⟨v, hv, hr⟩ := zip_values r q
    have hxp : x ∈ ps := zl (x, v) (mem_of_lookup hv)
    have nd : ((ps.zip vs).map (·.1)).Nodup := by
     rw [List.map_fst_zip (by omega)]; exact fr.nodup
    refine .inr ⟨v, ?_, ?_⟩
    ·rcases fr.par x hxp with z | z
     ·exact .inl ⟨(kof x).trans z, bindL_at _ _ _ _ _ nd hv ((kof x).trans z)⟩
     ·obtain ⟨c, hc⟩ := Option.isSome_iff_exists.mp (cellsFrom_has K (s.heap.objs.size + 1) [] x z)
      have hc' : env.cells.lookup x = some c := by rw [← henv]; show (cellsFrom _ fd.scope.names []).lookup x = _; rw [fr.names]; exact hc
      refine .inr ⟨.inl ((kof x).trans z), c, hc', ?_⟩
      have := ic.cell x c hc'
      rw [bindC_at _ _ _ _ _ nd hv ((kof x).trans z)] at this
      exact this
    ·have hr' : Rd G.C (env.locals :: (K.map (·.1)).filterMap (env.cells.lookup ·) ++ X) h' d v := hr.lift (fun b hb => (List.mem_append.mp hb).elim (fun q => .inr (hfresh b q)) .inl) fun b o _ e => keep b o e
     cases d <;> first | exact hr' | (unfold Rd at hr'; exact hr'.elim)
  ·intro x c hc hx
   exact ⟨.tail _ (List.mem_filterMap.mpr ⟨x, List.mem_map.mpr ⟨(x, .cell), mem_of_lookup hx, rfl⟩, hc⟩), _, ic.cell x c hc⟩
  ·intro y hy
   rcases List.mem_cons.mp hy with rfl | hy
   ·exact .dict ns
   ·obtain ⟨x, hx, hc⟩ := List.mem_filterMap.mp hy
    exact .cell (ic.cell x y hc)
  ·intro b hb q
   obtain ⟨oo, ho⟩ := xok.live b q
   rw [hfresh b hb] at ho; cases ho
  ·intro b hb
   cases q : G.hb.get? b with
   | none => rfl
   | some oo => have := cx.hb b oo q; rw [hfresh b hb] at this; cases this
  ·intro x hx
   obtain ⟨c, hc⟩ := Option.isSome_iff_exists.mp (cellsFrom_has K (s.heap.objs.size + 1) [] x hx)
   exact ⟨c, by rw [← henv]; show (cellsFrom _ fd.scope.names []).lookup x = _; rw [fr.names]; exact hc⟩
theorem fn_ok (ok : CfOk G cf k) (fr : FnRec G a o fd body K ps) {ds : List D} {d : D} (hlen : ds.length = ps.length) (run : exL cf mu n K (rho0 K ps ds) body = some (.ret d)) :
  ∀ A X s vs, Room (k + 1) A → Cx G s.heap → XOk G X s.heap → RdL G.C X s.heap ds vs → ∀ E, wpAny (model G.prog G.w) A (call (.ref a) vs) (fun v s' => Gr G s s' ∧ Rd G.C X s'.heap d v) E s := by
 intro A X s vs room cx xok r E
 refine wpAny_call (enter fr room cx xok r hlen fun env Y s₁ g fresh c => ?_)
 refine wpAny_mono ((ex_sound ok mu n).2 _ _ _ _ run _ X Y s₁ env c _) (fun f s' p => ?_) fun _ _ e => e
 obtain ⟨Y', t, v, rfl, rd⟩ := p
 exact ⟨⟨fun b o hT e => t.grb.heap b o hT (fun q => by rw [fresh b q] at e; cases e) (g.heap b o hT e), fun z => t.grb.ti (g.ti z), t.grb.os.trans g.os, fun z => t.grb.bare (g.bare z)⟩, rd⟩
end
end Mine
namespace Mine
open PySem PySem.Calls PyProof.Rows PySem.W
def TabOk (q : Addr → Str) (h : Heap) (P : Addr) : Prop := ∃ ps, h.get? P = some (tabObj ps) ∧ TriplesOk ps.toList ∧ ∀ pos cv, codeAmong pos ps.toList = some cv → h.CodeRec cv (q P)
theorem codeAmong_snoc_some {pos pos' : Pos} {c cv : Value} (l : List Value) (hl : TriplesOk l) (h : codeAmong pos' (l ++ [rawInt pos.line, rawInt pos.col, c]) = some cv) : codeAmong pos' l = some cv ∨ cv = c := by
 fun_induction TriplesOk l with
 | case1 =>
  right
  simp only [List.nil_append, rawInt, codeAmong] at h
  split at h
  ·exact (Option.some.inj h).symm
  ·cases h
 | case2 a t b u x rest ih =>
  simp only [List.cons_append, codeAmong] at h ⊢
  split at h
  ·rename_i hc
   rw [if_pos hc]; exact .inl h
  ·rename_i hc
   rw [if_neg hc]; exact ih hl h
 | case3 l h1 h2 => exact hl.elim
theorem CodeRec.tk {h : Heap} {c : Value} {q : Str} (x : h.CodeRec c q) {h' : Heap} (k : ∀ b o, TK o → h.get? b = some o → h'.get? b = some o) : h'.CodeRec c q := by
 obtain ⟨c, oc, vs, tq, hc, hoc, hd, hq⟩ := x
 exact ⟨c, oc, vs, tq, hc, k _ _ ⟨vs, hd, .inr ⟨q, tq, hq⟩⟩ hoc, hd, hq⟩
theorem TabOk.tk {q : Addr → Str} {h h' : Heap} {P : Addr} (x : TabOk q h P) (k : ∀ b o, TK o → h.get? b = some o → h'.get? b = some o) : TabOk q h' P := by
 obtain ⟨ps, e, t, c⟩ := x
 exact ⟨ps, k _ _ ⟨ps, rfl, .inl rfl⟩ e, t, fun pos cv hc => CodeRec.tk (c pos cv hc) k⟩
def mkGd (prog : Program) (w : World) (hb : Heap) (T : List Addr) (q : Addr → Str) (C : Addr) (mg mb : Str → Option Value) (hmg : hb.Ns mainGlobals mg) (hmb : hb.Ns builtinsNs mb) (nolim : hb.NoLimit) (hT : ∀ a ∈ T, hb.get? a = none) : Gd where
 prog := prog
 w := w
 hb := hb
 T := T
 TI := fun h => ∀ P ∈ T, TabOk q h P
 C := C
 mg := mg
 mb := mb
 hmg := hmg
 hmb := hmb
 nolim := nolim
 hT := hT
 tabs := fun h ti a ha => by
  obtain ⟨ps, e, _⟩ := ti a ha
  exact ⟨ps, e⟩
 frame := fun h h' ti k P hP => TabOk.tk (ti P hP) k
theorem cx_start {H : Heap} {tabs : List (Addr × Addr)} (hT : TabsAt tabs H) {prog w q C mg mb hmg hmb nolim hT'} : Cx (mkGd prog w (ghostOf H tabs) (tabs.map (·.2)) q C mg mb hmg hmb nolim hT') H := by
 refine ⟨fun b o e => of_hideAll _ e, fun P hP => ?_⟩
 obtain ⟨p, hp, rfl⟩ := List.mem_map.mp hP
 exact ⟨#[], (hT p hp).2, trivial, fun pos cv h => by simp [codeAmong] at h⟩
theorem fnRec_ofB {G : Gd} {Kf : Frag} (X : Kf.In G.hb) {a : Addr} {o : Obj} {fd : FuncData} {body : List Stmt} {K : Kn} {ps : List Str} (hl : Kf.lookup a = some o) (hd : o.data = .func fd) (hb : fd.body = .stmts body) (hclo : fd.closure = []) (hg : fd.globals = mainGlobals) (hbi : fd.builtins = builtinsNs)
  (hcode : codeIn Kf fd.code fd.qualname = true) (hK : fd.scope.names = K) (hkind : fd.scope.kind = .function) (hco : fd.scope.isCoroutine = false) (hgen : fd.scope.isGenerator = false) (hbind : ∀ vals : List Value, vals.length = ps.length → ∀ s : Shared, (∀ b o, G.hb.get? b = some o → s.heap.get? b = some o) → BindsTo s fd ⟨vals, []⟩ (ps.zip vals))
  (hpar : ps.all (fun x => K.lookup x == some .local || K.lookup x == some .cell) = true) (hnd : ps.Nodup) (hfree : K.all (fun p => p.2 != .free) = true) (hcod : ∀ c, codeOf K = some c → fd.code = c.1 ∧ fd.qualname ++ (".<locals>." : Str) = c.2) : FnRec G a o fd body K ps :=
 ⟨X _ _ hl, hd, hb, hclo, hg, hbi, codeRec_of X hcode, hK, hkind, hco, hgen, hbind, fun x hx => by
  have := List.all_eq_true.mp hpar x hx
  simpa using this, hnd, fun x hx => by
  have := List.all_eq_true.mp hfree (x, .free) (mem_of_lookup hx)
  simp at this, hcod⟩
theorem fnRec_of {G : Gd} {Kf : Frag} (X : Kf.In G.hb) {a : Addr} {o : Obj} {fd : FuncData} {body : List Stmt} {K : Kn} {ps : List Str} (hl : Kf.lookup a = some o) (hd : o.data = .func fd) (hb : fd.body = .stmts body) (hclo : fd.closure = []) (hg : fd.globals = mainGlobals) (hbi : fd.builtins = builtinsNs)
  (hcode : codeIn Kf fd.code fd.qualname = true) (hK : fd.scope.names = K) (hkind : fd.scope.kind = .function) (hco : fd.scope.isCoroutine = false) (hgen : fd.scope.isGenerator = false) (hbind : ∀ vals : List Value, vals.length = ps.length → bindArgs fd ⟨vals, []⟩ = pure (ps.zip vals))
  (hpar : ps.all (fun x => K.lookup x == some .local || K.lookup x == some .cell) = true) (hnd : ps.Nodup) (hfree : K.all (fun p => p.2 != .free) = true) (hcod : ∀ c, codeOf K = some c → fd.code = c.1 ∧ fd.qualname ++ (".<locals>." : Str) = c.2) : FnRec G a o fd body K ps :=
 fnRec_ofB X hl hd hb hclo hg hbi hcode hK hkind hco hgen (fun vals h s _ => .of_eq (hbind vals h)) hpar hnd hfree hcod
end Mine
namespace Mine
open PySem PySem.Calls PyProof.Rows PySem.W
def pStmt (i : Nat) : Option Stmt := PySem.Challenge.pw_ik0160_01.main.body[i]?
def pBody (i : Nat) : List Stmt := match pStmt i with | some (.FunctionDef _ _ body _ _ _ _ _ _ _) => body | _ => []
def pNames (i : Nat) : Kn := match pStmt i with | some (.FunctionDef _ _ _ _ _ _ scope _ _ _) => scope.names | _ => []
def lpBody (l : List Stmt) (i : Nat) : List Stmt := match l[i]? with | some (.While _ b _ _) => b | some (.For _ _ b _ _) => b | _ => []
def lpTest (l : List Stmt) (i : Nat) : Expr := match l[i]? with | some (.While t _ _ _) => t | _ => .Constant .none 0 default
def lamOk (ps : Arguments) (sc : Scope) : Bool := sc.names.all (fun p => p.2 != .free) && ps.defaults.isEmpty && ps.kw_defaults.isEmpty
theorem lookup_if (x k : Str) (d : D) (r : Rho) : List.lookup x ((k, d) :: r) = if x = k then some d else List.lookup x r := by
 rw [List.lookup_cons]
 by_cases h : x = k
 ·subst h; simp
 ·have : (x == k) = false := by simp [h]
  simp [this, h]
theorem lookupK_if (x k : Str) (d : NameKind) (r : Kn) : List.lookup x ((k, d) :: r) = if x = k then some d else List.lookup x r := by
 rw [List.lookup_cons]
 by_cases h : x = k
 ·subst h; simp
 ·have : (x == k) = false := by simp [h]
  simp [this, h]
theorem lookup_no (x : Str) : List.lookup x ([] : Rho) = none := rfl
theorem lookupK_no (x : Str) : List.lookup x ([] : Kn) = none := rfl
theorem setV_if (x y : Str) (d v : D) (r : Rho) : setV ((y, v) :: r) x d = if y = x then (y, d) :: r else (y, v) :: setV r x d := by
 rw [setV]
 by_cases h : y = x
 ·subst h; simp
 ·have : (y == x) = false := by simp [h]
  simp [this, h]
theorem setV_no (x : Str) (d : D) : setV [] x d = [] := rfl
theorem dropApp_app (x y z : Str) (r : Rho) : dropApp ((y, .app z) :: r) x = (y, if z = x then .unb else .app z) :: dropApp r x := by
 rw [dropApp]
 by_cases h : z = x
 ·subst h; simp
 ·have : (z == x) = false := by simp [h]
  simp [this, h]
theorem zJ (x y : Str) (v : D) (r : Rho) (h : ∀ z, v ≠ .app z) : dropApp ((y, v) :: r) x = (y, v) :: dropApp r x := by
 cases v with
 | app z => exact absurd rfl (h z)
 | _ => rfl
theorem dropApp_no (x : Str) : dropApp [] x = [] := rfl
theorem storable_eq (K : Kn) (x : Str) : storable K x = (match K.lookup x with | some .local => true | some .cell => true | _ => false) := rfl
theorem stD_eq (ρ : Rho) (x : Str) (d : D) : stD ρ x d = setV (dropApp ρ x) x d := rfl
section
variable (cf : Cf) (n : Nat) (K : Kn) (ρ : Rho) (mu : List Str)
theorem q_int (i : Int) (k p) : evD cf (n + 1) K ρ (.Constant (.int i) k p) = some (.int i) := rfl
theorem q_str (i : Str) (k p) : evD cf (n + 1) K ρ (.Constant (.str i) k p) = some (.str i) := rfl
theorem q_none (k p) : evD cf (n + 1) K ρ (.Constant .none k p) = some .none := rfl
theorem q_bool (b k p) : evD cf (n + 1) K ρ (.Constant (.bool b) k p) = some (.bool b) := rfl
theorem q_name (x p) : evD cf (n + 1) K ρ (.Name x p) = if ((x == ("__debug__" : Str)) || (x == ("__classdict__" : Str))) = true then none else (match ρ.lookup x with
   | some d => (match d with | .unb => none | .app _ => none | d => some d)
   | none => (match K.lookup x with | some .globalImplicit => cf.Γ x | _ => none)) := rfl
theorem q_bin (l op r p) : evD cf (n + 1) K ρ (.BinOp l op r p) = (match evD cf n K ρ l with | some a => (match evD cf n K ρ r with | some b => binD op a b | none => none) | none => none) := rfl
theorem q_neg (x p) : evD cf (n + 1) K ρ (.UnaryOp .USub x p) = (match evD cf n K ρ x with | some a => unD .USub a | none => none) := rfl
theorem q_if (t b o p) : evD cf (n + 1) K ρ (.IfExp t b o p) = (match tsD cf n K ρ t with | some true => evD cf n K ρ b | some false => evD cf n K ρ o | none => none) := rfl
theorem q_and (a b p) : evD cf (n + 1) K ρ (.BoolOp .And [a, b] p) = (match evD cf n K ρ a with | some va => (match truS va with | some true => evD cf n K ρ b | some false => some va | none => none) | none => none) := rfl
theorem q_cmp (l op r p) : evD cf (n + 1) K ρ (.Compare l [op] [r] p) = (match evD cf n K ρ l with | some a => (match evD cf n K ρ r with | some b => (match cmpD op a b with | some c => some (.bool c) | none => none) | none => none) | none => none) := rfl
theorem q_tup (es k p) : evD cf (n + 1) K ρ (.Tuple es k p) = (match evL cf n K ρ es with | some ds => (match (ds.all D.pure && Nat.ble ds.length bigD) with | true => some (.tup ds) | false => none) | none => none) := rfl
theorem q_list (es p) : evD cf (n + 1) K ρ (.List es p) = (match evL cf n K ρ es with | some ds => (match (ds.all D.pure && Nat.ble ds.length bigD) with | true => some (.lst ds) | false => none) | none => none) := rfl
theorem q_slice (v lo hi q p) : evD cf (n + 1) K ρ (.Subscript v (.Slice lo hi none q) p) = (match evD cf n K ρ v with
   | some a => (match (match lo with | none => some none | some e => (match evD cf n K ρ e with | some (.int i) => some (some i) | _ => none) : Option (Option Int)) with
    | some l => (match (match hi with | none => some none | some e => (match evD cf n K ρ e with | some (.int i) => some (some i) | _ => none) : Option (Option Int)) with
     | some h => sliceD a l h
     | none => none)
    | none => none)
   | none => none) := rfl
theorem q_sub_name (v x q p) : evD cf (n + 1) K ρ (.Subscript v (.Name x q) p) = (match evD cf n K ρ v with | some a => (match evD cf n K ρ (.Name x q) with | some b => idxD a b | none => none) | none => none) := rfl
theorem q_sub_const (v x k q p) : evD cf (n + 1) K ρ (.Subscript v (.Constant x k q) p) = (match evD cf n K ρ v with | some a => (match evD cf n K ρ (.Constant x k q) with | some b => idxD a b | none => none) | none => none) := rfl
theorem q_sub_bin (v l op r q p) : evD cf (n + 1) K ρ (.Subscript v (.BinOp l op r q) p) = (match evD cf n K ρ v with | some a => (match evD cf n K ρ (.BinOp l op r q) with | some b => idxD a b | none => none) | none => none) := rfl
theorem q_sub_neg (v op x q p) : evD cf (n + 1) K ρ (.Subscript v (.UnaryOp op x q) p) = (match evD cf n K ρ v with | some a => (match evD cf n K ρ (.UnaryOp op x q) with | some b => idxD a b | none => none) | none => none) := rfl
theorem q_call (f p a as q) : evD cf (n + 1) K ρ (.Call (.Name f p) (a :: as) [] q) = (match ρ.lookup f with
   | none => (match evD cf n K ρ (.Name f p) with
    | some fd => (match evL cf n K ρ (a :: as) with | some ds => (match ds.all (argOk fd) with | true => callD cf fd ds | false => none) | none => none)
    | none => none)
   | some _ => none) := rfl
theorem q_meth (o name apos a as pos) : evD cf (n + 1) K ρ (.Call (.Attribute o name apos) (a :: as) [] pos) = (match (isCN o && (apos.endLine == pos.line) && Nat.ble (as.length) 20) with
   | true => (match evD cf n K ρ o with
    | some (.str x) => (match evL cf n K ρ (a :: as) with | some ds => (match ds.all (argOk (.blt "")) with | true => meth name x ds | false => none) | none => none)
    | _ => cf.H K ρ (.Call (.Attribute o name apos) (a :: as) [] pos))
   | false => none) := rfl
theorem q_root (x p y q) : evD cf (n + 1) K ρ (.Attribute (.Name x p) y q) = (match y == ("root" : Str) with
   | true => (match evD cf n K ρ (.Name x p) with | some (.node r _) => some (.int r) | _ => none)
   | false => none) := rfl
theorem q_comp (elt x px iter ifs csc p) : evD cf (n + 1) K ρ (.ListComp elt [⟨.Name x px, iter, ifs, 0⟩] csc p) =
 (match (goodComp csc.names K ρ x && (csc.kind == .function)) with
   | true => (match evD cf n K ρ iter with
    | some d => (match itemsD d with
     | some ds => (match compD (fun d => tsL cf n (relK csc.names K) ((x, d) :: ρ.filter fun q => freeIn csc.names q.1) ifs) (fun d => evD cf n (relK csc.names K) ((x, d) :: ρ.filter fun q => freeIn csc.names q.1) elt) ds with
      | some ys => some (.lst ys)
      | none => none)
     | none => none)
    | none => none)
   | false => none) := rfl
theorem q_join (v₁ v₂ vs p) : evD cf (n + 1) K ρ (.JoinedStr (v₁ :: v₂ :: vs) p) = (match fsD cf n K ρ (v₁ :: v₂ :: vs) with
   | some xs => (match Nat.ble (lensS xs) bigD with | true => some (.str (xs.foldl (· ++ ·) Str.empty)) | false => none)
   | none => none) := rfl
theorem t_not (x p) : tsD cf (n + 1) K ρ (.UnaryOp .Not x p) = (match tsD cf n K ρ x with | some b => some (!b) | none => none) := rfl
theorem t_and (es p) : tsD cf (n + 1) K ρ (.BoolOp .And es p) = allD cf n K ρ es := rfl
theorem t_or (es p) : tsD cf (n + 1) K ρ (.BoolOp .Or es p) = anyD cf n K ρ es := rfl
theorem t_cmp (l op r p) : tsD cf (n + 1) K ρ (.Compare l [op] [r] p) = (match evD cf n K ρ l with | some a => (match evD cf n K ρ r with | some b => cmpD op a b | none => none) | none => none) := rfl
theorem t_name (x p) : tsD cf (n + 1) K ρ (.Name x p) = (match evD cf n K ρ (.Name x p) with | some a => truS a | none => none) := rfl
theorem t_call (f as ks p) : tsD cf (n + 1) K ρ (.Call f as ks p) = (match evD cf n K ρ (.Call f as ks p) with | some a => truS a | none => none) := rfl
theorem q_lnil : evL cf (n + 1) K ρ [] = some [] := rfl
theorem q_lcons (e es) : evL cf (n + 1) K ρ (e :: es) = (match evD cf n K ρ e with | some d => (match evL cf n K ρ es with | some ds => some (d :: ds) | none => none) | none => none) := rfl
theorem t_lnil : tsL cf (n + 1) K ρ [] = some true := rfl
theorem t_lcons (e es) : tsL cf (n + 1) K ρ (e :: es) = (match tsD cf n K ρ e with | some true => tsL cf n K ρ es | some false => some false | none => none) := rfl
theorem t_anil : allD cf (n + 1) K ρ [] = some true := rfl
theorem t_acons (e es) : allD cf (n + 1) K ρ (e :: es) = (match tsD cf n K ρ e with | some true => allD cf n K ρ es | some false => some false | none => none) := rfl
theorem t_onil : anyD cf (n + 1) K ρ [] = some false := rfl
theorem t_ocons (e es) : anyD cf (n + 1) K ρ (e :: es) = (match tsD cf n K ρ e with | some true => some true | some false => anyD cf n K ρ es | none => none) := rfl
theorem f_nil : fsD cf (n + 1) K ρ [] = some [] := rfl
theorem f_str (x k p es) : fsD cf (n + 1) K ρ (.Constant (.str x) k p :: es) = (match fsD cf n K ρ es with | some xs => some (x :: xs) | none => none) := rfl
theorem f_val (e p es) : fsD cf (n + 1) K ρ (.FormattedValue e (-1) none p :: es) = (match evD cf n K ρ e with | some (.str x) => (match fsD cf n K ρ es with | some xs => some (x :: xs) | none => none) | _ => none) := rfl
def asgD (cf : Cf) (n : Nat) (K : Kn) (ρ : Rho) (x : Str) (v : Expr) : Option Out := match storable K x with | true => (match evD cf (n + 1) K ρ v with | some d => (match d.pure with | true => some (.next (stD ρ x d)) | false => none) | none => none) | false => none
theorem q_asg_bin (x px l op r p pos) : exD cf mu (n + 1) K ρ (.Assign [.Name x px] (.BinOp l op r p) pos) = asgD cf n K ρ x (.BinOp l op r p) := rfl
theorem q_asg_sub (x px l r p pos) : exD cf mu (n + 1) K ρ (.Assign [.Name x px] (.Subscript l r p) pos) = asgD cf n K ρ x (.Subscript l r p) := rfl
theorem q_asg_if (x px t b o p pos) : exD cf mu (n + 1) K ρ (.Assign [.Name x px] (.IfExp t b o p) pos) = asgD cf n K ρ x (.IfExp t b o p) := rfl
theorem q_asg_call (x px f as ks p pos) : exD cf mu (n + 1) K ρ (.Assign [.Name x px] (.Call f as ks p) pos) = asgD cf n K ρ x (.Call f as ks p) := rfl
theorem q_asg_const (x px c k p pos) : exD cf mu (n + 1) K ρ (.Assign [.Name x px] (.Constant c k p) pos) = asgD cf n K ρ x (.Constant c k p) := rfl
theorem q_asg_name (x px y p pos) : exD cf mu (n + 1) K ρ (.Assign [.Name x px] (.Name y p) pos) = asgD cf n K ρ x (.Name y p) := rfl
theorem q_asg_list (x px es p pos) : exD cf mu (n + 1) K ρ (.Assign [.Name x px] (.List es p) pos) = (match storable K x with
   | true => (match mu.contains x with
     | true => (match evL cf n K ρ es with | some ds => (match (ds.all D.pure && Nat.ble ds.length bigD) with | true => some (.next (stD ρ x (.own ds))) | false => none) | none => none)
     | false => (match evD cf (n + 1) K ρ (.List es p) with | some d => (match d.pure with | true => some (.next (stD ρ x d)) | false => none) | none => none))
   | false => none) := rfl
theorem q_asg_attr (x px r rp nm q pos) : exD cf mu (n + 1) K ρ (.Assign [.Name x px] (.Attribute (.Name r rp) nm q) pos) = (match storable K x with
   | true => (match (nm == ("append" : Str)) with
     | true => (match ρ.lookup r with | some (.own _) => (match (zO r && (r != x)) with | true => some (.next (stD ρ x (.app r))) | false => none) | _ => none)
     | false => (match evD cf (n + 1) K ρ (.Attribute (.Name r rp) nm q) with | some d => (match d.pure with | true => some (.next (stD ρ x d)) | false => none) | none => none))
   | false => none) := rfl
theorem q_asg_two (x px y py k p a f as ks fp k2 p2 pos) : exD cf mu (n + 1) K ρ (.Assign [.Tuple [.Name x px, .Name y py] k p] (.Tuple [a, .Call f as ks fp] k2 p2) pos) = (match ((K.lookup x == some .local) && (K.lookup y == some .local) && (px.line == py.line) && (x != y)) with
   | true => (match evD cf n K ρ a with
    | some da => (match evD cf n K ρ (.Call f as ks fp) with
     | some db => (match (da.pure && db.pure) with | true => some (.next (stD (stD ρ y db) x da)) | false => none)
     | none => none)
    | none => none)
   | false => none) := rfl
theorem q_aug (x p e pos) : exD cf mu (n + 1) K ρ (.AugAssign (.Name x p) .Add e pos) = (match (storable K x && zO x) with
   | true => (match evD cf (n + 1) K ρ (.Name x p) with
    | some (.int i) => (match evD cf n K ρ e with | some (.int j) => some (.next (stD ρ x (.int (i + j)))) | _ => none)
    | _ => none)
   | false => none) := rfl
theorem q_augSub (x p i q e pos) : exD cf mu (n + 1) K ρ (.AugAssign (.Subscript (.Name x p) i q) .Add e pos) = (match ρ.lookup x with
   | some (.own ds) => (match (zO x && Nat.ble ds.length bigD) with
    | true => (match evD cf n K ρ i with
     | some (.int k) => (match (decide (k < 0) && decide (0 ≤ k + ds.length)) with
      | true => (match ds[(k + ds.length).toNat]? with
       | some (.str z) => (match evD cf n K ρ e with
        | some (.str y) => (match Nat.ble (z.length + y.length) bigD with | true => some (.next (setV ρ x (.own (ds.set (k + ds.length).toNat (.str (z ++ y)))))) | false => none)
        | _ => none)
       | _ => none)
      | false => none)
     | _ => none)
    | false => none)
   | _ => none) := rfl
theorem q_sif (t b o pos) : exD cf mu (n + 1) K ρ (.If t b o pos) = (match tsD cf n K ρ t with | some true => exL cf mu n K ρ b | some false => exL cf mu n K ρ o | none => none) := rfl
def whS (t : Expr) (b : List Stmt) : Option Out := whD (fun ρ => tsD cf n K ρ t) (fun ρ => exL cf mu n K ρ b) loopD ρ
def forS (x : Str) (b : List Stmt) (ds : List D) : Option Out := forD (fun ρ => exL cf mu n K ρ b) x ds ρ
theorem q_while (t b pos) : exD cf mu (n + 1) K ρ (.While t b [] pos) = whS cf n K ρ mu t b := rfl
theorem q_for (x px it b pos) : exD cf mu (n + 1) K ρ (.For (.Name x px) it b [] pos) = (match storable K x with
   | true => (match evD cf n K ρ it with
    | some d => (match itemsD d with | some ds => forS cf n K ρ mu x b ds | none => none)
    | none => none)
   | false => none) := rfl
theorem q_retIf (t b o p pos) : exD cf mu (n + 1) K ρ (.Return (some (.IfExp t b o p)) pos) = (match tsD cf n K ρ t with
   | some true => ret1 (evD cf n K ρ) ρ b
   | some false => ret1 (evD cf n K ρ) ρ o
   | none => none) := rfl
theorem q_ret_name (x p pos) : exD cf mu (n + 1) K ρ (.Return (some (.Name x p)) pos) = ret1 (evD cf n K ρ) ρ (.Name x p) := rfl
theorem q_ret_bin (l op r p pos) : exD cf mu (n + 1) K ρ (.Return (some (.BinOp l op r p)) pos) = ret1 (evD cf n K ρ) ρ (.BinOp l op r p) := rfl
theorem q_ret_const (c k p pos) : exD cf mu (n + 1) K ρ (.Return (some (.Constant c k p)) pos) = ret1 (evD cf n K ρ) ρ (.Constant c k p) := rfl
theorem q_ret_comp (e g c p pos) : exD cf mu (n + 1) K ρ (.Return (some (.ListComp e g c p)) pos) = ret1 (evD cf n K ρ) ρ (.ListComp e g c p) := rfl
theorem q_ret_and (op es p pos) : exD cf mu (n + 1) K ρ (.Return (some (.BoolOp op es p)) pos) = ret1 (evD cf n K ρ) ρ (.BoolOp op es p) := rfl
theorem q_ret_join (es p pos) : exD cf mu (n + 1) K ρ (.Return (some (.JoinedStr es p)) pos) = ret1 (evD cf n K ρ) ρ (.JoinedStr es p) := rfl
theorem q_append (x xp nm apos a cpos pos) : exD cf mu (n + 1) K ρ (.Expr (.Call (.Attribute (.Name x xp) nm apos) [a] [] cpos) pos) = (match ((nm == ("append" : Str)) && (apos.endLine == cpos.line) && zO x) with
   | true => (match ρ.lookup x with
    | some (.own ds) => (match evD cf n K ρ a with | some d => (match (d.pure && Nat.ble ds.length bigD) with | true => some (.next (setV ρ x (.own (ds ++ [d])))) | false => none) | none => none)
    | _ => none)
   | false => none) := rfl
theorem q_add (f fp a cpos pos) : exD cf mu (n + 1) K ρ (.Expr (.Call (.Name f fp) [a] [] cpos) pos) = (match zO f with
   | true => (match ρ.lookup f with
    | some (.app x) => (match ρ.lookup x with
     | some (.own ds) => (match evD cf n K ρ a with | some d => (match (d.pure && Nat.ble ds.length bigD) with | true => some (.next (setV ρ x (.own (ds ++ [d])))) | false => none) | none => none)
     | _ => none)
    | _ => none)
   | false => none) := rfl
theorem q_assert (t pos) : exD cf mu (n + 1) K ρ (.Assert t none pos) = (match tsD cf n K ρ t with | some true => some (.next ρ) | _ => none) := rfl
theorem q_break (pos) : exD cf mu (n + 1) K ρ (.Break pos) = some (.brk ρ) := rfl
theorem q_nil : exL cf mu (n + 1) K ρ [] = some (.next ρ) := rfl
theorem q_cons (st ss) : exL cf mu (n + 1) K ρ (st :: ss) = (match exD cf mu n K ρ st with | some (.next ρ') => exL cf mu n K ρ' ss | o => o) := rfl
theorem ret1_name (ev : Expr → Option D) (x p) : ret1 ev ρ (.Name x p) = (match (match ρ.lookup x with | some (.own ds) => (match zO x with | true => some ds | false => none) | _ => none : Option (List D)) with
 | some ds => some (.ret (.lst ds))
 | none => (match ev (.Name x p) with | some d => (match d.pure with | true => some (.ret d) | false => none) | none => none)) := rfl
theorem ret1_bin (ev : Expr → Option D) (l op r p) : ret1 ev ρ (.BinOp l op r p) = (match ev (.BinOp l op r p) with | some d => (match d.pure with | true => some (.ret d) | false => none) | none => none) := rfl
theorem ret1_const (ev : Expr → Option D) (c k p) : ret1 ev ρ (.Constant c k p) = (match ev (.Constant c k p) with | some d => (match d.pure with | true => some (.ret d) | false => none) | none => none) := rfl
theorem ret1_comp (ev : Expr → Option D) (l op r p) : ret1 ev ρ (.ListComp l op r p) = (match ev (.ListComp l op r p) with | some d => (match d.pure with | true => some (.ret d) | false => none) | none => none) := rfl
theorem ret1_and (ev : Expr → Option D) (l op p) : ret1 ev ρ (.BoolOp l op p) = (match ev (.BoolOp l op p) with | some d => (match d.pure with | true => some (.ret d) | false => none) | none => none) := rfl
theorem ret1_join (ev : Expr → Option D) (es p) : ret1 ev ρ (.JoinedStr es p) = (match ev (.JoinedStr es p) with | some d => (match d.pure with | true => some (.ret d) | false => none) | none => none) := rfl
end
theorem p_none : D.pure .none = true := rfl
theorem p_bool (b) : D.pure (.bool b) = true := rfl
theorem p_int (b) : D.pure (.int b) = true := rfl
theorem p_str (b) : D.pure (.str b) = true := rfl
theorem p_tup (b) : D.pure (.tup b) = true := rfl
theorem p_lst (b) : D.pure (.lst b) = true := rfl
theorem p_node (b c) : D.pure (.node b c) = true := rfl
theorem p_opq (b) : D.pure (.opq b) = true := rfl
theorem p_blt (b) : D.pure (.blt b) = true := rfl
theorem p_typ (b) : D.pure (.typ b) = true := rfl
theorem p_rng (b c) : D.pure (.rng b c) = true := rfl
theorem ble_0 : Nat.ble 0 bigD = true := rfl
theorem ble_1 : Nat.ble 1 bigD = true := rfl
theorem ble_2 : Nat.ble 2 bigD = true := rfl
theorem ble_3 : Nat.ble 3 bigD = true := rfl
theorem ble_4 : Nat.ble 4 bigD = true := rfl
theorem ble_5 : Nat.ble 5 bigD = true := rfl
theorem plainName_if (x : Str) : zO x = if x = ("__debug__" : Str) ∨ x = ("__classdict__" : Str) then false else true := by
 unfold zO
 by_cases h1 : x = ("__debug__" : Str)
 ·subst h1; simp
 ·by_cases h2 : x = ("__classdict__" : Str)
  ·subst h2; simp
  ·simp [h1, h2]
end Mine
namespace Mine
theorem Q0 : type_of% (And.intro @q_int (And.intro @q_str (And.intro @q_none (And.intro @q_bool (And.intro @q_name (And.intro @q_bin (And.intro @q_neg (And.intro @q_if (And.intro @q_and (And.intro @q_cmp (And.intro @q_tup (And.intro @q_list (And.intro @q_slice (And.intro @q_sub_name (And.intro @q_sub_const (And.intro @q_sub_bin (And.intro @q_sub_neg (And.intro @q_call (And.intro @q_meth (And.intro @q_root (And.intro @q_join (And.intro @t_not (And.intro @t_and (And.intro @t_or (And.intro @t_cmp (And.intro @t_name (And.intro @t_call (And.intro @q_lnil (And.intro @q_lcons (@t_lnil)))))))))))))))))))))))))))))) := And.intro @q_int (And.intro @q_str (And.intro @q_none (And.intro @q_bool (And.intro @q_name (And.intro @q_bin (And.intro @q_neg (And.intro @q_if (And.intro @q_and (And.intro @q_cmp (And.intro @q_tup (And.intro @q_list (And.intro @q_slice (And.intro @q_sub_name (And.intro @q_sub_const (And.intro @q_sub_bin (And.intro @q_sub_neg (And.intro @q_call (And.intro @q_meth (And.intro @q_root (And.intro @q_join (And.intro @t_not (And.intro @t_and (And.intro @t_or (And.intro @t_cmp (And.intro @t_name (And.intro @t_call (And.intro @q_lnil (And.intro @q_lcons (@t_lnil)))))))))))))))))))))))))))))
theorem Q1 : type_of% (And.intro @t_lcons (And.intro @t_anil (And.intro @t_acons (And.intro @t_onil (And.intro @t_ocons (And.intro @f_nil (And.intro @f_str (And.intro @f_val (And.intro @q_asg_bin (And.intro @q_asg_sub (And.intro @q_asg_if (And.intro @q_asg_call (And.intro @q_asg_const (And.intro @q_asg_name (And.intro @q_asg_list (And.intro @q_asg_attr (And.intro @q_asg_two (And.intro @q_aug (And.intro @q_augSub (And.intro @q_sif (And.intro @q_while (And.intro @q_for (And.intro @q_retIf (And.intro @q_ret_name (And.intro @q_ret_bin (And.intro @q_ret_const (And.intro @q_ret_comp (And.intro @q_ret_and (And.intro @q_ret_join (@q_append)))))))))))))))))))))))))))))) := And.intro @t_lcons (And.intro @t_anil (And.intro @t_acons (And.intro @t_onil (And.intro @t_ocons (And.intro @f_nil (And.intro @f_str (And.intro @f_val (And.intro @q_asg_bin (And.intro @q_asg_sub (And.intro @q_asg_if (And.intro @q_asg_call (And.intro @q_asg_const (And.intro @q_asg_name (And.intro @q_asg_list (And.intro @q_asg_attr (And.intro @q_asg_two (And.intro @q_aug (And.intro @q_augSub (And.intro @q_sif (And.intro @q_while (And.intro @q_for (And.intro @q_retIf (And.intro @q_ret_name (And.intro @q_ret_bin (And.intro @q_ret_const (And.intro @q_ret_comp (And.intro @q_ret_and (And.intro @q_ret_join (@q_append)))))))))))))))))))))))))))))
theorem Q2 : type_of% (And.intro @q_add (And.intro @q_assert (And.intro @q_break (And.intro @q_nil (And.intro @q_cons (And.intro @ret1_name (And.intro @ret1_bin (And.intro @ret1_const (And.intro @ret1_comp (And.intro @ret1_and (And.intro @ret1_join (And.intro @stD_eq (And.intro @setV_if (And.intro @setV_no (And.intro @dropApp_no (And.intro @dropApp_app (And.intro @zJ (And.intro @storable_eq (And.intro @lookup_if (And.intro @lookupK_if (And.intro @lookup_no (And.intro @lookupK_no (And.intro @plainName_if (And.intro @p_none (And.intro @p_bool (And.intro @p_int (And.intro @p_str (And.intro @p_tup (And.intro @p_lst (@p_node)))))))))))))))))))))))))))))) := And.intro @q_add (And.intro @q_assert (And.intro @q_break (And.intro @q_nil (And.intro @q_cons (And.intro @ret1_name (And.intro @ret1_bin (And.intro @ret1_const (And.intro @ret1_comp (And.intro @ret1_and (And.intro @ret1_join (And.intro @stD_eq (And.intro @setV_if (And.intro @setV_no (And.intro @dropApp_no (And.intro @dropApp_app (And.intro @zJ (And.intro @storable_eq (And.intro @lookup_if (And.intro @lookupK_if (And.intro @lookup_no (And.intro @lookupK_no (And.intro @plainName_if (And.intro @p_none (And.intro @p_bool (And.intro @p_int (And.intro @p_str (And.intro @p_tup (And.intro @p_lst (@p_node)))))))))))))))))))))))))))))
theorem Q3 : type_of% (And.intro @p_opq (And.intro @p_blt (And.intro @p_typ (And.intro @p_rng (And.intro @ble_0 (And.intro @ble_1 (And.intro @ble_2 (And.intro @ble_3 (And.intro @ble_4 (And.intro @ble_5 (And.intro @Nat.zero_add (And.intro @Bool.and_true (And.intro @Bool.true_and (And.intro @Bool.or_false (And.intro @Bool.false_or (And.intro @Bool.not_true (And.intro @Bool.not_false (And.intro @Bool.and_self (And.intro @Bool.or_self (And.intro @Bool.false_eq_true (And.intro @Bool.and_false (@Bool.false_and)))))))))))))))))))))) := And.intro @p_opq (And.intro @p_blt (And.intro @p_typ (And.intro @p_rng (And.intro @ble_0 (And.intro @ble_1 (And.intro @ble_2 (And.intro @ble_3 (And.intro @ble_4 (And.intro @ble_5 (And.intro @Nat.zero_add (And.intro @Bool.and_true (And.intro @Bool.true_and (And.intro @Bool.or_false (And.intro @Bool.false_or (And.intro @Bool.not_true (And.intro @Bool.not_false (And.intro @Bool.and_self (And.intro @Bool.or_self (And.intro @Bool.false_eq_true (And.intro @Bool.and_false (@Bool.false_and)))))))))))))))))))))
end Mine
namespace Mine
open PySem PySem.Calls PyProof.Rows PySem.W
abbrev Nm := Option (Str × Str)
def nmD : Nm → D | none => .none | some (a, b) => .tup [.str a, .str b]
def rowD (p : Int × Nm) : D := .tup [.int p.1, nmD p.2]
def treeD (t : List (Int × Nm)) : D := .lst (t.map rowD)
theorem k18 : pNames 18 = ([("tree", .local), ("n", .local), ("way", .local)] : Kn) := by rfl
theorem idx_lst {ds : List D} {n : Nat} (h : n < ds.length) (hb : ds.length ≤ bigD) : idxD (.lst ds) (.int n) = some ds[n] := by
 unfold idxD placeD
 have h1 : decide ((0 : Int) ≤ (n : Int)) = true := by simp
 have h2 : Nat.blt ((n : Int)).toNat ds.length = true := by simp [Nat.blt_eq, h]
 have h3 : Nat.ble ds.length bigD = true := Nat.ble_eq_true_of_le hb
 simp only [h1, h2, h3]
 simp [h]
theorem idx_tree {t : List (Int × Nm)} {n : Nat} (h : n < t.length) (hb : t.length ≤ bigD) : idxD (treeD t) (.int n) = some (rowD t[n]) := by
 unfold treeD
 rw [idx_lst (by simpa using h) (by simpa using hb)]
 simp
theorem idx_row0 (p : Int × Nm) : idxD (rowD p) (.int 0) = some (.int p.1) := rfl
theorem idx_row1 (p : Int × Nm) : idxD (rowD p) (.int 1) = some (nmD p.2) := rfl
theorem nmD_pure (x : Nm) : (nmD x).pure = true := by cases x <;> rfl
theorem nmD_app (x : Nm) (z : Str) : nmD x ≠ .app z := by cases x <;> simp [nmD]
theorem treeD_eq (t) : treeD t = .lst (t.map rowD) := rfl
theorem add_lst (a : D) (w : List D) (h : w.length ≤ 1000) : binD .Add (.lst [a]) (.lst w) = some (.lst (a :: w)) := by
 unfold binD
 simp only [D.list?]
 have : Nat.ble ([a].length + w.length) bigD = true := Nat.ble_eq_true_of_le (by simp; have : bigD = 1000000 := rfl; omega)
 rw [this]
 rfl
section
variable (cf : Cf)
set_option maxHeartbeats 1000000 in
theorem way_body {t : List (Int × Nm)} {n : Nat} (w : List D) (h : n < t.length) (hb : t.length ≤ bigD) (hw : w.length ≤ 1000) :
  exL cf [] 40 [("tree", .local), ("n", .local), ("way", .local)] [("tree", treeD t), ("n", .int n), ("way", .lst w)] (lpBody (pBody 18) 1) = some (.next [("tree", treeD t), ("n", .int t[n].1), ("way", .lst (nmD t[n].2 :: w))]) := by
 have hi := idx_tree h hb
 have ha := add_lst (nmD t[n].2) w hw
 have hbl : Nat.ble [nmD t[n].2].length bigD = true := rfl
 rw [treeD_eq] at *
 conv => lhs; arg 6; whnf
 simp +decide only [q_int, q_str, q_none, q_bool, q_name, q_bin, q_neg, q_if, q_and, q_cmp, q_tup, q_list, q_slice, q_sub_name, q_sub_const, q_sub_bin, q_sub_neg, q_call, q_meth, q_root, q_join, t_not, t_and, t_or, t_cmp, t_name, t_call, q_lnil, q_lcons, t_lnil, t_lcons, t_anil, t_acons, t_onil, t_ocons, f_nil, f_str, f_val, asgD, q_asg_bin, q_asg_sub, q_asg_if, q_asg_call, q_asg_const, q_asg_name, q_asg_list, q_asg_attr, q_asg_two, q_aug, q_augSub, q_sif, q_while, q_for, q_retIf, q_ret_name, q_ret_bin, q_ret_const, q_ret_comp, q_ret_and, q_ret_join, q_append, q_add, q_assert, q_break, q_nil, q_cons, ret1_name, ret1_bin, ret1_const, ret1_comp, ret1_and, ret1_join, stD_eq, setV_if, setV_no, dropApp_no, dropApp_app, zJ, storable_eq, lookup_if, lookupK_if, lookup_no, lookupK_no, plainName_if, if_true, if_false, p_none, p_bool, p_int, p_str, p_tup, p_lst, p_node, p_opq, p_blt, p_typ, p_rng, ble_0, ble_1, ble_2, ble_3, ble_4, ble_5, List.length_nil, List.length_cons, Nat.zero_add, Nat.reduceAdd, List.contains_nil, List.all_cons, List.all_nil, Bool.and_true, Bool.true_and, Bool.or_false, Bool.false_or, Bool.not_true, Bool.not_false, Bool.and_self, Bool.or_self, Bool.false_eq_true, Bool.and_false, Bool.false_and, reduceCtorEq, ne_eq, not_false_eq_true, not_true_eq_false, implies_true, if_pos, ite_true, ite_false, hi, ha, hbl, idx_row0, idx_row1, nmD_pure, nmD_app]
end
end Mine
namespace Mine
open PySem PySem.Calls PyProof.Rows PySem.W
def wayF (t : List (Int × Nm)) : Nat → Nat → List Nm
 | 0, _ => []
 | f + 1, n => if n = 0 then [] else wayF t f ((t[n]?.getD (0, none)).1).toNat ++ [(t[n]?.getD (0, none)).2]
structure Wft (t : List (Int × Nm)) : Prop where
 par : ∀ i, (h : i < t.length) → i ≠ 0 → ∃ p : Nat, t[i].1 = (p : Int) ∧ p < i
 len : t.length ≤ 100
 pos : 0 < t.length
section
variable (cf : Cf)
theorem way_test {t : List (Int × Nm)} {n : Nat} (w : List D) : tsD cf 40 [("tree", .local), ("n", .local), ("way", .local)] [("tree", treeD t), ("n", .int n), ("way", .lst w)] (lpTest (pBody 18) 1) = some ((n : Int) != 0) := by
 rw [treeD_eq]
 conv => lhs; arg 5; whnf
 simp +decide only [q_int, q_str, q_none, q_bool, q_name, q_bin, q_neg, q_if, q_and, q_cmp, q_tup, q_list, q_slice, q_sub_name, q_sub_const, q_sub_bin, q_sub_neg, q_call, q_meth, q_root, q_join, t_not, t_and, t_or, t_cmp, t_name, t_call, q_lnil, q_lcons, t_lnil, t_lcons, t_anil, t_acons, t_onil, t_ocons, f_nil, f_str, f_val, asgD, q_asg_bin, q_asg_sub, q_asg_if, q_asg_call, q_asg_const, q_asg_name, q_asg_list, q_asg_attr, q_asg_two, q_aug, q_augSub, q_sif, q_while, q_for, q_retIf, q_ret_name, q_ret_bin, q_ret_const, q_ret_comp, q_ret_and, q_ret_join, q_append, q_add, q_assert, q_break, q_nil, q_cons, ret1_name, ret1_bin, ret1_const, ret1_comp, ret1_and, ret1_join, stD_eq, setV_if, setV_no, dropApp_no, dropApp_app, zJ, storable_eq, lookup_if, lookupK_if, lookup_no, lookupK_no, plainName_if, if_true, if_false, p_none, p_bool, p_int, p_str, p_tup, p_lst, p_node, p_opq, p_blt, p_typ, p_rng, ble_0, ble_1, ble_2, ble_3, ble_4, ble_5, List.length_nil, List.length_cons, Nat.zero_add, Nat.reduceAdd, List.contains_nil, List.all_cons, List.all_nil, Bool.and_true, Bool.true_and, Bool.or_false, Bool.false_or, Bool.not_true, Bool.not_false, Bool.and_self, Bool.or_self, Bool.false_eq_true, Bool.and_false, Bool.false_and, reduceCtorEq, ne_eq, not_false_eq_true, not_true_eq_false, implies_true, if_pos, ite_true, ite_false, cmpD]
 try rfl
theorem wayF_len (t : List (Int × Nm)) (wf : Wft t) : ∀ f n, n < t.length → (wayF t f n).length ≤ n
 | 0, n, _ => Nat.zero_le _
 | f + 1, n, h => by
  unfold wayF
  split
  ·exact Nat.zero_le _
  ·rename_i hn
   obtain ⟨p, hp, hpn⟩ := wf.par n h hn
   have e : (t[n]?.getD (0, none)) = t[n] := by simp [h]
   rw [e, hp, List.length_append]
   have := wayF_len t wf f p (by omega)
   simp only [Int.toNat_natCast, List.length_singleton]
   omega
theorem way_loop {t : List (Int × Nm)} (wf : Wft t) : ∀ f n (w : List D), n < t.length → n < f → w.length + n ≤ 200 →
  whD (fun ρ => tsD cf 40 [("tree", .local), ("n", .local), ("way", .local)] ρ (lpTest (pBody 18) 1)) (fun ρ => exL cf [] 40 [("tree", .local), ("n", .local), ("way", .local)] ρ (lpBody (pBody 18) 1)) f [("tree", treeD t), ("n", .int n), ("way", .lst w)] =
   some (.next [("tree", treeD t), ("n", .int 0), ("way", .lst ((wayF t f n).map nmD ++ w))])
 | 0, n, w, _, h, _ => absurd h (Nat.not_lt_zero _)
 | f + 1, n, w, hn, hf, hw => by
  have hb : t.length ≤ bigD := by have := wf.len; have : bigD = 1000000 := rfl; omega
  rw [whD, way_test]
  by_cases h0 : n = 0
  ·subst h0
   simp [wayF]
  ·have : ((n : Int) != 0) = true := by simp [h0]
   rw [this]
   dsimp only
   rw [way_body cf w hn hb (by omega)]
   dsimp only
   obtain ⟨p, hp, hpn⟩ := wf.par n hn h0
   rw [hp, way_loop wf f p _ (by omega) (by omega) (by simp; omega)]
   have e : (t[n]?.getD (0, none)) = t[n] := by simp [hn]
   rw [wayF, if_neg h0, e, hp]
   simp
def wayL (t : List (Int × Nm)) (n : Nat) : List Nm := wayF t loopD n
theorem wayL_len {t : List (Int × Nm)} (wf : Wft t) {n : Nat} (h : n < t.length) : (wayL t n).length ≤ n := wayF_len t wf _ n h
theorem way_run {t : List (Int × Nm)} (wf : Wft t) {n : Nat} (h : n < t.length) : exL cf [] 43 (pNames 18) (rho0 (pNames 18) ["tree", "n"] [treeD t, .int n]) (pBody 18) = some (.ret (.lst ((wayL t n).map nmD))) := by
 have hl : whS cf 40 ([("tree", .local), ("n", .local), ("way", .local)] : Kn) [("tree", treeD t), ("n", .int n), ("way", .lst [])] [] (lpTest (pBody 18) 1) (lpBody (pBody 18) 1) = some (.next [("tree", treeD t), ("n", .int 0), ("way", .lst ((wayF t loopD n).map nmD ++ []))]) :=
  way_loop cf wf loopD n [] h (by have := wf.len; have : loopD = 1000000 := rfl; omega) (by have := wf.len; simp; omega)
 rw [k18]
 have hr : rho0 ([("tree", .local), ("n", .local), ("way", .local)] : Kn) ["tree", "n"] [treeD t, .int n] = ([("tree", treeD t), ("n", .int n), ("way", .unb)] : Rho) := by rfl
 rw [hr]
 rw [treeD_eq] at *
 conv at hl => lhs; arg 6; whnf
 conv at hl => lhs; arg 7; whnf
 conv => lhs; arg 6; whnf
 simp +decide only [q_int, q_str, q_none, q_bool, q_name, q_bin, q_neg, q_if, q_and, q_cmp, q_tup, q_list, q_slice, q_sub_name, q_sub_const, q_sub_bin, q_sub_neg, q_call, q_meth, q_root, q_join, t_not, t_and, t_or, t_cmp, t_name, t_call, q_lnil, q_lcons, t_lnil, t_lcons, t_anil, t_acons, t_onil, t_ocons, f_nil, f_str, f_val, asgD, q_asg_bin, q_asg_sub, q_asg_if, q_asg_call, q_asg_const, q_asg_name, q_asg_list, q_asg_attr, q_asg_two, q_aug, q_augSub, q_sif, q_while, q_for, q_retIf, q_ret_name, q_ret_bin, q_ret_const, q_ret_comp, q_ret_and, q_ret_join, q_append, q_add, q_assert, q_break, q_nil, q_cons, ret1_name, ret1_bin, ret1_const, ret1_comp, ret1_and, ret1_join, stD_eq, setV_if, setV_no, dropApp_no, dropApp_app, zJ, storable_eq, lookup_if, lookupK_if, lookup_no, lookupK_no, plainName_if, if_true, if_false, p_none, p_bool, p_int, p_str, p_tup, p_lst, p_node, p_opq, p_blt, p_typ, p_rng, ble_0, ble_1, ble_2, ble_3, ble_4, ble_5, List.length_nil, List.length_cons, Nat.zero_add, Nat.reduceAdd, List.contains_nil, List.all_cons, List.all_nil, Bool.and_true, Bool.true_and, Bool.or_false, Bool.false_or, Bool.not_true, Bool.not_false, Bool.and_self, Bool.or_self, Bool.false_eq_true, Bool.and_false, Bool.false_and, reduceCtorEq, ne_eq, not_false_eq_true, not_true_eq_false, implies_true, if_pos, ite_true, ite_false, hl]
 simp [wayL]
end
end Mine
namespace Mine
open PySem PySem.Calls PyProof.Rows PySem.W
theorem b_mod (i j : Int) (h : j ≠ 0) : binD .Mod (.int i) (.int j) = some (.int (i.fmod j)) := by
 unfold binD; simp [h]
theorem b_div (i j : Int) (h : 0 < j) (h' : j < 1000) : binD .FloorDiv (.int i) (.int j) = some (.int (i.fdiv j)) := by
 unfold binD; simp [h, h']
theorem b_addi (i j : Int) : binD .Add (.int i) (.int j) = some (.int (i + j)) := rfl
theorem b_subi (i j : Int) : binD .Sub (.int i) (.int j) = some (.int (i - j)) := rfl
theorem c_eqi (i j : Int) : cmpD .Eq (.int i) (.int j) = some (i == j) := rfl
theorem c_eqs (i j : Str) : cmpD .Eq (.str i) (.str j) = some (i == j) := rfl
theorem c_nes (i j : Str) : cmpD .NotEq (.str i) (.str j) = some (i != j) := rfl
theorem c_lt (i j : Int) : cmpD .Lt (.int i) (.int j) = some (decide (i < j)) := rfl
theorem c_gei (i j : Int) : cmpD .GtE (.int i) (.int j) = some (decide (i ≥ j)) := rfl
def spS : List Str := ["", "u", "uu", "u*"]
def wdS : List Str := ["a", "aa", "b?", "a*", "[a"]
def nameOf (x : Int) : Nm := if x.fmod 20 = 19 then none else some (spS.getD (x.fmod 4).toNat Str.empty, wdS.getD ((x.fdiv 4).fmod 5).toNat Str.empty)
def treeStep (t : List (Int × Nm)) (x : Int) : List (Int × Nm) := t ++ [((x.fdiv 20).fmod t.length, nameOf x)]
def treeL (ns : List Int) : List (Int × Nm) := ns.foldl treeStep [(0, none)]
theorem fmod_nat (x : Int) (k : Nat) (h : 0 < k) : ∃ j : Nat, x.fmod k = j ∧ j < k := by
 have h1 : 0 ≤ x.fmod k := Int.fmod_nonneg_of_pos x (by omega)
 have h2 : x.fmod k < k := Int.fmod_lt_of_pos x (by omega)
 exact ⟨(x.fmod k).toNat, by omega, by omega⟩
theorem idx_sp (x : Int) : idxD (.lst [.str "", .str "u", .str "uu", .str "u*"]) (.int (x.fmod 4)) = some (.str (spS.getD (x.fmod 4).toNat Str.empty)) := by
 obtain ⟨j, hj, hl⟩ := fmod_nat x 4 (by omega)
 have : x.fmod (4 : Int) = j := hj
 rw [this]
 have : j = 0 ∨ j = 1 ∨ j = 2 ∨ j = 3 := by omega
 rcases this with rfl | rfl | rfl | rfl <;> rfl
theorem idx_wd (x : Int) : idxD (.lst [.str "a", .str "aa", .str "b?", .str "a*", .str "[a"]) (.int (x.fmod 5)) = some (.str (wdS.getD (x.fmod 5).toNat Str.empty)) := by
 obtain ⟨j, hj, hl⟩ := fmod_nat x 5 (by omega)
 have : x.fmod (5 : Int) = j := hj
 rw [this]
 have : j = 0 ∨ j = 1 ∨ j = 2 ∨ j = 3 ∨ j = 4 := by omega
 rcases this with rfl | rfl | rfl | rfl | rfl <;> rfl
theorem items_lst {ds : List D} (h : ds.length ≤ bigD) : itemsD (.lst ds) = some ds := by unfold itemsD; simp [Nat.ble_eq_true_of_le h]
theorem k17 : pNames 17 = ([("numbers", .local), ("spaces", .local), ("words", .local), ("tree", .local), ("x", .local), ("name", .local), ("len", .globalImplicit)] : Kn) := by rfl
def rho17 (ns : D) (t : List (Int × Nm)) (x name : D) : Rho := [("numbers", ns), ("spaces", .lst [.str "", .str "u", .str "uu", .str "u*"]), ("words", .lst [.str "a", .str "aa", .str "b?", .str "a*", .str "[a"]), ("tree", .own (t.map rowD)), ("x", x), ("name", name)]
theorem len_own (ds : List D) (h : ds.length ≤ bigD) : lenD (.own ds) = some (.int ds.length) := by unfold lenD; simp [Nat.ble_eq_true_of_le h]
theorem len_lst (ds : List D) (h : ds.length ≤ bigD) : lenD (.lst ds) = some (.int ds.length) := by unfold lenD; simp [Nat.ble_eq_true_of_le h]
theorem callD_len (cf : Cf) (d : D) : callD cf (.blt "len") [d] = lenD d := rfl
theorem argOk_own (id : String) (ds) : argOk (.blt id) (.own ds) = true := rfl
theorem argOk_lst (id : String) (ds) : argOk (.blt id) (.lst ds) = true := rfl
theorem argOk_str (id : String) (ds) : argOk (.blt id) (.str ds) = true := rfl
section
variable (cf : Cf)
set_option maxHeartbeats 2000000 in
theorem tree_body (hlen : cf.Γ "len" = some (.blt "len")) (ns : List D) (t : List (Int × Nm)) (x : Int) (name : D) (hn : ∀ z, name ≠ .app z) (ht : t.length ≤ 100) (hp : 0 < t.length) :
  exL cf ["tree"] 40 (pNames 17) (rho17 (.lst ns) t (.int x) name) (lpBody (pBody 17) 3) = some (.next (rho17 (.lst ns) (treeStep t x) (.int x) (nmD (nameOf x)))) := by
 have hl := len_own (t.map rowD) (by simp; have : bigD = 1000000 := rfl; omega)
 have hbl : Nat.ble (t.map rowD).length bigD = true := Nat.ble_eq_true_of_le (by simp; have : bigD = 1000000 := rfl; omega)
 have hm : binD .Mod (.int (x.fdiv 20)) (.int (t.map rowD).length) = some (.int ((x.fdiv 20).fmod t.length)) := by rw [b_mod _ _ (by rw [List.length_map]; omega)]; simp
 have e1 := idx_sp x
 have e2 := idx_wd (x.fdiv 4)
 have m1 : binD .Mod (.int x) (.int 20) = some (.int (x.fmod 20)) := b_mod _ _ (by decide)
 have m2 : binD .Mod (.int x) (.int 4) = some (.int (x.fmod 4)) := b_mod _ _ (by decide)
 have m3 : binD .FloorDiv (.int x) (.int 4) = some (.int (x.fdiv 4)) := b_div _ _ (by decide) (by decide)
 have m4 : binD .Mod (.int (x.fdiv 4)) (.int 5) = some (.int ((x.fdiv 4).fmod 5)) := b_mod _ _ (by decide)
 have m5 : binD .FloorDiv (.int x) (.int 20) = some (.int (x.fdiv 20)) := b_div _ _ (by decide) (by decide)
 rw [k17]
 unfold rho17
 conv => lhs; arg 6; whnf
 by_cases h : x.fmod 20 = 19
 ·have hb : (x.fmod 20 == 19) = true := by simp [h]
  have hnm : nameOf x = none := by unfold nameOf; rw [if_pos h]
  simp +decide only [Q0, Q1, Q2, Q3, asgD, if_true, if_false, List.length_nil, List.length_cons, Nat.reduceAdd, List.contains_nil, List.all_cons, List.all_nil, reduceCtorEq, ne_eq, not_false_eq_true, not_true_eq_false, implies_true, if_pos, ite_true, ite_false, beq_self_eq_true, c_eqi, hb, hl, hbl, hm, e1, e2, m1, m2, m3, m4, m5, hn, hlen, callD_len, argOk_own, hnm, nmD]
  simp [treeStep, rowD, hnm, nmD]
 ·have hb : (x.fmod 20 == 19) = false := by simp [h]
  have hnm : nameOf x = some (spS.getD (x.fmod 4).toNat Str.empty, wdS.getD ((x.fdiv 4).fmod 5).toNat Str.empty) := by unfold nameOf; rw [if_neg h]
  simp +decide only [Q0, Q1, Q2, Q3, asgD, if_true, if_false, List.length_nil, List.length_cons, Nat.reduceAdd, List.contains_nil, List.all_cons, List.all_nil, reduceCtorEq, ne_eq, not_false_eq_true, not_true_eq_false, implies_true, if_pos, ite_true, ite_false, beq_self_eq_true, c_eqi, hb, hl, hbl, hm, e1, e2, m1, m2, m3, m4, m5, hn, hlen, callD_len, argOk_own, hnm, nmD]
  simp [treeStep, rowD, hnm, nmD]
theorem tree_loop (hlen : cf.Γ "len" = some (.blt "len")) (L : List D) : ∀ (ns : List Int) (t : List (Int × Nm)) (x name : D), (∀ z, name ≠ .app z) → (∀ z, x ≠ .app z) → t.length + ns.length ≤ 100 → 0 < t.length →
  ∃ x' name', (∀ z, name' ≠ .app z) ∧ forS cf 40 (pNames 17) (rho17 (.lst L) t x name) ["tree"] "x" (lpBody (pBody 17) 3) (ns.map .int) = some (.next (rho17 (.lst L) (ns.foldl treeStep t) x' name'))
 | [], t, x, name, hn, hx, _, _ => ⟨x, name, hn, rfl⟩
 | i :: ns, t, x, name, hn, hx, hl, hp => by
  obtain ⟨x', name', h1, h2⟩ := tree_loop hlen L ns (treeStep t i) (.int i) (nmD (nameOf i)) (nmD_app _) (by simp) (by simp [treeStep] at *; omega) (by simp [treeStep])
  refine ⟨x', name', h1, ?_⟩
  have hs : stD (rho17 (.lst L) t x name) "x" (.int i) = rho17 (.lst L) t (.int i) name := by
   unfold rho17
   simp +decide only [Q0, Q1, Q2, Q3, asgD, if_true, if_false, List.length_nil, List.length_cons, Nat.reduceAdd, List.contains_nil, List.all_cons, List.all_nil, reduceCtorEq, ne_eq, not_false_eq_true, not_true_eq_false, implies_true, if_pos, ite_true, ite_false, beq_self_eq_true, hn, hx]
  have hb := tree_body cf hlen L t i name hn (by simp at hl; omega) hp
  unfold forS at h2 ⊢
  rw [List.map_cons, forD, p_int]
  dsimp only
  rw [hs, hb]
  exact h2
theorem tree_run (hlen : cf.Γ "len" = some (.blt "len")) (ns : List Int) (h : ns.length ≤ 90) : exL cf ["tree"] 45 (pNames 17) (rho0 (pNames 17) ["numbers"] [.lst (ns.map .int)]) (pBody 17) = some (.ret (treeD (treeL ns))) := by
 obtain ⟨x', name', h1, h2⟩ := tree_loop cf hlen (ns.map .int) ns [(0, none)] .unb .unb (by simp) (by simp) (by simp; omega) (by simp)
 rw [k17] at *
 have hr : rho0 ([("numbers", .local), ("spaces", .local), ("words", .local), ("tree", .local), ("x", .local), ("name", .local), ("len", .globalImplicit)] : Kn) ["numbers"] [.lst (ns.map .int)] = ([("numbers", .lst (ns.map .int)), ("spaces", .unb), ("words", .unb), ("tree", .unb), ("x", .unb), ("name", .unb)] : Rho) := by rfl
 rw [hr]
 have hi : itemsD (.lst (ns.map .int)) = some (ns.map .int) := by
  exact items_lst (by simp; have : bigD = 1000000 := rfl; omega)
 have hc : List.contains (["tree"] : List Str) "tree" = true := by rfl
 have hc2 : List.contains (["tree"] : List Str) "spaces" = false := by rfl
 have hc3 : List.contains (["tree"] : List Str) "words" = false := by rfl
 unfold rho17 at h2
 conv at h2 => lhs; arg 7; whnf
 conv => lhs; arg 6; whnf
 have e0 : List.map rowD [(0, none)] = [.tup [.int 0, .none]] := rfl
 rw [e0] at h2
 simp +decide only [Q0, Q1, Q2, Q3, asgD, if_true, if_false, List.length_nil, List.length_cons, Nat.reduceAdd, List.contains_nil, List.all_cons, List.all_nil, reduceCtorEq, ne_eq, not_false_eq_true, not_true_eq_false, implies_true, if_pos, ite_true, ite_false, beq_self_eq_true, hi, hc, hc2, hc3, h2]
 rfl
end
end Mine
namespace Mine
open PySem PySem.Calls PyProof.Rows PySem.W
theorem k19 : pNames 19 = ([("tree", .cell), ("n", .cell), ("range", .globalImplicit), ("len", .globalImplicit)] : Kn) := by rfl
theorem k21 : pNames 21 = ([("way", .local), ("digits", .local), ("steps", .local), ("name", .local)] : Kn) := by rfl
theorem k22 : pNames 22 = ([("step", .local), ("quoted", .local), ("parts", .local), ("part", .local)] : Kn) := by rfl
theorem intsFrom_mem : ∀ (n : Nat) (a : Int), intsFrom a n = (List.range n).map fun i => .int (a + i)
 | 0, _ => rfl
 | n + 1, a => by
  rw [intsFrom, intsFrom_mem n (a + 1), List.range_succ_eq_map]
  simp
  intro i _
  omega
theorem items_rng {a b : Nat} (h : a ≤ b) (hb : b ≤ 1000000) : itemsD (.rng a b) = some ((List.range (b - a)).map fun (i : Nat) => .int (a + i)) := by
 unfold itemsD
 have h1 : decide ((0 : Int) ≤ (a : Int)) = true := by simp
 have h2 : decide ((a : Int) ≤ (b : Int)) = true := by simp [h]
 have h3 : decide ((b : Int) ≤ (bigD : Int)) = true := by simp; have : bigD = 1000000 := rfl; omega
 simp only [h1, h2, h3]
 rw [intsFrom_mem]
 have : ((b : Int) - (a : Int)).toNat = b - a := by omega
 rw [this]
theorem compD_all (tst : D → Option Bool) (el : D → Option D) {α : Type} (f : α → D) (p : α → Bool) (g : α → D) : ∀ (l : List α), (∀ x ∈ l, tst (f x) = some (p x)) → (∀ x ∈ l, p x = true → el (f x) = some (g x)) → (∀ x ∈ l, p x = true → (g x).pure = true) →
  compD tst el (l.map f) = some ((l.filter p).map g)
 | [], _, _, _ => rfl
 | x :: l, h1, h2, h3 => by
  rw [List.map_cons, compD, h1 x (.head _)]
  have ih := compD_all tst el f p g l (fun y hy => h1 y (.tail _ hy)) (fun y hy => h2 y (.tail _ hy)) (fun y hy => h3 y (.tail _ hy))
  cases hp : p x with
  | true =>
   dsimp only
   rw [h2 x (.head _) hp]
   dsimp only
   rw [h3 x (.head _) hp]
   dsimp only
   rw [ih]
   simp [hp]
  | false =>
   dsimp only
   rw [ih]
   simp [hp]
def zP (t : List (Int × Nm)) (n : Int) : List Nat := ((List.range (t.length - 1)).filter fun i => ((t[i + 1]?.getD (0, none)).1 == n)).map (· + 1)
theorem callD_rng2 (cf : Cf) (a b : Int) : callD cf (.typ "range") [.int a, .int b] = some (.rng a b) := rfl
theorem argOk_typ (n : String) (d : D) : argOk (.typ n) d = d.pure := rfl
theorem argOk_opq (n : Addr) (d : D) : argOk (.opq n) d = d.pure := rfl
section
variable (cf : Cf)
theorem comp_row {n : Nat} {K : Kn} {ρ : Rho} {elt iter : Expr} {x : Str} {px p : Pos} {ifs : List Expr} {csc : Scope} {d : D} {ds ys : List D} (hg : (goodComp csc.names K ρ x && (csc.kind == .function)) = true) (hi : evD cf n K ρ iter = some d) (hd : itemsD d = some ds)
  (hc : compD (fun d => tsL cf n (relK csc.names K) ((x, d) :: ρ.filter fun q => freeIn csc.names q.1) ifs) (fun d => evD cf n (relK csc.names K) ((x, d) :: ρ.filter fun q => freeIn csc.names q.1) elt) ds = some ys) :
  evD cf (n + 1) K ρ (.ListComp elt [⟨.Name x px, iter, ifs, 0⟩] csc p) = some (.lst ys) := by
 rw [q_comp, hg]
 dsimp only
 rw [hi]
 dsimp only
 rw [hd]
 dsimp only
 rw [hc]
set_option maxHeartbeats 2000000 in
theorem below_run (hlen : cf.Γ "len" = some (.blt "len")) (hrng : cf.Γ "range" = some (.typ "range")) {t : List (Int × Nm)} (ht : t.length ≤ 100) (hp : 0 < t.length) (n : Int) :
  exL cf [] 43 (pNames 19) (rho0 (pNames 19) ["tree", "n"] [treeD t, .int n]) (pBody 19) = some (.ret (.lst ((zP t n).map fun (k : Nat) => .int (k : Int)))) := by
 have hl := len_lst (t.map rowD) (by simp; have : bigD = 1000000 := rfl; omega)
 rw [k19]
 have hr : rho0 ([("tree", .cell), ("n", .cell), ("range", .globalImplicit), ("len", .globalImplicit)] : Kn) ["tree", "n"] [treeD t, .int n] = ([("tree", treeD t), ("n", .int n)] : Rho) := by rfl
 rw [hr]
 conv => lhs; arg 6; whnf
 rw [q_cons, q_ret_comp, ret1_comp]
 rw [comp_row cf (ds := (List.range (t.length - 1)).map fun (i : Nat) => .int ((1 : Nat) + i)) (ys := (zP t n).map fun (k : Nat) => .int (k : Int)) (d := .rng (1 : Nat) t.length) ?_ ?_ ?_ ?_]
 ·rfl
 ·rfl
 ·rw [treeD_eq]
  simp +decide only [Q0, Q1, Q2, Q3, asgD, if_true, if_false, List.length_nil, List.length_cons, Nat.reduceAdd, List.contains_nil, List.all_cons, List.all_nil, reduceCtorEq, ne_eq, not_false_eq_true, not_true_eq_false, implies_true, if_pos, ite_true, ite_false, beq_self_eq_true, hlen, hrng, callD_len, callD_rng2, argOk_lst, argOk_typ, hl]
  simp
 ·exact items_rng hp (by omega)
 ·show compD (fun d => tsL cf 40 ([(".0", .local), ("k", .local), ("n", .cell), ("tree", .cell)] : Kn) ([("k", d), ("tree", treeD t), ("n", .int n)] : Rho) _) (fun d => evD cf 40 ([(".0", .local), ("k", .local), ("n", .cell), ("tree", .cell)] : Kn) ([("k", d), ("tree", treeD t), ("n", .int n)] : Rho) _) _ = _
  have hb : t.length ≤ bigD := by have : bigD = 1000000 := rfl; omega
  have hidx : ∀ i, i < t.length - 1 → idxD (.lst (t.map rowD)) (.int ((1 : Nat) + (i : Nat))) = some (rowD (t[i + 1]?.getD (0, none))) := by
   intro i hi
   have h1 : i + 1 < t.length := by omega
   have := idx_tree h1 hb
   rw [treeD_eq] at this
   have e : ((1 : Nat) : Int) + (i : Nat) = ((i + 1 : Nat) : Int) := by omega
   rw [e, this]
   simp [h1]
  refine (compD_all _ _ (fun (i : Nat) => .int ((1 : Nat) + i)) (fun i => (t[i + 1]?.getD (0, none)).1 == n) (fun i => .int ((1 : Nat) + (i : Nat))) (List.range (t.length - 1)) ?_ ?_ ?_).trans ?_
  rotate_left 3
  ·simp only [zP, List.map_map]
   congr 1
   refine List.map_congr_left fun i _ => ?_
   simp
   omega
  ·intro i hi
   have h0 := hidx i (List.mem_range.mp hi)
   rw [treeD_eq]
   simp +decide only [Q0, Q1, Q2, Q3, asgD, if_true, if_false, List.length_nil, List.length_cons, Nat.reduceAdd, List.contains_nil, List.all_cons, List.all_nil, reduceCtorEq, ne_eq, not_false_eq_true, not_true_eq_false, implies_true, if_pos, ite_true, ite_false, beq_self_eq_true, h0, idx_row0, c_eqi]
   cases ((t[i + 1]?.getD (0, none)).1 == n) <;> rfl
  ·intro i hi _
   rw [treeD_eq]
   simp +decide only [Q0, Q1, Q2, Q3, asgD, if_true, if_false, List.length_nil, List.length_cons, Nat.reduceAdd, List.contains_nil, List.all_cons, List.all_nil, reduceCtorEq, ne_eq, not_false_eq_true, not_true_eq_false, implies_true, if_pos, ite_true, ite_false, beq_self_eq_true]
  ·intro i _ _; rfl
end
end Mine
namespace Mine
open PySem PySem.Calls PyProof.Rows PySem.W
abbrev Sp := Option Str × Option Str
def optD : Option Str → D | none => .none | some s => .str s
def zT (s : Sp) : D := .tup [optD s.1, optD s.2]
def stepOf (name : Nm) (d : Int) : Sp := match name with
 | none => (none, none)
 | some (a, b) => if d.fmod 3 = 0 then (none, none) else if d.fmod 3 = 1 then (some a, none) else (none, some b)
def stepsL : List Nm → Int → List Sp
 | [], _ => []
 | x :: r, d => stepOf x d :: stepsL r (d.fdiv 3)
def rho21 (w : D) (d : Int) (ss : List Sp) (x : D) : Rho := [("way", w), ("digits", .int d), ("steps", .own (ss.map zT)), ("name", x)]
theorem optD_pure (x : Option Str) : (optD x).pure = true := by cases x <;> rfl
theorem optD_app (x : Option Str) (z : Str) : optD x ≠ .app z := by cases x <;> simp [optD]
section
variable (cf : Cf)
set_option maxHeartbeats 2000000 in
theorem steps_body (w : List D) (d : Int) (ss : List Sp) (x : Nm) (hs : ss.length ≤ 1000) :
  exL cf ["steps"] 40 (pNames 21) (rho21 (.lst w) d ss (nmD x)) (lpBody (pBody 21) 1) = some (.next (rho21 (.lst w) (d.fdiv 3) (ss ++ [stepOf x d]) (nmD x))) := by
 have m1 : binD .Mod (.int d) (.int 3) = some (.int (d.fmod 3)) := b_mod _ _ (by decide)
 have m2 : binD .FloorDiv (.int d) (.int 3) = some (.int (d.fdiv 3)) := b_div _ _ (by decide) (by decide)
 have hbl : Nat.ble (ss.map zT).length bigD = true := Nat.ble_eq_true_of_le (by simp; have : bigD = 1000000 := rfl; omega)
 rw [k21]
 unfold rho21
 conv => lhs; arg 6; whnf
 cases x with
 | none =>
  have c1 : cmpD .Is .none .none = some true := rfl
  (repeat simp +decide only [Q0, Q1, Q2, Q3, asgD, if_true, if_false, List.length_nil, List.length_cons, Nat.reduceAdd, List.contains_nil, List.all_cons, List.all_nil, reduceCtorEq, ne_eq, not_false_eq_true, not_true_eq_false, implies_true, if_pos, ite_true, ite_false, beq_self_eq_true, nmD, c1, m1, m2, hbl])
  simp [stepOf, zT, optD, nmD]
 | some p =>
  obtain ⟨a, b⟩ := p
  have c1 : cmpD .Is (.tup [.str a, .str b]) .none = some false := rfl
  have i0 : idxD (.tup [.str a, .str b]) (.int 0) = some (.str a) := rfl
  have i1 : idxD (.tup [.str a, .str b]) (.int 1) = some (.str b) := rfl
  by_cases h0 : d.fmod 3 = 0
  ·have e0 : (d.fmod 3 == 0) = true := by simp [h0]
   (repeat simp +decide only [Q0, Q1, Q2, Q3, asgD, if_true, if_false, List.length_nil, List.length_cons, Nat.reduceAdd, List.contains_nil, List.all_cons, List.all_nil, reduceCtorEq, ne_eq, not_false_eq_true, not_true_eq_false, implies_true, if_pos, ite_true, ite_false, beq_self_eq_true, nmD, c1, m1, m2, hbl, c_eqi, e0])
   simp [stepOf, zT, optD, nmD, h0]
  ·have e0 : (d.fmod 3 == 0) = false := by simp [h0]
   by_cases h1 : d.fmod 3 = 1
   ·have e1 : (d.fmod 3 == 1) = true := by simp [h1]
    (repeat simp +decide only [Q0, Q1, Q2, Q3, asgD, if_true, if_false, List.length_nil, List.length_cons, Nat.reduceAdd, List.contains_nil, List.all_cons, List.all_nil, reduceCtorEq, ne_eq, not_false_eq_true, not_true_eq_false, implies_true, if_pos, ite_true, ite_false, beq_self_eq_true, nmD, c1, m1, m2, hbl, c_eqi, e0, e1, i0, i1])
    simp [stepOf, zT, optD, nmD, h1]
   ·have e1 : (d.fmod 3 == 1) = false := by simp [h1]
    (repeat simp +decide only [Q0, Q1, Q2, Q3, asgD, if_true, if_false, List.length_nil, List.length_cons, Nat.reduceAdd, List.contains_nil, List.all_cons, List.all_nil, reduceCtorEq, ne_eq, not_false_eq_true, not_true_eq_false, implies_true, if_pos, ite_true, ite_false, beq_self_eq_true, nmD, c1, m1, m2, hbl, c_eqi, e0, e1, i0, i1])
    simp [stepOf, zT, optD, nmD, h0, h1]
theorem steps_loop (w : List D) : ∀ (l : List Nm) (d : Int) (ss : List Sp) (x : D), (∀ z, x ≠ .app z) → ss.length + l.length ≤ 1000 →
  ∃ d' x', forS cf 40 (pNames 21) (rho21 (.lst w) d ss x) ["steps"] "name" (lpBody (pBody 21) 1) (l.map nmD) = some (.next (rho21 (.lst w) d' (ss ++ stepsL l d) x'))
 | [], d, ss, x, _, _ => ⟨d, x, by simp [stepsL, forS, forD]⟩
 | y :: l, d, ss, x, hx, hl => by
  obtain ⟨d', x', h⟩ := steps_loop w l (d.fdiv 3) (ss ++ [stepOf y d]) (nmD y) (nmD_app _) (by simp at *; omega)
  refine ⟨d', x', ?_⟩
  have hs : stD (rho21 (.lst w) d ss x) "name" (nmD y) = rho21 (.lst w) d ss (nmD y) := by
   unfold rho21
   (repeat simp +decide only [Q0, Q1, Q2, Q3, asgD, if_true, if_false, List.length_nil, List.length_cons, Nat.reduceAdd, List.contains_nil, List.all_cons, List.all_nil, reduceCtorEq, ne_eq, not_false_eq_true, not_true_eq_false, implies_true, if_pos, ite_true, ite_false, beq_self_eq_true, hx])
  have hb := steps_body cf w d ss y (by simp at hl; omega)
  unfold forS at h ⊢
  rw [List.map_cons, forD, nmD_pure]
  dsimp only
  rw [hs, hb]
  rw [stepsL]
  rw [List.append_assoc] at h
  exact h
theorem steps_run (l : List Nm) (d : Int) (h : l.length ≤ 900) : exL cf ["steps"] 43 (pNames 21) (rho0 (pNames 21) ["way", "digits"] [.lst (l.map nmD), .int d]) (pBody 21) = some (.ret (.lst ((stepsL l d).map zT))) := by
 obtain ⟨d', x', h2⟩ := steps_loop cf (l.map nmD) l d [] .unb (by simp) (by simp; omega)
 rw [k21] at *
 have hr : rho0 ([("way", .local), ("digits", .local), ("steps", .local), ("name", .local)] : Kn) ["way", "digits"] [.lst (l.map nmD), .int d] = ([("way", .lst (l.map nmD)), ("digits", .int d), ("steps", .unb), ("name", .unb)] : Rho) := by rfl
 rw [hr]
 have hi : itemsD (.lst (l.map nmD)) = some (l.map nmD) := items_lst (by simp; have : bigD = 1000000 := rfl; omega)
 have hc : List.contains (["steps"] : List Str) "steps" = true := by rfl
 unfold rho21 at h2
 conv at h2 => lhs; arg 7; whnf
 conv => lhs; arg 6; whnf
 rw [List.map_nil] at h2
 (repeat simp +decide only [Q0, Q1, Q2, Q3, asgD, if_true, if_false, List.length_nil, List.length_cons, Nat.reduceAdd, List.contains_nil, List.all_cons, List.all_nil, reduceCtorEq, ne_eq, not_false_eq_true, not_true_eq_false, implies_true, if_pos, ite_true, ite_false, beq_self_eq_true, hi, hc, h2, List.nil_append])
end
end Mine
namespace Mine
open PySem PySem.Calls PyProof.Rows PySem.W
def qch (c : Nat) : Str := if Txt.contains ("*?[" : Str) ⟨#[c]⟩ = true then ("[" : Str) ++ ⟨#[c]⟩ ++ ("]" : Str) else ⟨#[c]⟩
def quoteS (s : Str) : Str := Txt.join ("" : Str) (s.cps.toList.map qch)
def partS (q : Bool) : Option Str → Str
 | none => "*"
 | some s => if q then quoteS s else s
def textS (q : Bool) (s : Sp) : Str := ((("{" : Str) ++ partS q s.1) ++ ("}" : Str)) ++ partS q s.2
def rho22 (st : D) (q : Bool) (ps : List Str) (x : D) : Rho := [("step", st), ("quoted", .bool q), ("parts", .own (ps.map .str)), ("part", x)]
theorem qch_len (c : Nat) : (qch c).length ≤ 3 := by
 unfold qch
 split
 ·rw [strLen_append, strLen_append]; exact Nat.le_refl _
 ·exact (by decide : 1 ≤ 3)
theorem lens_qch : ∀ (l : List Nat), lensS (l.map qch) ≤ 3 * l.length
 | [] => Nat.le_refl _
 | c :: l => by
  rw [List.map_cons, lensS_cons, List.length_cons]
  have := qch_len c
  have := lens_qch l
  omega
theorem strsD_map : ∀ (xs : List Str), strsD (xs.map .str) = some xs
 | [] => rfl
 | x :: xs => by rw [List.map_cons, strsD, strsD_map xs]
theorem join_ok (x : Str) (xs : List Str) (h : lensS xs + xs.length * x.length ≤ bigD) : joinD x (.lst (xs.map .str)) = some (.str (Txt.join x xs)) := by
 unfold joinD
 simp only [D.list?, strsD_map]
 rw [Nat.ble_eq_true_of_le h]
theorem join_own (x : Str) (xs : List Str) (h : lensS xs + xs.length * x.length ≤ bigD) : joinD x (.own (xs.map .str)) = some (.str (Txt.join x xs)) := by
 unfold joinD
 simp only [D.list?, strsD_map]
 rw [Nat.ble_eq_true_of_le h]
theorem meth_join (x : Str) (d : D) : meth "join" x [d] = joinD x d := by
 unfold meth; simp
theorem b_adds (x y : Str) (h : x.length + y.length ≤ bigD) : binD .Add (.str x) (.str y) = some (.str (x ++ y)) := by
 unfold binD; simp [Nat.ble_eq_true_of_le h]
theorem items_str (s : Str) (h : s.cps.size ≤ bigD) : itemsD (.str s) = some (s.cps.toList.map fun c => .str ⟨#[c]⟩) := by
 unfold itemsD; simp [Nat.ble_eq_true_of_le h]
section
variable (cf : Cf)
set_option maxHeartbeats 2000000 in
theorem text_body (st : D) (q : Bool) (ps : List Str) (x : Option Str) (hst : ∀ z, st ≠ .app z) (hp : ps.length ≤ 10) (hx : ∀ s, x = some s → s.length ≤ 1000) :
  exL cf ["parts"] 40 (pNames 22) (rho22 st q ps (optD x)) (lpBody (pBody 22) 1) = some (.next (rho22 st q (ps ++ [partS q x]) (optD x))) := by
 have hbl : Nat.ble (ps.map D.str).length bigD = true := Nat.ble_eq_true_of_le (by simp; have : bigD = 1000000 := rfl; omega)
 rw [k22]
 unfold rho22
 conv => lhs; arg 6; whnf
 cases x with
 | none =>
  have c1 : cmpD .Is .none .none = some true := rfl
  (repeat simp +decide only [Q0, Q1, Q2, Q3, asgD, if_true, if_false, List.length_nil, List.length_cons, Nat.reduceAdd, List.contains_nil, List.all_cons, List.all_nil, reduceCtorEq, ne_eq, not_false_eq_true, not_true_eq_false, implies_true, if_pos, ite_true, ite_false, beq_self_eq_true, optD, c1, hbl])
  simp [partS]
 | some s =>
  have c1 : cmpD .Is (.str s) .none = some false := rfl
  have hs := hx s rfl
  cases q with
  | false =>
   have t1 : truS (.bool false) = some false := rfl
   (repeat simp +decide only [Q0, Q1, Q2, Q3, asgD, if_true, if_false, List.length_nil, List.length_cons, Nat.reduceAdd, List.contains_nil, List.all_cons, List.all_nil, reduceCtorEq, ne_eq, not_false_eq_true, not_true_eq_false, implies_true, if_pos, ite_true, ite_false, beq_self_eq_true, optD, c1, hbl, t1])
   simp [partS]
  | true =>
   have t1 : truS (.bool true) = some true := rfl
   (repeat simp +decide only [Q0, Q1, Q2, Q3, asgD, if_true, if_false, List.length_nil, List.length_cons, Nat.reduceAdd, List.contains_nil, List.all_cons, List.all_nil, reduceCtorEq, ne_eq, not_false_eq_true, not_true_eq_false, implies_true, if_pos, ite_true, ite_false, beq_self_eq_true, optD, c1, hbl, t1])
   rw [comp_row cf (ds := s.cps.toList.map fun c => .str ⟨#[c]⟩) (ys := (s.cps.toList.map qch).map .str) (d := .str s) ?g1 ?g2 ?g3 ?g4]
   case g1 => rfl
   case g2 => (repeat simp +decide only [Q0, Q1, Q2, Q3, asgD, if_true, if_false, List.length_nil, List.length_cons, Nat.reduceAdd, List.contains_nil, List.all_cons, List.all_nil, reduceCtorEq, ne_eq, not_false_eq_true, not_true_eq_false, implies_true, if_pos, ite_true, ite_false, beq_self_eq_true])
   case g3 => exact items_str s (by have : bigD = 1000000 := rfl; have : s.length = s.cps.size := rfl; omega)
   case g4 =>
    show compD (fun d => tsL cf 31 ([(".0", .local), ("sign", .local)] : Kn) ([("sign", d)] : Rho) _) (fun d => evD cf 31 ([(".0", .local), ("sign", .local)] : Kn) ([("sign", d)] : Rho) _) _ = _
    rw [List.map_map]
    refine (compD_all _ _ (fun (c : Nat) => .str ⟨#[c]⟩) (fun _ => true) (fun c => .str (qch c)) s.cps.toList ?_ ?_ ?_).trans ?_
    ·intro c _
     (repeat simp +decide only [Q0, Q1, Q2, Q3, asgD, if_true, if_false, List.length_nil, List.length_cons, Nat.reduceAdd, List.contains_nil, List.all_cons, List.all_nil, reduceCtorEq, ne_eq, not_false_eq_true, not_true_eq_false, implies_true, if_pos, ite_true, ite_false, beq_self_eq_true])
    ·intro c _ _
     have ci : cmpD .In (.str ⟨#[c]⟩) (.str "*?[") = some (Txt.contains "*?[" ⟨#[c]⟩) := rfl
     have a1 : binD .Add (.str "[") (.str ⟨#[c]⟩) = some (.str (("[" : Str) ++ ⟨#[c]⟩)) := b_adds _ _ (by show 1 + 1 ≤ bigD; decide)
     have a2 : binD .Add (.str (("[" : Str) ++ ⟨#[c]⟩)) (.str "]") = some (.str (("[" : Str) ++ ⟨#[c]⟩ ++ ("]" : Str))) := b_adds _ _ (by rw [strLen_append]; show 1 + 1 + 1 ≤ bigD; decide)
     cases hc : Txt.contains ("*?[" : Str) ⟨#[c]⟩ with
     | true =>
      rw [hc] at ci
      (repeat simp +decide only [Q0, Q1, Q2, Q3, asgD, if_true, if_false, List.length_nil, List.length_cons, Nat.reduceAdd, List.contains_nil, List.all_cons, List.all_nil, reduceCtorEq, ne_eq, not_false_eq_true, not_true_eq_false, implies_true, if_pos, ite_true, ite_false, beq_self_eq_true, ci, a1, a2])
      simp [qch, hc]
     | false =>
      rw [hc] at ci
      (repeat simp +decide only [Q0, Q1, Q2, Q3, asgD, if_true, if_false, List.length_nil, List.length_cons, Nat.reduceAdd, List.contains_nil, List.all_cons, List.all_nil, reduceCtorEq, ne_eq, not_false_eq_true, not_true_eq_false, implies_true, if_pos, ite_true, ite_false, beq_self_eq_true, ci, a1, a2])
      simp [qch, hc]
    ·intro c _ _; rfl
    ·rw [List.filter_eq_self.mpr (fun _ _ => rfl)]; rfl
   have hj : joinD "" (.lst ((s.cps.toList.map qch).map .str)) = some (.str (quoteS s)) := join_ok _ _ (by
    have := lens_qch s.cps.toList
    have e : s.cps.toList.length = s.length := by simp; rfl
    have : bigD = 1000000 := rfl
    show _ + _ * 0 ≤ _
    omega)
   have icn : ∀ c k p, isCN (.Constant c k p) = true := fun _ _ _ => rfl
   have b20 : Nat.ble 0 20 = true := rfl
   (repeat simp +decide only [Q0, Q1, Q2, Q3, asgD, if_true, if_false, List.length_nil, List.length_cons, Nat.reduceAdd, List.contains_nil, List.all_cons, List.all_nil, reduceCtorEq, ne_eq, not_false_eq_true, not_true_eq_false, implies_true, if_pos, ite_true, ite_false, beq_self_eq_true, icn, b20, argOk_lst, meth_join, hj])
   simp [partS]
theorem part_len (q : Bool) (x : Option Str) (hx : ∀ s, x = some s → s.length ≤ 1000) (hj : ∀ s, x = some s → (quoteS s).length ≤ 3000) : (partS q x).length ≤ 3000 := by
 cases x with
 | none => exact (by decide : 1 ≤ 3000)
 | some s =>
  unfold partS
  cases q
  ·exact Nat.le_trans (hx s rfl) (by decide)
  ·exact hj s rfl
theorem text_run (q : Bool) (s : Sp) (h1 : ∀ y, s.1 = some y → y.length ≤ 1000 ∧ (quoteS y).length ≤ 3000) (h2 : ∀ y, s.2 = some y → y.length ≤ 1000 ∧ (quoteS y).length ≤ 3000) :
  exL cf ["parts"] 43 (pNames 22) (rho0 (pNames 22) ["step", "quoted"] [zT s, .bool q]) (pBody 22) = some (.ret (.str (textS q s))) := by
 have hst : ∀ z, zT s ≠ .app z := by intro z; simp [zT]
 have b1 := text_body cf (zT s) q [] s.1 hst (by decide) (fun y hy => (h1 y hy).1)
 have b2 := text_body cf (zT s) q [partS q s.1] s.2 hst (by show 1 ≤ 10; decide) (fun y hy => (h2 y hy).1)
 have hl : forS cf 40 (pNames 22) (rho22 (zT s) q [] .unb) ["parts"] "part" (lpBody (pBody 22) 1) [optD s.1, optD s.2] = some (.next (rho22 (zT s) q [partS q s.1, partS q s.2] (optD s.2))) := by
  have s1 : stD (rho22 (zT s) q [] .unb) "part" (optD s.1) = rho22 (zT s) q [] (optD s.1) := by
   unfold rho22
   (repeat simp +decide only [Q0, Q1, Q2, Q3, asgD, if_true, if_false, List.length_nil, List.length_cons, Nat.reduceAdd, List.contains_nil, List.all_cons, List.all_nil, reduceCtorEq, ne_eq, not_false_eq_true, not_true_eq_false, implies_true, if_pos, ite_true, ite_false, beq_self_eq_true, hst])
  have s2 : stD (rho22 (zT s) q [partS q s.1] (optD s.1)) "part" (optD s.2) = rho22 (zT s) q [partS q s.1] (optD s.2) := by
   unfold rho22
   (repeat simp +decide only [Q0, Q1, Q2, Q3, asgD, if_true, if_false, List.length_nil, List.length_cons, Nat.reduceAdd, List.contains_nil, List.all_cons, List.all_nil, reduceCtorEq, ne_eq, not_false_eq_true, not_true_eq_false, implies_true, if_pos, ite_true, ite_false, beq_self_eq_true, hst, optD_app])
  unfold forS
  rw [forD, optD_pure]
  dsimp only
  rw [s1, b1]
  dsimp only [List.nil_append]
  rw [forD, optD_pure]
  dsimp only
  rw [s2, b2]
  rfl
 rw [k22] at *
 have hr : rho0 ([("step", .local), ("quoted", .local), ("parts", .local), ("part", .local)] : Kn) ["step", "quoted"] [zT s, .bool q] = ([("step", zT s), ("quoted", .bool q), ("parts", .unb), ("part", .unb)] : Rho) := by rfl
 rw [hr]
 have hi : itemsD (zT s) = some [optD s.1, optD s.2] := by rfl
 have hc : List.contains (["parts"] : List Str) "parts" = true := by rfl
 have i0 : idxD (.own ([partS q s.1, partS q s.2].map .str)) (.int 0) = some (.str (partS q s.1)) := by rfl
 have i1 : idxD (.own ([partS q s.1, partS q s.2].map .str)) (.int 1) = some (.str (partS q s.2)) := by rfl
 have l1 := part_len q s.1 (fun y hy => (h1 y hy).1) (fun y hy => (h1 y hy).2)
 have l2 := part_len q s.2 (fun y hy => (h2 y hy).1) (fun y hy => (h2 y hy).2)
 have bd : bigD = 1000000 := rfl
 have a1 : binD .Add (.str "{") (.str (partS q s.1)) = some (.str (("{" : Str) ++ partS q s.1)) := b_adds _ _ (by show 1 + _ ≤ _; omega)
 have a2 : binD .Add (.str (("{" : Str) ++ partS q s.1)) (.str "}") = some (.str (("{" : Str) ++ partS q s.1 ++ ("}" : Str))) := b_adds _ _ (by rw [strLen_append]; show 1 + _ + 1 ≤ _; omega)
 have a3 : binD .Add (.str (("{" : Str) ++ partS q s.1 ++ ("}" : Str))) (.str (partS q s.2)) = some (.str (textS q s)) := b_adds _ _ (by rw [strLen_append, strLen_append]; show 1 + _ + 1 + _ ≤ _; omega)
 unfold rho22 at hl
 conv at hl => lhs; arg 7; whnf
 conv => lhs; arg 6; whnf
 rw [List.map_nil] at hl
 have es : zT s = .tup [optD s.1, optD s.2] := rfl
 rw [es] at hi hl ⊢
 generalize hP : [partS q s.1, partS q s.2].map D.str = P at *
 (repeat simp +decide only [Q0, Q1, Q2, Q3, asgD, if_true, if_false, List.length_nil, List.length_cons, Nat.reduceAdd, List.contains_nil, List.all_cons, List.all_nil, reduceCtorEq, ne_eq, not_false_eq_true, not_true_eq_false, implies_true, if_pos, ite_true, ite_false, beq_self_eq_true, hi, hc, hl, hst, i0, i1, a1, a2, a3])
end
end Mine
namespace Mine
open PySem PySem.Calls PyProof.Rows PySem.W
theorem k25 : pNames 25 = ([("pieces", .local), ("text", .local), ("at", .local), ("piece", .local), ("found", .local), ("last", .local), ("len", .globalImplicit)] : Kn) := by rfl
def takeMid (text : Str) : List Str → Int → Option Int
 | [], i => some i
 | p :: r, i => if Txt.find3 text p i < 0 then none else takeMid text r (Txt.find3 text p i + p.length)
def midsOf (ps : List Str) : List Str := sliceL ps (some 1) (some (-1))
def takenS (ps : List Str) (text : Str) : Bool :=
 if Txt.slice text none (some ((ps[0]?.getD Str.empty).length : Int)) == (ps[0]?.getD Str.empty) then
  (match takeMid text (midsOf ps) (ps[0]?.getD Str.empty).length with
  | none => false
  | some i => decide ((text.length : Int) - (ps.getLast?.getD Str.empty).length ≥ i) && (Txt.slice text (some ((text.length : Int) - (ps.getLast?.getD Str.empty).length)) none == ps.getLast?.getD Str.empty))
 else false
def rho25 (ps : List D) (text : Str) (i piece found last : D) : Rho := [("pieces", .lst ps), ("text", .str text), ("at", i), ("piece", piece), ("found", found), ("last", last)]
theorem lenD_str (x : Str) (h : x.length ≤ bigD) : lenD (.str x) = some (.int x.length) := by unfold lenD; simp [Nat.ble_eq_true_of_le h]
theorem meth_find (x y : Str) (i : Int) : meth "find" x [.str y, .int i] = some (.int (Txt.find3 x y i)) := by
 unfold meth
 have h1 : ¬ ((("find" : Str) == ("join" : Str)) = true) := by decide
 rw [if_neg h1]; simp
theorem isCN_name (x p) : isCN (.Name x p) = true := rfl
theorem isCN_const (x k p) : isCN (.Constant x k p) = true := rfl
theorem ble20_0 : Nat.ble 0 20 = true := rfl
theorem ble20_1 : Nat.ble 1 20 = true := rfl
theorem argOk_int (id : String) (i) : argOk (.blt id) (.int i) = true := rfl
section
variable (cf : Cf)
set_option maxHeartbeats 2000000 in
theorem taken_body (hlen : cf.Γ "len" = some (.blt "len")) (ps : List D) (text p : Str) (i : Int) (found last : D) (hf : ∀ z, found ≠ .app z) (hl : ∀ z, last ≠ .app z) (hp : p.length ≤ bigD) :
  exL cf [] 40 (pNames 25) (rho25 ps text (.int i) (.str p) found last) (lpBody (pBody 25) 3) =
   some (if Txt.find3 text p i < 0 then .ret (.bool false) else .next (rho25 ps text (.int (Txt.find3 text p i + p.length)) (.str p) (.int (Txt.find3 text p i)) last)) := by
 have l1 := lenD_str p hp
 rw [k25]
 unfold rho25
 conv => lhs; arg 6; whnf
 by_cases h : Txt.find3 text p i < 0
 ·have hd : decide (Txt.find3 text p i < 0) = true := by simp [h]
  rw [if_pos h]
  (repeat simp +decide only [Q0, Q1, Q2, Q3, asgD, if_true, if_false, List.length_nil, List.length_cons, Nat.reduceAdd, List.contains_nil, List.all_cons, List.all_nil, reduceCtorEq, ne_eq, not_false_eq_true, not_true_eq_false, implies_true, if_pos, ite_true, ite_false, beq_self_eq_true, hf, hl, isCN_name, ble20_0, ble20_1, argOk_str, argOk_int, meth_find, c_lt, hd])
 ·have hd : decide (Txt.find3 text p i < 0) = false := by simp [h]
  rw [if_neg h]
  (repeat simp +decide only [Q0, Q1, Q2, Q3, asgD, if_true, if_false, List.length_nil, List.length_cons, Nat.reduceAdd, List.contains_nil, List.all_cons, List.all_nil, reduceCtorEq, ne_eq, not_false_eq_true, not_true_eq_false, implies_true, if_pos, ite_true, ite_false, beq_self_eq_true, hf, hl, isCN_name, ble20_0, ble20_1, argOk_str, argOk_int, meth_find, c_lt, hd, hlen, callD_len, l1, b_addi])
theorem taken_loop (hlen : cf.Γ "len" = some (.blt "len")) (ps : List D) (text : Str) : ∀ (mids : List Str) (i : Int) (piece found last : D), (∀ z, piece ≠ .app z) → (∀ z, found ≠ .app z) → (∀ z, last ≠ .app z) → (∀ p ∈ mids, p.length ≤ bigD) →
  ∃ piece' found', (∀ z, piece' ≠ .app z) ∧ (∀ z, found' ≠ .app z) ∧ forS cf 40 (pNames 25) (rho25 ps text (.int i) piece found last) [] "piece" (lpBody (pBody 25) 3) (mids.map .str) =
   some (match takeMid text mids i with | none => .ret (.bool false) | some j => .next (rho25 ps text (.int j) piece' found' last))
 | [], i, piece, found, last, h1, h2, h3, _ => ⟨piece, found, h1, h2, rfl⟩
 | p :: r, i, piece, found, last, h1, h2, h3, hm => by
  obtain ⟨p', f', g1, g2, h⟩ := taken_loop hlen ps text r (Txt.find3 text p i + p.length) (.str p) (.int (Txt.find3 text p i)) last (by simp) (by simp) h3 (fun q hq => hm q (.tail _ hq))
  refine ⟨p', f', g1, g2, ?_⟩
  have hs : stD (rho25 ps text (.int i) piece found last) "piece" (.str p) = rho25 ps text (.int i) (.str p) found last := by
   unfold rho25
   (repeat simp +decide only [Q0, Q1, Q2, Q3, asgD, if_true, if_false, List.length_nil, List.length_cons, Nat.reduceAdd, List.contains_nil, List.all_cons, List.all_nil, reduceCtorEq, ne_eq, not_false_eq_true, not_true_eq_false, implies_true, if_pos, ite_true, ite_false, beq_self_eq_true, h1, h2, h3])
  have hb := taken_body cf hlen ps text p i found last h2 h3 (hm p (.head _))
  unfold forS at h ⊢
  rw [List.map_cons, forD, p_str]
  dsimp only
  rw [hs, hb, takeMid]
  by_cases hz : Txt.find3 text p i < 0
  ·rw [if_pos hz, if_pos hz]
  ·rw [if_neg hz, if_neg hz]
   exact h
theorem sliceL_map {α β : Type} (f : α → β) (l : List α) (lo hi : Option Int) : (sliceL l lo hi).map f = sliceL (l.map f) lo hi := by
 unfold sliceL
 rw [List.map_take, List.map_drop, List.length_map]
theorem sliceL_mem {α : Type} {l : List α} {lo hi : Option Int} {x : α} (h : x ∈ sliceL l lo hi) : x ∈ l := List.mem_of_mem_drop (List.mem_of_mem_take h)
theorem sliceL_len {α : Type} (l : List α) (lo hi : Option Int) : (sliceL l lo hi).length ≤ l.length := by
 unfold sliceL
 rw [List.length_take, List.length_drop]
 omega
theorem sliceD_lst (ds : List D) (lo hi : Option Int) (h : ds.length ≤ bigD) : sliceD (.lst ds) lo hi = some (.lst (sliceL ds lo hi)) := by unfold sliceD; simp [Nat.ble_eq_true_of_le h]
theorem sliceD_str (x : Str) (lo hi : Option Int) (h : x.length ≤ bigD) : sliceD (.str x) lo hi = some (.str (Txt.slice x lo hi)) := by unfold sliceD; simp [Nat.ble_eq_true_of_le h]
theorem idx_lst_neg {ds : List D} (h : 0 < ds.length) (hb : ds.length ≤ bigD) : idxD (.lst ds) (.int (-1)) = some (ds[ds.length - 1]'(by omega)) := by
 unfold idxD placeD
 have h1 : decide ((0 : Int) ≤ (-1 : Int)) = false := by decide
 have h2 : decide ((0 : Int) ≤ -1 + (ds.length : Int)) = true := by simp; omega
 have h3 : Nat.ble ds.length bigD = true := Nat.ble_eq_true_of_le hb
 have h4 : (-1 + (ds.length : Int)).toNat = ds.length - 1 := by omega
 simp only [h1, h2, h3, h4]
 have : ds.length - 1 < ds.length := by omega
 simp [this]
theorem taken_run (hlen : cf.Γ "len" = some (.blt "len")) (ps : List Str) (text : Str) (h2 : 2 ≤ ps.length) (hn : ps.length ≤ 1000) (hp : ∀ p ∈ ps, p.length ≤ bigD) (ht : text.length ≤ bigD) :
  exL cf [] 45 (pNames 25) (rho0 (pNames 25) ["pieces", "text"] [.lst (ps.map .str), .str text]) (pBody 25) = some (.ret (.bool (takenS ps text))) := by
 have bd : bigD = 1000000 := rfl
 obtain ⟨p0, ps', rfl⟩ : ∃ p0 ps', ps = p0 :: ps' := by cases ps with | nil => simp at h2 | cons a b => exact ⟨a, b, rfl⟩
 have hp0 := hp p0 (.head _)
 have hpl := hp ((p0 :: ps').getLast (by simp)) (List.getLast_mem _)
 obtain ⟨piece', found', g1, g2, hl⟩ := taken_loop cf hlen ((p0 :: ps').map .str) text (midsOf (p0 :: ps')) p0.length .unb .unb .unb (by simp) (by simp) (by simp) (fun q hq => hp q (sliceL_mem hq))
 have c0 : cmpD .Is (.lst ((p0 :: ps').map .str)) .none = some false := rfl
 have l1 := len_lst ((p0 :: ps').map .str) (by simp at *; omega)
 have c1 : (((((p0 :: ps').map D.str).length : Nat) : Int) == 1) = false := by simp at *; intro h; omega
 have i0 : idxD (.lst ((p0 :: ps').map .str)) (.int 0) = some (.str p0) := by
  have := idx_lst (ds := (p0 :: ps').map D.str) (n := 0) (by simp) (by simp at *; omega)
  simpa using this
 have l0 := lenD_str p0 hp0
 have lt := lenD_str text ht
 have sl := sliceD_str text none (some (p0.length : Int)) ht
 have im := idx_lst_neg (ds := (p0 :: ps').map D.str) (by simp) (by simp at *; omega)
 have hlast : ((p0 :: ps').map D.str)[((p0 :: ps').map D.str).length - 1]'(by simp) = .str ((p0 :: ps').getLast (by simp)) := by
  rw [List.getElem_map, List.getLast_eq_getElem]
  simp
 rw [hlast] at im
 clear hlast
 have ll := lenD_str _ hpl
 have sm := sliceD_lst ((p0 :: ps').map D.str) (some 1) (some (-1)) (by simp at *; omega)
 have u1 : unD .USub (.int 1) = some (.int (-1)) := rfl
 have hi : itemsD (.lst (sliceL ((p0 :: ps').map D.str) (some 1) (some (-1)))) = some ((midsOf (p0 :: ps')).map D.str) := by
  rw [items_lst (by have := sliceL_len ((p0 :: ps').map D.str) (some 1) (some (-1)); simp at *; omega), midsOf, sliceL_map]
 have e0 : ((p0 :: ps')[0]?.getD Str.empty) = p0 := rfl
 have e1 : ((p0 :: ps').getLast?.getD Str.empty) = (p0 :: ps').getLast (by simp) := by rw [List.getLast?_eq_some_getLast (by simp)]; rfl
 unfold takenS
 rw [e0, e1]
 generalize (p0 :: ps').getLast (by simp) = pl at *
 rw [k25] at *
 have hr : rho0 ([("pieces", .local), ("text", .local), ("at", .local), ("piece", .local), ("found", .local), ("last", .local), ("len", .globalImplicit)] : Kn) ["pieces", "text"] [.lst ((p0 :: ps').map .str), .str text] = rho25 ((p0 :: ps').map .str) text .unb .unb .unb .unb := by rfl
 rw [hr]
 unfold rho25 at *
 generalize (p0 :: ps').map D.str = P at *
 conv at hl => lhs; arg 7; whnf
 conv => lhs; arg 6; whnf
 cases hq : (Txt.slice text none (some (p0.length : Int)) == p0) with
 | false =>
  have cn : (Txt.slice text none (some (p0.length : Int)) != p0) = true := by rw [bne, hq]; rfl
  (repeat simp +decide only [Q0, Q1, Q2, Q3, asgD, if_true, if_false, List.length_nil, List.length_cons, Nat.reduceAdd, List.contains_nil, List.all_cons, List.all_nil, reduceCtorEq, ne_eq, not_false_eq_true, not_true_eq_false, implies_true, if_pos, ite_true, ite_false, beq_self_eq_true, hlen, callD_len, argOk_lst, argOk_str, c0, c_eqi, c_nes, l1, c1, i0, l0, lt, sl, im, ll, sm, u1, hi, cn])
 | true =>
  have cn : (Txt.slice text none (some (p0.length : Int)) != p0) = false := by rw [bne, hq]; rfl
  cases hm : takeMid text (midsOf (p0 :: ps')) p0.length with
  | none =>
   rw [hm] at hl
   (repeat simp +decide only [Q0, Q1, Q2, Q3, asgD, if_true, if_false, List.length_nil, List.length_cons, Nat.reduceAdd, List.contains_nil, List.all_cons, List.all_nil, reduceCtorEq, ne_eq, not_false_eq_true, not_true_eq_false, implies_true, if_pos, ite_true, ite_false, beq_self_eq_true, hlen, callD_len, argOk_lst, argOk_str, c0, c_eqi, c_nes, l1, c1, i0, l0, lt, sl, im, ll, sm, u1, hi, cn, hl])
  | some j =>
   rw [hm] at hl
   cases hd : decide ((text.length : Int) - pl.length ≥ j) with
   | false =>
    have tb : truS (.bool false) = some false := rfl
    (repeat simp +decide only [Q0, Q1, Q2, Q3, asgD, if_true, if_false, List.length_nil, List.length_cons, Nat.reduceAdd, List.contains_nil, List.all_cons, List.all_nil, reduceCtorEq, ne_eq, not_false_eq_true, not_true_eq_false, implies_true, if_pos, ite_true, ite_false, beq_self_eq_true, hlen, callD_len, argOk_lst, argOk_str, c0, c_eqi, c_nes, l1, c1, i0, l0, lt, sl, im, ll, sm, u1, hi, cn, hl, b_subi, c_gei, hd, tb, g1, g2])
   | true =>
    have tb : truS (.bool true) = some true := rfl
    have sz := sliceD_str text (some ((text.length : Int) - pl.length)) none ht
    (repeat simp +decide only [Q0, Q1, Q2, Q3, asgD, if_true, if_false, List.length_nil, List.length_cons, Nat.reduceAdd, List.contains_nil, List.all_cons, List.all_nil, reduceCtorEq, ne_eq, not_false_eq_true, not_true_eq_false, implies_true, if_pos, ite_true, ite_false, beq_self_eq_true, hlen, callD_len, argOk_lst, argOk_str, c0, c_eqi, c_nes, c_eqs, l1, c1, i0, l0, lt, sl, im, ll, sm, u1, hi, cn, hl, b_subi, c_gei, hd, tb, sz, g1, g2])
end
end Mine
namespace Mine
open PySem PySem.Calls PyProof.Rows PySem.W
open PySem.Builtin PySem.Builtin.Str
abbrev st (l : List Nat) : Str := ⟨l.toArray⟩
theorem st_len (l : List Nat) : (st l).length = l.length := by show l.toArray.size = _; simp
theorem st_app (a b : List Nat) : st a ++ st b = st (a ++ b) := by show (⟨a.toArray ++ b.toArray⟩ : Str) = _; simp
theorem st_inj {a b : List Nat} : st a = st b ↔ a = b := by
 constructor
 ·intro h; have : a.toArray = b.toArray := congrArg Str.cps h; simpa using this
 ·rintro rfl; rfl
theorem st_self (s : Str) : st s.cps.toList = s := by cases s; simp [st]
theorem st_beq (a b : List Nat) : (st a == st b) = (a == b) := by
 by_cases h : a = b
 ·subst h; simp
 ·have h' : st a ≠ st b := fun q => h (st_inj.mp q)
  rw [beq_eq_false_iff_ne.mpr h', beq_eq_false_iff_ne.mpr h]
theorem item_st (l : List Nat) (k : Nat) (h : k < l.length) : Txt.item (st l) (k : Int) = st [l[k]] := by
 unfold Txt.item Txt.charAt
 rw [st_len, StrLaws.seqIndex_nonneg (by omega) (by omega)]
 simp [h]
theorem clip_le (n : Nat) (i : Int) : clipAt n i ≤ n := by
 have := clipAt_cast n i
 by_cases h : i < 0
 ·rw [if_pos h] at this; omega
 ·rw [if_neg h] at this; omega
theorem idx_clip (lo hi : Option Int) (n : Nat) : strSliceIndices lo hi 1 n = strSliceIndices (some ((lo.elim 0 (clipAt n) : Nat) : Int)) (some ((hi.elim n (clipAt n) : Nat) : Int)) 1 n := by
 have key : ∀ i : Int, max 0 (min (if i < 0 then i + (n : Int) else i) n) = max 0 (min (if ((clipAt n i : Nat) : Int) < 0 then ((clipAt n i : Nat) : Int) + n else ((clipAt n i : Nat) : Int)) n) := by
  intro i
  have h1 := clipAt_cast n i
  have h2 := clip_le n i
  rw [← h1, if_neg (by omega)]
  omega
 have h1 : (1 : Int) > 0 := by decide
 have z : max (0 : Int) (min (if (((0 : Nat) : Int)) < 0 then ((0 : Nat) : Int) + n else ((0 : Nat) : Int)) n) = 0 := by rw [if_neg (by omega)]; omega
 have w : max (0 : Int) (min (if ((n : Int)) < 0 then (n : Int) + n else (n : Int)) n) = n := by rw [if_neg (by omega)]; omega
 cases lo <;> cases hi <;> dsimp only [Option.elim] <;> simp only [strSliceIndices, h1, if_true]
 ·rw [z, w]
 ·rename_i j; rw [z, ← key j]
 ·rename_i i; rw [w, ← key i]
 ·rename_i i j; rw [← key i, ← key j]
theorem slice_st (l : List Nat) (lo hi : Option Int) : Txt.slice (st l) lo hi = st (sliceL l lo hi) := by
 have e1 : Txt.slice (st l) lo hi = StrLaws.sliceText (st l) (some ((lo.elim 0 (clipAt l.length) : Nat) : Int)) (some ((hi.elim l.length (clipAt l.length) : Nat) : Int)) := by
  unfold Txt.slice StrLaws.sliceText
  rw [st_len, idx_clip lo hi]
 rw [e1]
 have hb : hi.elim l.length (clipAt l.length) ≤ (st l).length := by rw [st_len]; cases hi <;> simp [clip_le]
 by_cases hab : lo.elim 0 (clipAt l.length) ≤ hi.elim l.length (clipAt l.length)
 ·rw [StrLaws.sliceText_nat (st l) hab hb]
  show st _ = _
  unfold sliceL
  simp
 ·have hz : hi.elim l.length (clipAt l.length) - lo.elim 0 (clipAt l.length) = 0 := by omega
  unfold sliceL
  rw [hz, List.take_zero]
  generalize hi.elim l.length (clipAt l.length) = b at *
  generalize lo.elim 0 (clipAt l.length) = a at *
  unfold StrLaws.sliceText
  have : strSliceIndices (some (a : Int)) (some (b : Int)) 1 (st l).length = [] := by
   have h1 : (1 : Int) > 0 := by decide
   simp only [strSliceIndices, sliceRange, h1, if_true]
   have : ¬ (max 0 (min (if (a : Int) < 0 then (a : Int) + ((st l).length : Int) else (a : Int)) ((st l).length : Int)) < max 0 (min (if (b : Int) < 0 then (b : Int) + ((st l).length : Int) else (b : Int)) ((st l).length : Int))) := by
    rw [if_neg (by omega), if_neg (by omega)]
    omega
   rw [if_neg this]
   rfl
  rw [this]
  split
  ·rename_i h
   have q : 0 = (st l).length := by simpa using h
   have : (st l).length = 0 := q.symm
   rw [st_len] at this
   rw [List.length_eq_zero_iff] at this
   subst this; rfl
  ·rfl
theorem slice_upto (l : List Nat) (b : Nat) : sliceL l none (some (b : Int)) = l.take b := by
 unfold sliceL
 simp only [Option.elim, clipAt_nat, List.drop_zero, Nat.sub_zero]
 rcases Nat.le_total b l.length with h | h
 ·rw [Nat.min_eq_left h]
 ·rw [Nat.min_eq_right h, List.take_length, List.take_of_length_le h]
theorem slice_from (l : List Nat) (a : Nat) : sliceL l (some (a : Int)) none = l.drop a := by
 unfold sliceL
 simp only [Option.elim, clipAt_nat]
 rw [List.take_of_length_le (by rw [List.length_drop]; omega)]
 rcases Nat.le_total a l.length with h | h
 ·rw [Nat.min_eq_left h]
 ·rw [Nat.min_eq_right h, List.drop_length, List.drop_of_length_le h]
theorem slice_mid (l : List Nat) (a b : Nat) : sliceL l (some (a : Int)) (some (b : Int)) = (l.drop a).take (b - a) := by
 unfold sliceL
 simp only [Option.elim, clipAt_nat]
 rcases Nat.le_total a l.length with h | h
 ·rw [Nat.min_eq_left h]
  rcases Nat.le_total b l.length with h' | h'
  ·rw [Nat.min_eq_left h']
  ·rw [Nat.min_eq_right h', List.take_of_length_le (by rw [List.length_drop]; omega), List.take_of_length_le (by rw [List.length_drop]; omega)]
 ·rw [Nat.min_eq_right h, List.drop_length, List.drop_of_length_le h]; simp
theorem slice_neg (l : List Nat) (k : Nat) (hk : 1 ≤ k) : sliceL l (some (-(k : Int))) none = l.drop (l.length - k) := by
 unfold sliceL
 simp only [Option.elim, clipAt_neg _ _ hk]
 rw [List.take_of_length_le (by rw [List.length_drop]; omega)]
theorem find_spec (l p : List Nat) (i : Nat) :
  (Txt.find3 (st l) (st p) (i : Int) = -1 ∧ ∀ k, i ≤ k → k + p.length ≤ l.length → (l.drop k).take p.length ≠ p) ∨
  ∃ k : Nat, Txt.find3 (st l) (st p) (i : Int) = (k : Int) ∧ i ≤ k ∧ k + p.length ≤ l.length ∧ (l.drop k).take p.length = p ∧ ∀ j, i ≤ j → j < k → (l.drop j).take p.length ≠ p := by
 have fi : fromIndex (st l).length (i : Int) = i := by unfold fromIndex; rw [if_neg (by omega)]; omega
 have at' : ∀ k, StrLaws.At (st l) (st p) (st l).length k ↔ (k + p.length ≤ l.length ∧ (l.drop k).take p.length = p) := by
  intro k
  unfold StrLaws.At
  rw [StrLaws.subAt_eq, st_len, st_len]
  simp
 unfold Txt.find3
 rw [fi]
 rcases StrLaws.occ_head_from (st l) (st p) i 1 (Nat.le_refl 1) with ⟨h0, hn⟩ | ⟨k, r, h0, hlo, hk, hn⟩
 ·rw [h0]
  exact .inl ⟨rfl, fun k h1 h2 h3 => hn k h1 ((at' k).mpr ⟨h2, h3⟩)⟩
 ·rw [h0]
  obtain ⟨k1, k2⟩ := (at' k).mp hk
  refine .inr ⟨k, rfl, hlo, k1, k2, fun j h1 h2 h3 => hn j h1 h2 ((at' j).mpr ⟨by omega, h3⟩)⟩
end Mine
namespace Mine
open PySem PySem.Calls PyProof.Rows PySem.W
open PySem.Builtin PySem.Builtin.Str
theorem k24 : pNames 24 = ([("told", .local), ("pieces", .local), ("state", .local), ("i", .local), ("sign", .local), ("end", .local), ("len", .globalImplicit)] : Kn) := by rfl
def lsD (ps : List (List Nat)) : List D := ps.map fun p => .str (st p)
def rho24 (told : List Nat) (ps : List (List Nat)) (s i : Int) (sign e : D) : Rho := [("told", .str (st told)), ("pieces", .own (lsD ps)), ("state", .int s), ("i", .int i), ("sign", sign), ("end", e)]
theorem idx_st (l : List Nat) (k : Nat) (h : k < l.length) (hb : l.length ≤ bigD) : idxD (.str (st l)) (.int (k : Int)) = some (.str (st [l[k]])) := by
 unfold idxD placeD
 have h1 : decide ((0 : Int) ≤ (k : Int)) = true := by simp
 have h2 : Nat.blt ((k : Int)).toNat (st l).length = true := by simp [Nat.blt_eq, st_len, h]
 have h3 : Nat.ble (st l).length bigD = true := Nat.ble_eq_true_of_le (by rw [st_len]; exact hb)
 simp only [h1, h2, h3]
 rw [item_st l k h]
inductive It where
 | opn | dot | clo
 | cls (c : Nat)
 | chr (c : Nat)
def escL (c : Nat) : List Nat := if c = 123 ∨ c = 125 then [92, c] else [c]
def clsL (c : Nat) : List Nat := if c = 91 then [91, 92, 91, 93] else [91, c, 93]
def zR : It → List Nat
 | .opn => [40, 63, 62, 46, 42, 63]
 | .dot => [46, 42]
 | .clo => [41]
 | .cls c => clsL c
 | .chr c => escL c
section
variable (cf : Cf)
theorem lsD_len (ps : List (List Nat)) : (lsD ps).length = ps.length := by simp [lsD]
theorem lsD_snoc (ps : List (List Nat)) (z : List Nat) : lsD (ps ++ [z]) = lsD ps ++ [.str (st z)] := by simp [lsD]
theorem last_facts (ps : List (List Nat)) (z : List Nat) (v : D) :
  decide (0 ≤ (-1 : Int) + ((lsD (ps ++ [z])).length : Int)) = true ∧
  (lsD (ps ++ [z]))[((-1 : Int) + ((lsD (ps ++ [z])).length : Int)).toNat]? = some (.str (st z)) ∧
  (lsD (ps ++ [z])).set ((-1 : Int) + ((lsD (ps ++ [z])).length : Int)).toNat v = lsD ps ++ [v] := by
 have hn : ((-1 : Int) + ((lsD (ps ++ [z])).length : Int)).toNat = (lsD ps).length := by rw [lsD_len, lsD_len, List.length_append]; simp; omega
 rw [hn]
 refine ⟨?_, ?_, ?_⟩
 ·rw [lsD_len, List.length_append]
  simp
  omega
 ·rw [lsD_snoc]; simp
 ·rw [lsD_snoc]; simp
theorem idx_at (T : List Nat) (k c : Nat) (h : T[k]? = some c) (hb : T.length ≤ 100000) : idxD (.str (st T)) (.int (k : Int)) = some (.str (st [c])) := by
 have hk : k < T.length := by
  rcases Nat.lt_or_ge k T.length with q | q
  ·exact q
  ·rw [List.getElem?_eq_none q] at h; cases h
 rw [idx_st T k hk (by have : bigD = 1000000 := rfl; omega)]
 rw [List.getElem?_eq_getElem hk] at h
 rw [Option.some.inj h]
set_option maxHeartbeats 4000000 in
theorem pieces_chr1 (T : List Nat) (i : Nat) (ps : List (List Nat)) (z : List Nat) (c : Nat) (s : Int) (sign e : D) (hs : s = 0 ∨ s = 1 ∨ s = 3) (hc : c = 47 ∨ c = 97 ∨ c = 98 ∨ c = 117) (hsg : ∀ z, sign ≠ .app z) (he : ∀ z, e ≠ .app z)
  (h0 : T[i]? = some c) (hb : T.length ≤ 100000) (hps : ps.length ≤ 1000) (hz : z.length ≤ 10000) :
  exL cf ["pieces"] 40 (pNames 24) (rho24 T (ps ++ [z]) s i sign e) (lpBody (pBody 24) 4) = some (.next (rho24 T (ps ++ [z ++ [c]]) s ((i + 1 : Nat) : Int) (.str (st [c])) e)) := by
 have bd : bigD = 1000000 := rfl
 obtain ⟨d1, d2, d3⟩ := last_facts ps z (.str (st (z ++ [c])))
 have hbl : Nat.ble (lsD (ps ++ [z])).length bigD = true := Nat.ble_eq_true_of_le (by rw [lsD_len]; simp; omega)
 have hbz : Nat.ble ((st z).length + (st [c]).length) bigD = true := Nat.ble_eq_true_of_le (by rw [st_len, st_len]; simp; omega)
 have u1 : unD .USub (.int 1) = some (.int (-1)) := rfl
 have ap := st_app z [c]
 have hP : rho24 T (ps ++ [z ++ [c]]) s ((i + 1 : Nat) : Int) (.str (st [c])) e = ([("told", .str (st T)), ("pieces", .own (lsD ps ++ [.str (st (z ++ [c]))])), ("state", .int s), ("i", .int ((i : Int) + 1)), ("sign", .str (st [c])), ("end", e)] : Rho) := by
  unfold rho24; rw [lsD_snoc]; simp
 rw [hP, k24]
 unfold rho24
 conv => lhs; arg 6; whnf
 have s2 : (s == 2) = false := by rcases hs with rfl | rfl | rfl <;> rfl
 have i0 := idx_at T i c h0 hb
 generalize lsD (ps ++ [z]) = P at *
 have e1 : (st [c] == ("(" : Str)) = false := by rcases hc with rfl | rfl | rfl | rfl <;> decide
 have e2 : (st [c] == ("." : Str)) = false := by rcases hc with rfl | rfl | rfl | rfl <;> decide
 have e3 : (st [c] == (")" : Str)) = false := by rcases hc with rfl | rfl | rfl | rfl <;> decide
 have e4 : Txt.contains ("().*?+{}|^$" : Str) (st [c]) = false := by rcases hc with rfl | rfl | rfl | rfl <;> decide +kernel
 have e5 : (st [c] == ("[" : Str)) = false := by rcases hc with rfl | rfl | rfl | rfl <;> decide
 have e6 : (st [c] == ("\\" : Str)) = false := by rcases hc with rfl | rfl | rfl | rfl <;> decide
 have ci : cmpD .In (.str (st [c])) (.str "().*?+{}|^$") = some false := by show some _ = _; rw [e4]
 (repeat simp +decide only [Q0, Q1, Q2, Q3, asgD, if_true, if_false, List.length_nil, List.length_cons, Nat.reduceAdd, List.contains_nil, List.all_cons, List.all_nil, reduceCtorEq, ne_eq, not_false_eq_true, not_true_eq_false, implies_true, if_pos, ite_true, ite_false, beq_self_eq_true, hsg, he, i0, c_eqs, c_eqi, e1, e2, e3, ci, e5, e6, s2, hbl, hbz, d1, d2, d3, u1, ap, b_addi, decide_true])
end
end Mine
namespace Mine
open PySem PySem.Calls PyProof.Rows PySem.W
open PySem.Builtin PySem.Builtin.Str
theorem find_now (T : List Nat) (k c : Nat) (h : T[k]? = some c) : Txt.find3 (st T) (st [c]) (k : Int) = (k : Int) := by
 have hk : k < T.length := by
  rcases Nat.lt_or_ge k T.length with q | q
  ·exact q
  ·rw [List.getElem?_eq_none q] at h; cases h
 have he : (T.drop k).take 1 = [c] := by
  rw [List.drop_eq_getElem_cons hk]
  rw [List.getElem?_eq_getElem hk] at h
  simp [Option.some.inj h]
 rcases find_spec T [c] k with ⟨_, hn⟩ | ⟨j, hj, hkj, _, _, hn⟩
 ·exact absurd he (hn k (Nat.le_refl _) (by simp; omega))
 ·rcases Nat.lt_or_ge k j with q | q
  ·exact absurd he (hn k (Nat.le_refl _) q)
  ·rw [hj]; have : j = k := by omega
   rw [this]
theorem find_next (T : List Nat) (k c d : Nat) (h0 : T[k]? = some d) (hd : d ≠ c) (h : T[k + 1]? = some c) : Txt.find3 (st T) (st [c]) (k : Int) = ((k + 1 : Nat) : Int) := by
 have hk : k + 1 < T.length := by
  rcases Nat.lt_or_ge (k + 1) T.length with q | q
  ·exact q
  ·rw [List.getElem?_eq_none q] at h; cases h
 have he : (T.drop (k + 1)).take 1 = [c] := by
  rw [List.drop_eq_getElem_cons hk]
  rw [List.getElem?_eq_getElem hk] at h
  simp [Option.some.inj h]
 have he0 : (T.drop k).take 1 ≠ [c] := by
  have hk' : k < T.length := by omega
  rw [List.drop_eq_getElem_cons hk']
  rw [List.getElem?_eq_getElem hk'] at h0
  simp [Option.some.inj h0, hd]
 rcases find_spec T [c] k with ⟨_, hn⟩ | ⟨j, hj, hkj, _, hm, hn⟩
 ·exact absurd he (hn (k + 1) (by omega) (by simp; omega))
 ·have j1 : j ≠ k := fun q => by subst q; exact he0 hm
  rcases Nat.lt_or_ge (k + 1) j with q | q
  ·exact absurd he (hn (k + 1) (by omega) q)
  ·rw [hj]; have : j = k + 1 := by omega
   rw [this]
theorem sliceD_mid (T : List Nat) (a b : Nat) (hb : T.length ≤ 100000) : sliceD (.str (st T)) (some (a : Int)) (some (b : Int)) = some (.str (st ((T.drop a).take (b - a)))) := by
 rw [sliceD_str _ _ _ (by rw [st_len]; have : bigD = 1000000 := rfl; omega), slice_st, slice_mid]
section
variable (cf : Cf)
set_option maxHeartbeats 4000000 in
theorem pieces_chr2 (T : List Nat) (i : Nat) (ps : List (List Nat)) (z : List Nat) (c : Nat) (s : Int) (sign e : D) (hs : s = 0 ∨ s = 1 ∨ s = 3) (hsg : ∀ z, sign ≠ .app z) (he : ∀ z, e ≠ .app z)
  (h0 : T[i]? = some 92) (h1 : T[i + 1]? = some c) (hb : T.length ≤ 100000) (hps : ps.length ≤ 1000) (hz : z.length ≤ 10000) :
  exL cf ["pieces"] 40 (pNames 24) (rho24 T (ps ++ [z]) s i sign e) (lpBody (pBody 24) 4) = some (.next (rho24 T (ps ++ [z ++ [c]]) s ((i + 2 : Nat) : Int) (.str (st [92])) e)) := by
 have bd : bigD = 1000000 := rfl
 obtain ⟨d1, d2, d3⟩ := last_facts ps z (.str (st (z ++ [c])))
 have hbl : Nat.ble (lsD (ps ++ [z])).length bigD = true := Nat.ble_eq_true_of_le (by rw [lsD_len]; simp; omega)
 have hbz : Nat.ble ((st z).length + (st [c]).length) bigD = true := Nat.ble_eq_true_of_le (by rw [st_len, st_len]; simp; omega)
 have u1 : unD .USub (.int 1) = some (.int (-1)) := rfl
 have ap := st_app z [c]
 have hP : rho24 T (ps ++ [z ++ [c]]) s ((i + 2 : Nat) : Int) (.str (st [92])) e = ([("told", .str (st T)), ("pieces", .own (lsD ps ++ [.str (st (z ++ [c]))])), ("state", .int s), ("i", .int ((i : Int) + 1 + 1)), ("sign", .str (st [92])), ("end", e)] : Rho) := by
  unfold rho24; rw [lsD_snoc]
  have : ((i + 2 : Nat) : Int) = (i : Int) + 1 + 1 := by omega
  rw [this]
 rw [hP, k24]
 unfold rho24
 conv => lhs; arg 6; whnf
 have s2 : (s == 2) = false := by rcases hs with rfl | rfl | rfl <;> rfl
 have i0 := idx_at T i 92 h0 hb
 have i1 : idxD (.str (st T)) (.int ((i : Int) + 1)) = some (.str (st [c])) := idx_at T (i + 1) c h1 hb
 generalize lsD (ps ++ [z]) = P at *
 have e1 : (st [92] == ("(" : Str)) = false := by decide
 have e2 : (st [92] == ("." : Str)) = false := by decide
 have e3 : (st [92] == (")" : Str)) = false := by decide
 have e4 : Txt.contains ("().*?+{}|^$" : Str) (st [92]) = false := by decide +kernel
 have e5 : (st [92] == ("[" : Str)) = false := by decide
 have e6 : (st [92] == ("\\" : Str)) = true := by decide
 have ci : cmpD .In (.str (st [92])) (.str "().*?+{}|^$") = some false := by show some _ = _; rw [e4]
 (repeat simp +decide only [Q0, Q1, Q2, Q3, asgD, if_true, if_false, List.length_nil, List.length_cons, Nat.reduceAdd, List.contains_nil, List.all_cons, List.all_nil, reduceCtorEq, ne_eq, not_false_eq_true, not_true_eq_false, implies_true, if_pos, ite_true, ite_false, beq_self_eq_true, hsg, he, i0, i1, c_eqs, c_eqi, e1, e2, e3, ci, e5, e6, s2, hbl, hbz, d1, d2, d3, u1, ap, b_addi, decide_true])
set_option maxHeartbeats 4000000 in
theorem pieces_cls1 (T : List Nat) (i : Nat) (ps : List (List Nat)) (z : List Nat) (c : Nat) (s : Int) (sign e : D) (hs : s = 0 ∨ s = 1 ∨ s = 3) (hc : c = 42 ∨ c = 63) (hsg : ∀ z, sign ≠ .app z) (he : ∀ z, e ≠ .app z)
  (h0 : T[i]? = some 91) (h1 : T[i + 1]? = some c) (h2 : T[i + 2]? = some 93) (hb : T.length ≤ 100000) (hps : ps.length ≤ 1000) (hz : z.length ≤ 10000) (hsl : (T.drop (i + 1)).take 1 = [c]) :
  exL cf ["pieces"] 40 (pNames 24) (rho24 T (ps ++ [z]) s i sign e) (lpBody (pBody 24) 4) = some (.next (rho24 T (ps ++ [z ++ [c]]) s ((i + 3 : Nat) : Int) (.str (st [91])) (.int ((i + 2 : Nat) : Int)))) := by
 have bd : bigD = 1000000 := rfl
 obtain ⟨d1, d2, d3⟩ := last_facts ps z (.str (st (z ++ [c])))
 have hbl : Nat.ble (lsD (ps ++ [z])).length bigD = true := Nat.ble_eq_true_of_le (by rw [lsD_len]; simp; omega)
 have hbz : Nat.ble ((st z).length + (st [c]).length) bigD = true := Nat.ble_eq_true_of_le (by rw [st_len, st_len]; simp; omega)
 have u1 : unD .USub (.int 1) = some (.int (-1)) := rfl
 have ap := st_app z [c]
 have hP : rho24 T (ps ++ [z ++ [c]]) s ((i + 3 : Nat) : Int) (.str (st [91])) (.int ((i + 2 : Nat) : Int)) = ([("told", .str (st T)), ("pieces", .own (lsD ps ++ [.str (st (z ++ [c]))])), ("state", .int s), ("i", .int ((i : Int) + 2 + 1)), ("sign", .str (st [91])), ("end", .int ((i : Int) + 2))] : Rho) := by
  unfold rho24; rw [lsD_snoc]
  have : ((i + 3 : Nat) : Int) = (i : Int) + 2 + 1 := by omega
  rw [this]
  rfl
 rw [hP, k24]
 unfold rho24
 conv => lhs; arg 6; whnf
 have s2 : (s == 2) = false := by rcases hs with rfl | rfl | rfl <;> rfl
 have i0 := idx_at T i 91 h0 hb
 have i1 : idxD (.str (st T)) (.int ((i : Int) + 2 - 1)) = some (.str (st [c])) := by
  have : (i : Int) + 2 - 1 = ((i + 1 : Nat) : Int) := by omega
  rw [this]; exact idx_at T (i + 1) c h1 hb
 have ff : Txt.find3 (st T) ("]" : Str) ((i : Int) + 2) = (i : Int) + 2 := find_now T (i + 2) 93 h2
 have sl : sliceD (.str (st T)) (some ((i : Int) + 1)) (some ((i : Int) + 2)) = some (.str (st [c])) := by
  have := sliceD_mid T (i + 1) (i + 2) hb
  have e : i + 2 - (i + 1) = 1 := by omega
  rw [e, hsl] at this
  exact this
 have ni : cmpD .NotIn (.str (st [c])) (.tup [.str "*", .str "?", .str "\\["]) = some false := by rcases hc with rfl | rfl <;> rfl
 generalize lsD (ps ++ [z]) = P at *
 have e1 : (st [91] == ("(" : Str)) = false := by decide
 have e2 : (st [91] == ("." : Str)) = false := by decide
 have e3 : (st [91] == (")" : Str)) = false := by decide
 have e4 : Txt.contains ("().*?+{}|^$" : Str) (st [91]) = false := by decide +kernel
 have e5 : (st [91] == ("[" : Str)) = true := by decide
 have ci : cmpD .In (.str (st [91])) (.str "().*?+{}|^$") = some false := by show some _ = _; rw [e4]
 (repeat simp +decide only [Q0, Q1, Q2, Q3, asgD, if_true, if_false, List.length_nil, List.length_cons, Nat.reduceAdd, List.contains_nil, List.all_cons, List.all_nil, reduceCtorEq, ne_eq, not_false_eq_true, not_true_eq_false, implies_true, if_pos, ite_true, ite_false, beq_self_eq_true, hsg, he, i0, i1, c_eqs, c_eqi, e1, e2, e3, ci, e5, s2, hbl, hbz, d1, d2, d3, u1, ap, b_addi, b_subi, decide_true, isCN_name, ble20_1, argOk_str, argOk_int, meth_find, ff, sl, ni])
set_option maxHeartbeats 4000000 in
theorem pieces_cls2 (T : List Nat) (i : Nat) (ps : List (List Nat)) (z : List Nat) (s : Int) (sign e : D) (hs : s = 0 ∨ s = 1 ∨ s = 3) (hsg : ∀ z, sign ≠ .app z) (he : ∀ z, e ≠ .app z)
  (h0 : T[i]? = some 91) (h1 : T[i + 2]? = some 91) (h2 : T[i + 3]? = some 93) (hb : T.length ≤ 100000) (hps : ps.length ≤ 1000) (hz : z.length ≤ 10000) (hsl : (T.drop (i + 1)).take 2 = [92, 91]) :
  exL cf ["pieces"] 40 (pNames 24) (rho24 T (ps ++ [z]) s i sign e) (lpBody (pBody 24) 4) = some (.next (rho24 T (ps ++ [z ++ [91]]) s ((i + 4 : Nat) : Int) (.str (st [91])) (.int ((i + 3 : Nat) : Int)))) := by
 have bd : bigD = 1000000 := rfl
 obtain ⟨d1, d2, d3⟩ := last_facts ps z (.str (st (z ++ [91])))
 have hbl : Nat.ble (lsD (ps ++ [z])).length bigD = true := Nat.ble_eq_true_of_le (by rw [lsD_len]; simp; omega)
 have hbz : Nat.ble ((st z).length + (st [91]).length) bigD = true := Nat.ble_eq_true_of_le (by rw [st_len, st_len]; simp; omega)
 have u1 : unD .USub (.int 1) = some (.int (-1)) := rfl
 have ap := st_app z [91]
 have hP : rho24 T (ps ++ [z ++ [91]]) s ((i + 4 : Nat) : Int) (.str (st [91])) (.int ((i + 3 : Nat) : Int)) = ([("told", .str (st T)), ("pieces", .own (lsD ps ++ [.str (st (z ++ [91]))])), ("state", .int s), ("i", .int (((i + 3 : Nat) : Int) + 1)), ("sign", .str (st [91])), ("end", .int ((i + 3 : Nat) : Int))] : Rho) := by
  unfold rho24; rw [lsD_snoc]; rfl
 rw [hP, k24]
 unfold rho24
 conv => lhs; arg 6; whnf
 have s2 : (s == 2) = false := by rcases hs with rfl | rfl | rfl <;> rfl
 have i0 := idx_at T i 91 h0 hb
 have i1 : idxD (.str (st T)) (.int (((i + 3 : Nat) : Int) - 1)) = some (.str (st [91])) := by
  have : ((i + 3 : Nat) : Int) - 1 = ((i + 2 : Nat) : Int) := by omega
  rw [this]; exact idx_at T (i + 2) 91 h1 hb
 have ff : Txt.find3 (st T) ("]" : Str) ((i : Int) + 2) = ((i + 3 : Nat) : Int) := find_next T (i + 2) 93 91 h1 (by decide) h2
 have sl : sliceD (.str (st T)) (some ((i : Int) + 1)) (some ((i + 3 : Nat) : Int)) = some (.str (st [92, 91])) := by
  have := sliceD_mid T (i + 1) (i + 3) hb
  have e : i + 3 - (i + 1) = 2 := by omega
  rw [e, hsl] at this
  exact this
 have ni : cmpD .NotIn (.str (st [92, 91])) (.tup [.str "*", .str "?", .str "\\["]) = some false := by rfl
 generalize ((i + 3 : Nat) : Int) = j at *
 generalize lsD (ps ++ [z]) = P at *
 have e1 : (st [91] == ("(" : Str)) = false := by decide
 have e2 : (st [91] == ("." : Str)) = false := by decide
 have e3 : (st [91] == (")" : Str)) = false := by decide
 have e4 : Txt.contains ("().*?+{}|^$" : Str) (st [91]) = false := by decide +kernel
 have e5 : (st [91] == ("[" : Str)) = true := by decide
 have ci : cmpD .In (.str (st [91])) (.str "().*?+{}|^$") = some false := by show some _ = _; rw [e4]
 (repeat simp +decide only [Q0, Q1, Q2, Q3, asgD, if_true, if_false, List.length_nil, List.length_cons, Nat.reduceAdd, List.contains_nil, List.all_cons, List.all_nil, reduceCtorEq, ne_eq, not_false_eq_true, not_true_eq_false, implies_true, if_pos, ite_true, ite_false, beq_self_eq_true, hsg, he, i0, i1, c_eqs, c_eqi, e1, e2, e3, ci, e5, s2, hbl, hbz, d1, d2, d3, u1, ap, b_addi, b_subi, decide_true, isCN_name, ble20_1, argOk_str, argOk_int, meth_find, ff, sl, ni])
set_option maxHeartbeats 4000000 in
theorem pieces_opn (T : List Nat) (i : Nat) (ps : List (List Nat)) (s : Int) (sign e : D) (hs : s = 0 ∨ s = 2) (hsg : ∀ z, sign ≠ .app z) (he : ∀ z, e ≠ .app z)
  (h0 : T[i]? = some 40) (hb : T.length ≤ 100000) (hps : ps.length ≤ 1000) (hsl : (T.drop i).take 6 = [40, 63, 62, 46, 42, 63]) :
  exL cf ["pieces"] 40 (pNames 24) (rho24 T ps s i sign e) (lpBody (pBody 24) 4) = some (.next (rho24 T (ps ++ [[]]) 1 ((i + 6 : Nat) : Int) (.str (st [40])) e)) := by
 have bd : bigD = 1000000 := rfl
 have hbl : Nat.ble (lsD ps).length bigD = true := Nat.ble_eq_true_of_le (by rw [lsD_len]; omega)
 have hP : rho24 T (ps ++ [[]]) 1 ((i + 6 : Nat) : Int) (.str (st [40])) e = ([("told", .str (st T)), ("pieces", .own (lsD ps ++ [.str ""])), ("state", .int 1), ("i", .int ((i : Int) + 6)), ("sign", .str (st [40])), ("end", e)] : Rho) := by
  unfold rho24; rw [lsD_snoc]; rfl
 rw [hP, k24]
 unfold rho24
 conv => lhs; arg 6; whnf
 have i0 := idx_at T i 40 h0 hb
 have sl : sliceD (.str (st T)) (some (i : Int)) (some ((i : Int) + 6)) = some (.str (st [40, 63, 62, 46, 42, 63])) := by
  have := sliceD_mid T i (i + 6) hb
  have e : i + 6 - i = 6 := by omega
  rw [e, hsl] at this
  exact this
 generalize lsD ps = P at *
 have e1 : (st [40] == ("(" : Str)) = true := by decide
 have e2 : (st [40, 63, 62, 46, 42, 63] == ("(?>.*?" : Str)) = true := by decide
 have ci : cmpD .In (.int s) (.tup [.int 0, .int 2]) = some true := by rcases hs with rfl | rfl <;> rfl
 (repeat simp +decide only [Q0, Q1, Q2, Q3, asgD, if_true, if_false, List.length_nil, List.length_cons, Nat.reduceAdd, List.contains_nil, List.all_cons, List.all_nil, reduceCtorEq, ne_eq, not_false_eq_true, not_true_eq_false, implies_true, if_pos, ite_true, ite_false, beq_self_eq_true, hsg, he, i0, c_eqs, c_eqi, e1, e2, ci, hbl, b_addi, b_subi, decide_true, sl])
set_option maxHeartbeats 4000000 in
theorem pieces_dot (T : List Nat) (i : Nat) (ps : List (List Nat)) (s : Int) (sign e : D) (hs : s = 0 ∨ s = 2) (hsg : ∀ z, sign ≠ .app z) (he : ∀ z, e ≠ .app z)
  (h0 : T[i]? = some 46) (hb : T.length ≤ 100000) (hps : ps.length ≤ 1000) (hsl : (T.drop i).take 2 = [46, 42]) :
  exL cf ["pieces"] 40 (pNames 24) (rho24 T ps s i sign e) (lpBody (pBody 24) 4) = some (.next (rho24 T (ps ++ [[]]) 3 ((i + 2 : Nat) : Int) (.str (st [46])) e)) := by
 have bd : bigD = 1000000 := rfl
 have hbl : Nat.ble (lsD ps).length bigD = true := Nat.ble_eq_true_of_le (by rw [lsD_len]; omega)
 have hP : rho24 T (ps ++ [[]]) 3 ((i + 2 : Nat) : Int) (.str (st [46])) e = ([("told", .str (st T)), ("pieces", .own (lsD ps ++ [.str ""])), ("state", .int 3), ("i", .int ((i : Int) + 2)), ("sign", .str (st [46])), ("end", e)] : Rho) := by
  unfold rho24; rw [lsD_snoc]; rfl
 rw [hP, k24]
 unfold rho24
 conv => lhs; arg 6; whnf
 have i0 := idx_at T i 46 h0 hb
 have sl : sliceD (.str (st T)) (some (i : Int)) (some ((i : Int) + 2)) = some (.str (st [46, 42])) := by
  have := sliceD_mid T i (i + 2) hb
  have e : i + 2 - i = 2 := by omega
  rw [e, hsl] at this
  exact this
 generalize lsD ps = P at *
 have e0 : (st [46] == ("(" : Str)) = false := by decide
 have e1 : (st [46] == ("." : Str)) = true := by decide
 have e2 : (st [46, 42] == (".*" : Str)) = true := by decide
 have ci : cmpD .In (.int s) (.tup [.int 0, .int 2]) = some true := by rcases hs with rfl | rfl <;> rfl
 (repeat simp +decide only [Q0, Q1, Q2, Q3, asgD, if_true, if_false, List.length_nil, List.length_cons, Nat.reduceAdd, List.contains_nil, List.all_cons, List.all_nil, reduceCtorEq, ne_eq, not_false_eq_true, not_true_eq_false, implies_true, if_pos, ite_true, ite_false, beq_self_eq_true, hsg, he, i0, c_eqs, c_eqi, e0, e1, e2, ci, hbl, b_addi, b_subi, decide_true, sl])
set_option maxHeartbeats 4000000 in
theorem pieces_clo (T : List Nat) (i : Nat) (ps : List (List Nat)) (sign e : D) (hsg : ∀ z, sign ≠ .app z) (he : ∀ z, e ≠ .app z)
  (h0 : T[i]? = some 41) (hb : T.length ≤ 100000) :
  exL cf ["pieces"] 40 (pNames 24) (rho24 T ps 1 i sign e) (lpBody (pBody 24) 4) = some (.next (rho24 T ps 2 ((i + 1 : Nat) : Int) (.str (st [41])) e)) := by
 have hP : rho24 T ps 2 ((i + 1 : Nat) : Int) (.str (st [41])) e = ([("told", .str (st T)), ("pieces", .own (lsD ps)), ("state", .int 2), ("i", .int ((i : Int) + 1)), ("sign", .str (st [41])), ("end", e)] : Rho) := by
  unfold rho24; rfl
 rw [hP, k24]
 unfold rho24
 conv => lhs; arg 6; whnf
 have i0 := idx_at T i 41 h0 hb
 generalize lsD ps = P at *
 have e0 : (st [41] == ("(" : Str)) = false := by decide
 have e1 : (st [41] == ("." : Str)) = false := by decide
 have e2 : (st [41] == (")" : Str)) = true := by decide
 have s1 : cmpD .Eq (.int 1) (.int 1) = some true := rfl
 (repeat simp +decide only [Q0, Q1, Q2, Q3, asgD, if_true, if_false, List.length_nil, List.length_cons, Nat.reduceAdd, List.contains_nil, List.all_cons, List.all_nil, reduceCtorEq, ne_eq, not_false_eq_true, not_true_eq_false, implies_true, if_pos, ite_true, ite_false, beq_self_eq_true, hsg, he, i0, c_eqs, s1, e0, e1, e2, b_addi, b_subi, decide_true])
end
end Mine
namespace Mine
open PySem PySem.Calls PyProof.Rows PySem.W
open PySem.Builtin PySem.Builtin.Str
def istep (ps : List (List Nat)) (s : Nat) : It → Option (List (List Nat) × Nat)
 | .opn => if s = 0 ∨ s = 2 then some (ps ++ [[]], 1) else none
 | .dot => if s = 0 ∨ s = 2 then some (ps ++ [[]], 3) else none
 | .clo => if s = 1 then some (ps, 2) else none
 | .cls c => if (s = 0 ∨ s = 1 ∨ s = 3) ∧ (c = 42 ∨ c = 63 ∨ c = 91) then (match ps.getLast? with | some z => some (ps.dropLast ++ [z ++ [c]], s) | none => none) else none
 | .chr c => if (s = 0 ∨ s = 1 ∨ s = 3) ∧ (c = 47 ∨ c = 97 ∨ c = 98 ∨ c = 117 ∨ c = 123 ∨ c = 125) then (match ps.getLast? with | some z => some (ps.dropLast ++ [z ++ [c]], s) | none => none) else none
def irun : List It → List (List Nat) → Nat → Option (List (List Nat) × Nat)
 | [], ps, s => some (ps, s)
 | x :: r, ps, s => match istep ps s x with | some (ps', s') => irun r ps' s' | none => none
theorem snoc_of {ps : List (List Nat)} {z : List Nat} (h : ps.getLast? = some z) : ps = ps.dropLast ++ [z] := by
 have hne : ps ≠ [] := fun q => by subst q; cases h
 rw [List.getLast?_eq_some_getLast hne] at h
 have := List.dropLast_concat_getLast hne
 rw [Option.some.inj h] at this
 exact this.symm
theorem at_pre (pre a rest : List Nat) (k : Nat) (h : k < a.length) : (pre ++ a ++ rest)[pre.length + k]? = some a[k] := by
 rw [List.append_assoc, List.getElem?_append_right (by omega)]
 rw [show pre.length + k - pre.length = k by omega, List.getElem?_append_left h]
 simp [h]
theorem drop_pre (pre a rest : List Nat) : ((pre ++ a ++ rest).drop pre.length).take a.length = a := by
 rw [List.append_assoc, List.drop_left]
 simp
theorem drop_pre1 (pre : List Nat) (x : Nat) (a rest : List Nat) : ((pre ++ (x :: a) ++ rest).drop (pre.length + 1)).take a.length = a := by
 have : pre ++ (x :: a) ++ rest = (pre ++ [x]) ++ a ++ rest := by simp
 rw [this, show pre.length + 1 = (pre ++ [x]).length by simp]
 exact drop_pre _ _ _
section
variable (cf : Cf)
theorem istep_ok (pre rest : List Nat) (ps : List (List Nat)) (s : Nat) (x : It) (ps' : List (List Nat)) (s' : Nat) (sign e : D) (h : istep ps s x = some (ps', s')) (hsg : ∀ z, sign ≠ .app z) (he : ∀ z, e ≠ .app z)
  (hb : (pre ++ zR x ++ rest).length ≤ 100000) (hps : ps.length ≤ 1000) (hz : ∀ z ∈ ps, z.length ≤ 10000) :
  ∃ sign' e', (∀ z, sign' ≠ .app z) ∧ (∀ z, e' ≠ .app z) ∧ exL cf ["pieces"] 40 (pNames 24) (rho24 (pre ++ zR x ++ rest) ps s pre.length sign e) (lpBody (pBody 24) 4) =
   some (.next (rho24 (pre ++ zR x ++ rest) ps' s' ((pre.length + (zR x).length : Nat) : Int) sign' e')) := by
 cases x with
 | opn =>
  dsimp only [istep] at h
  split at h
  ·rename_i hs
   cases h
   exact ⟨_, e, by simp, he, pieces_opn cf _ pre.length ps s sign e (by omega) hsg he (at_pre pre (zR .opn) rest 0 (by decide)) hb hps (drop_pre pre (zR .opn) rest)⟩
  ·cases h
 | dot =>
  dsimp only [istep] at h
  split at h
  ·rename_i hs
   cases h
   exact ⟨_, e, by simp, he, pieces_dot cf _ pre.length ps s sign e (by omega) hsg he (at_pre pre (zR .dot) rest 0 (by decide)) hb hps (drop_pre pre (zR .dot) rest)⟩
  ·cases h
 | clo =>
  dsimp only [istep] at h
  split at h
  ·rename_i hs
   cases h
   subst hs
   exact ⟨_, e, by simp, he, pieces_clo cf _ pre.length ps sign e hsg he (at_pre pre (zR .clo) rest 0 (by decide)) hb⟩
  ·cases h
 | cls c =>
  dsimp only [istep] at h
  split at h
  ·rename_i hs
   split at h
   ·rename_i z hl
    cases h
    have hsn := snoc_of hl
    have hzl : z.length ≤ 10000 := hz z (by rw [hsn]; simp)
    have hpl : ps.dropLast.length ≤ 1000 := by rw [List.length_dropLast]; omega
    generalize ps.dropLast = qs at *
    subst hsn
    by_cases h91 : c = 91
    ·subst h91
     exact ⟨_, _, by simp, by simp, pieces_cls2 cf _ pre.length qs z s sign e (by omega) hsg he (at_pre pre (zR (.cls 91)) rest 0 (by decide)) (at_pre pre (zR (.cls 91)) rest 2 (by decide)) (at_pre pre (zR (.cls 91)) rest 3 (by decide)) hb hpl hzl (by
      have := drop_pre pre [91, 92, 91, 93] rest
      have d := drop_pre1 pre 91 [92, 91, 93] rest
      have e2 : List.take 2 (List.take 3 (List.drop (pre.length + 1) (pre ++ [91, 92, 91, 93] ++ rest))) = [92, 91] := by
       have q : List.take 3 (List.drop (pre.length + 1) (pre ++ [91, 92, 91, 93] ++ rest)) = [92, 91, 93] := d
       rw [q]; rfl
      rw [List.take_take] at e2
      exact e2)⟩
    ·have hcl : zR (.cls c) = [91, c, 93] := by show clsL c = _; unfold clsL; rw [if_neg h91]
     have hc : c = 42 ∨ c = 63 := by omega
     rw [hcl] at hb ⊢
     exact ⟨_, _, by simp, by simp, pieces_cls1 cf _ pre.length qs z c s sign e (by omega) hc hsg he (at_pre pre [91, c, 93] rest 0 (by simp)) (at_pre pre [91, c, 93] rest 1 (by simp)) (at_pre pre [91, c, 93] rest 2 (by simp)) hb hpl hzl (by
      have d := drop_pre1 pre 91 [c, 93] rest
      have e2 : List.take 1 (List.take 2 (List.drop (pre.length + 1) (pre ++ [91, c, 93] ++ rest))) = [c] := by
       have q : List.take 2 (List.drop (pre.length + 1) (pre ++ [91, c, 93] ++ rest)) = [c, 93] := d
       rw [q]; rfl
      rw [List.take_take] at e2
      exact e2)⟩
   ·cases h
  ·cases h
 | chr c =>
  dsimp only [istep] at h
  split at h
  ·rename_i hs
   split at h
   ·rename_i z hl
    cases h
    have hsn := snoc_of hl
    have hzl : z.length ≤ 10000 := hz z (by rw [hsn]; simp)
    have hpl : ps.dropLast.length ≤ 1000 := by rw [List.length_dropLast]; omega
    generalize ps.dropLast = qs at *
    subst hsn
    by_cases hc : c = 123 ∨ c = 125
    ·have hcl : zR (.chr c) = [92, c] := by show escL c = _; unfold escL; rw [if_pos hc]
     rw [hcl] at hb ⊢
     exact ⟨_, e, by simp, he, pieces_chr2 cf _ pre.length qs z c s sign e (by omega) hsg he (at_pre pre [92, c] rest 0 (by simp)) (at_pre pre [92, c] rest 1 (by simp)) hb hpl hzl⟩
    ·have hcl : zR (.chr c) = [c] := by show escL c = _; unfold escL; rw [if_neg hc]
     rw [hcl] at hb ⊢
     exact ⟨_, e, by simp, he, pieces_chr1 cf _ pre.length qs z c s sign e (by omega) (by omega) hsg he (at_pre pre [c] rest 0 (by simp)) hb hpl hzl⟩
   ·cases h
  ·cases h
theorem pieces_test (hlen : cf.Γ "len" = some (.blt "len")) (T : List Nat) (ps : List (List Nat)) (s : Int) (i : Nat) (sign e : D) (hb : T.length ≤ 100000) :
  tsD cf 40 (pNames 24) (rho24 T ps s i sign e) (lpTest (pBody 24) 4) = some (decide ((i : Int) < (T.length : Int) - 3)) := by
 have l1 := lenD_str (st T) (by rw [st_len]; have : bigD = 1000000 := rfl; omega)
 rw [st_len] at l1
 rw [k24]
 unfold rho24
 conv => lhs; arg 5; whnf
 generalize lsD ps = P at *
 (repeat simp +decide only [Q0, Q1, Q2, Q3, asgD, if_true, if_false, List.length_nil, List.length_cons, Nat.reduceAdd, List.contains_nil, List.all_cons, List.all_nil, reduceCtorEq, ne_eq, not_false_eq_true, not_true_eq_false, implies_true, if_pos, ite_true, ite_false, beq_self_eq_true, hlen, callD_len, argOk_str, l1, b_subi, c_lt])
theorem itText_pos (x : It) : 0 < (zR x).length := by
 cases x with
 | cls c => show 0 < (clsL c).length; unfold clsL; split <;> simp
 | chr c => show 0 < (escL c).length; unfold escL; split <;> simp
 | _ => simp [zR]
theorem istep_len {ps ps' : List (List Nat)} {s s' : Nat} {x : It} (h : istep ps s x = some (ps', s')) {N M : Nat} (hN : ps.length ≤ N) (hM : ∀ z ∈ ps, z.length ≤ M) : ps'.length ≤ N + 1 ∧ ∀ z ∈ ps', z.length ≤ M + 1 := by
 have snoc : ∀ (z : List Nat) (c : Nat), ps.getLast? = some z → (ps.dropLast ++ [z ++ [c]]).length ≤ N + 1 ∧ ∀ y ∈ ps.dropLast ++ [z ++ [c]], y.length ≤ M + 1 := by
  intro z c hl
  have hsn := snoc_of hl
  refine ⟨by rw [List.length_append, List.length_dropLast]; simp; omega, fun y hy => ?_⟩
  rcases List.mem_append.mp hy with q | q
  ·exact Nat.le_succ_of_le (hM y ((List.dropLast_sublist ps).subset q))
  ·rw [List.mem_singleton.mp q]
   have := hM z (by rw [hsn]; simp)
   simp; omega
 have push : ∀ y ∈ ps ++ [[]], y.length ≤ M + 1 := fun y hy => by
  rcases List.mem_append.mp hy with q | q
  ·exact Nat.le_succ_of_le (hM y q)
  ·rw [List.mem_singleton.mp q]; simp
 cases x <;> dsimp only [istep] at h
 ·split at h
  ·cases h; exact ⟨by simp; omega, push⟩
  ·cases h
 ·split at h
  ·cases h; exact ⟨by simp; omega, push⟩
  ·cases h
 ·split at h
  ·cases h; exact ⟨by omega, fun y hy => Nat.le_succ_of_le (hM y hy)⟩
  ·cases h
 ·split at h
  ·split at h
   ·cases h; exact snoc _ _ (by assumption)
   ·cases h
  ·cases h
 ·split at h
  ·split at h
   ·cases h; exact snoc _ _ (by assumption)
   ·cases h
  ·cases h
theorem pieces_loop (hlen : cf.Γ "len" = some (.blt "len")) (tail : List Nat) (ht : tail.length = 3) : ∀ (its : List It) (pre : List Nat) (ps : List (List Nat)) (s : Nat) (sign e : D) (ps' : List (List Nat)) (s' : Nat) (f : Nat), irun its ps s = some (ps', s') → (∀ z, sign ≠ .app z) → (∀ z, e ≠ .app z) →
  (pre ++ its.flatMap zR ++ tail).length ≤ 100000 → ps.length + its.length ≤ 1000 → (∀ z ∈ ps, z.length + its.length ≤ 10000) → its.length < f →
  ∃ sign' e', (∀ z, sign' ≠ .app z) ∧ (∀ z, e' ≠ .app z) ∧ whD (fun ρ => tsD cf 40 (pNames 24) ρ (lpTest (pBody 24) 4)) (fun ρ => exL cf ["pieces"] 40 (pNames 24) ρ (lpBody (pBody 24) 4)) f (rho24 (pre ++ its.flatMap zR ++ tail) ps s pre.length sign e) =
   some (.next (rho24 (pre ++ its.flatMap zR ++ tail) ps' s' ((pre.length + (its.flatMap zR).length : Nat) : Int) sign' e'))
 | [], pre, ps, s, sign, e, ps', s', f, h, hsg, he, hb, h1, h2, hf => by
  cases h
  obtain ⟨f, rfl⟩ : ∃ g, f = g + 1 := ⟨f - 1, by omega⟩
  refine ⟨sign, e, hsg, he, ?_⟩
  rw [whD, pieces_test cf hlen _ _ _ _ _ _ hb]
  have : decide ((pre.length : Int) < (((pre ++ [].flatMap zR ++ tail).length : Nat) : Int) - 3) = false := by simp [ht]
  rw [this]
  simp
 | x :: r, pre, ps, s, sign, e, ps', s', f, h, hsg, he, hb, h1, h2, hf => by
  obtain ⟨f, rfl⟩ : ∃ g, f = g + 1 := ⟨f - 1, by omega⟩
  unfold irun at h
  split at h
  ·rename_i q t hst
   have eT : pre ++ (x :: r).flatMap zR ++ tail = pre ++ zR x ++ (r.flatMap zR ++ tail) := by simp
   have eT2 : pre ++ (x :: r).flatMap zR ++ tail = (pre ++ zR x) ++ r.flatMap zR ++ tail := by simp
   obtain ⟨g1, g2⟩ := istep_len hst (N := ps.length) (M := 10000 - (r.length + 1)) (Nat.le_refl _) (fun z hz => by have := h2 z hz; simp at this; omega)
   obtain ⟨sg, e1, a1, a2, hst'⟩ := istep_ok cf pre (r.flatMap zR ++ tail) ps s x q t sign e hst hsg he (by rw [← eT]; exact hb) (by omega) (fun z hz => by have := h2 z hz; omega)
   obtain ⟨sg', e', b1, b2, hl⟩ := pieces_loop hlen tail ht r (pre ++ zR x) q t sg e1 ps' s' f h a1 a2 (by rw [← eT2]; exact hb) (by simp at h1; omega) (fun z hz => by have := g2 z hz; simp at h1 hf; have := h2; omega) (by simp at hf; omega)
   refine ⟨sg', e', b1, b2, ?_⟩
   rw [whD, pieces_test cf hlen _ _ _ _ _ _ hb]
   have hlt : decide ((pre.length : Int) < (((pre ++ (x :: r).flatMap zR ++ tail).length : Nat) : Int) - 3) = true := by
    have := itText_pos x
    rw [decide_eq_true_eq, eT, List.length_append, List.length_append, List.length_append, ht]
    omega
   rw [hlt]
   dsimp only
   rw [eT, hst']
   dsimp only
   rw [← eT, eT2]
   rw [List.length_append] at hl
   rw [hl]
   simp [Nat.add_assoc]
  ·cases h
end
end Mine
namespace Mine
open PySem PySem.Calls PyProof.Rows PySem.W
open PySem.Builtin PySem.Builtin.Str
def toldL (its : List It) : List Nat := [40, 63, 115, 58] ++ its.flatMap zR ++ [41, 92, 90]
section
variable (cf : Cf)
theorem pieces_run (hlen : cf.Γ "len" = some (.blt "len")) (its : List It) (ps : List (List Nat)) (s : Nat) (hr : irun its [[]] 0 = some (ps, s)) (hs : s = 0 ∨ s = 3) (hb : (toldL its).length ≤ 100000) (hn : its.length ≤ 900) :
  exL cf ["pieces"] 46 (pNames 24) (rho0 (pNames 24) ["told"] [.str (st (toldL its))]) (pBody 24) = some (.ret (.lst (lsD ps))) := by
 obtain ⟨sg, e', a1, a2, hl0⟩ := pieces_loop cf hlen [41, 92, 90] rfl its [40, 63, 115, 58] [[]] 0 .unb .unb ps s loopD hr (by simp) (by simp) hb (by simp; omega) (by simp; omega) (by have : loopD = 1000000 := rfl; omega)
 have hl : whS cf 40 (pNames 24) (rho24 (toldL its) [[]] (0 : Nat) (4 : Nat) .unb .unb) ["pieces"] (lpTest (pBody 24) 4) (lpBody (pBody 24) 4) = some (.next (rho24 (toldL its) ps s ((4 + (its.flatMap zR).length : Nat) : Int) sg e')) := hl0
 have hb' : (st (toldL its)).length ≤ bigD := by rw [st_len]; have : bigD = 1000000 := rfl; omega
 have l1 := lenD_str _ hb'
 have s1 : sliceD (.str (st (toldL its))) none (some 4) = some (.str (st [40, 63, 115, 58])) := by
  rw [sliceD_str _ _ _ hb', slice_st]
  have : sliceL (toldL its) none (some ((4 : Nat) : Int)) = [40, 63, 115, 58] := by
   rw [slice_upto]
   unfold toldL
   simp
  exact congrArg (fun l => some (D.str (st l))) this
 have s2 : sliceD (.str (st (toldL its))) (some (-3)) none = some (.str (st [41, 92, 90])) := by
  rw [sliceD_str _ _ _ hb', slice_st]
  have : sliceL (toldL its) (some (-((3 : Nat) : Int))) none = [41, 92, 90] := by
   rw [slice_neg _ _ (by decide)]
   unfold toldL
   rw [List.length_append, show ([41, 92, 90] : List Nat).length = 3 from rfl, Nat.add_sub_cancel, List.drop_left]
  exact congrArg (fun l => some (D.str (st l))) this
 have e1 : (st [40, 63, 115, 58] != ("(?s:" : Str)) = false := by decide
 have e2 : (st [41, 92, 90] != (")\\Z" : Str)) = false := by decide
 have u1 : unD .USub (.int 3) = some (.int (-3)) := rfl
 rw [k24] at *
 have hr : rho0 ([("told", .local), ("pieces", .local), ("state", .local), ("i", .local), ("sign", .local), ("end", .local), ("len", .globalImplicit)] : Kn) ["told"] [.str (st (toldL its))] = ([("told", .str (st (toldL its))), ("pieces", .unb), ("state", .unb), ("i", .unb), ("sign", .unb), ("end", .unb)] : Rho) := by rfl
 rw [hr]
 have hc : List.contains (["pieces"] : List Str) "pieces" = true := by rfl
 unfold rho24 at hl
 have el : lsD [[]] = [.str ""] := by rfl
 rw [el] at hl
 generalize toldL its = T at *
 generalize lsD ps = P at *
 generalize ((4 + (its.flatMap zR).length : Nat) : Int) = j at *
 conv at hl => lhs; arg 6; whnf
 conv at hl => lhs; arg 7; whnf
 conv => lhs; arg 6; whnf
 have n0 : ((0 : Nat) : Int) = 0 := rfl
 have n4 : ((4 : Nat) : Int) = 4 := rfl
 rw [n0, n4] at hl
 rcases hs with rfl | rfl
 ·have ci : cmpD .In (.int ((0 : Nat) : Int)) (.tup [.int 0, .int 3]) = some true := rfl
  (repeat simp +decide only [Q0, Q1, Q2, Q3, asgD, if_true, if_false, List.length_nil, List.length_cons, Nat.reduceAdd, List.contains_nil, List.all_cons, List.all_nil, reduceCtorEq, ne_eq, not_false_eq_true, not_true_eq_false, implies_true, if_pos, ite_true, ite_false, beq_self_eq_true, s1, s2, c_nes, e1, e2, u1, hc, hl, a1, a2, ci])
 ·have ci : cmpD .In (.int ((3 : Nat) : Int)) (.tup [.int 0, .int 3]) = some true := rfl
  (repeat simp +decide only [Q0, Q1, Q2, Q3, asgD, if_true, if_false, List.length_nil, List.length_cons, Nat.reduceAdd, List.contains_nil, List.all_cons, List.all_nil, reduceCtorEq, ne_eq, not_false_eq_true, not_true_eq_false, implies_true, if_pos, ite_true, ite_false, beq_self_eq_true, s1, s2, c_nes, e1, e2, u1, hc, hl, a1, a2, ci])
end
end Mine
namespace Mine
open PySem PySem.Calls PyProof.Rows PySem.W
open PySem.Builtin PySem.Builtin.Str
theorem k12 : pNames 12 = ([("inp", .local), ("STAR", .local), ("res", .local), ("add", .local), ("i", .local), ("n", .local), ("fixed", .local), ("len", .globalImplicit)] : Kn) := by rfl
def jWhile2 : List Stmt := lpBody (pBody 12) 4
def rho12 (P : List D) (S : Addr) (R : List D) (i n : Int) (fx : D) : Rho := [("inp", .lst P), ("STAR", .opq S), ("res", .own R), ("add", .app "res"), ("i", .int i), ("n", .int n), ("fixed", fx)]
theorem idx_lst' {P : List D} {i : Nat} {d : D} (h : P[i]? = some d) (hb : P.length ≤ 100000) : idxD (.lst P) (.int (i : Int)) = some d := by
 have hi : i < P.length := by
  rcases Nat.lt_or_ge i P.length with q | q
  ·exact q
  ·rw [List.getElem?_eq_none q] at h; cases h
 rw [idx_lst hi (by have : bigD = 1000000 := rfl; omega)]
 rw [List.getElem?_eq_getElem hi] at h
 exact h
theorem isnot_str (x : Str) (S : Addr) : cmpD .IsNot (.str x) (.opq S) = some true := rfl
theorem is_star (S : Addr) : cmpD .Is (.opq S) (.opq S) = some true := by
 unfold cmpD; dsimp only; unfold Mine.isD; dsimp only
 rw [show Nat.beq S S = true from Nat.beq_refl S]
theorem isnot_star (S : Addr) : cmpD .IsNot (.opq S) (.opq S) = some false := by
 unfold cmpD; dsimp only; unfold Mine.isD; dsimp only
 rw [show Nat.beq S S = true from Nat.beq_refl S]
 rfl
section
variable (cf : Cf)
set_option maxHeartbeats 2000000 in
theorem join_test (f : Nat) (hf : f = 55 ∨ f = 47) (t : Expr) (ht : t = lpTest (pBody 12) 3 ∨ t = lpTest jWhile2 5) (P : List D) (S : Addr) (R : List D) (i : Nat) (fx : D) (hb : P.length ≤ 100000) (d : D) (hd : d = .opq S ∨ ∃ x, d = .str x) (h : P[i]? = some d) :
  tsD cf f (pNames 12) (rho12 P S R i P.length fx) t = some (match d with | .opq _ => false | _ => true) := by
 have i0 := idx_lst' h hb
 have hi : i < P.length := by
  rcases Nat.lt_or_ge i P.length with q | q
  ·exact q
  ·rw [List.getElem?_eq_none q] at h; cases h
 have hlt : decide ((i : Int) < (P.length : Int)) = true := by simp [hi]
 rw [k12]
 unfold rho12
 rcases hf with rfl | rfl <;> rcases ht with rfl | rfl <;> rcases hd with rfl | ⟨x, rfl⟩ <;>
  (conv => lhs; arg 5; whnf) <;>
  (repeat simp +decide only [Q0, Q1, Q2, Q3, asgD, if_true, if_false, List.length_nil, List.length_cons, Nat.reduceAdd, List.contains_nil, List.all_cons, List.all_nil, reduceCtorEq, ne_eq, not_false_eq_true, not_true_eq_false, implies_true, if_pos, ite_true, ite_false, beq_self_eq_true, c_lt, hlt, i0, isnot_str, isnot_star])
set_option maxHeartbeats 2000000 in
theorem join_test_end (f : Nat) (hf : f = 55 ∨ f = 47) (t : Expr) (ht : t = lpTest (pBody 12) 3 ∨ t = lpTest jWhile2 5) (P : List D) (S : Addr) (R : List D) (i : Nat) (fx : D) (h : i = P.length) :
  tsD cf f (pNames 12) (rho12 P S R i P.length fx) t = some false := by
 have hlt : decide ((i : Int) < (P.length : Int)) = false := by simp [h]
 rw [k12]
 unfold rho12
 rcases hf with rfl | rfl <;> rcases ht with rfl | rfl <;>
  (conv => lhs; arg 5; whnf) <;>
  (repeat simp +decide only [Q0, Q1, Q2, Q3, asgD, if_true, if_false, List.length_nil, List.length_cons, Nat.reduceAdd, List.contains_nil, List.all_cons, List.all_nil, reduceCtorEq, ne_eq, not_false_eq_true, not_true_eq_false, implies_true, if_pos, ite_true, ite_false, beq_self_eq_true, c_lt, hlt])
set_option maxHeartbeats 2000000 in
theorem join_body1 (P : List D) (S : Addr) (R : List D) (i : Nat) (n : Int) (fx : D) (hfx : ∀ z, fx ≠ .app z) (hb : P.length ≤ 100000) (hR : R.length ≤ 100000) (x : Str) (h : P[i]? = some (.str x)) :
  exL cf ["res", "fixed"] 55 (pNames 12) (rho12 P S R i n fx) (lpBody (pBody 12) 3) = some (.next (rho12 P S (R ++ [.str x]) ((i + 1 : Nat) : Int) n fx)) := by
 have i0 := idx_lst' h hb
 have hbl : Nat.ble R.length bigD = true := Nat.ble_eq_true_of_le (by have : bigD = 1000000 := rfl; omega)
 have hP : rho12 P S (R ++ [.str x]) ((i + 1 : Nat) : Int) n fx = ([("inp", .lst P), ("STAR", .opq S), ("res", .own (R ++ [.str x])), ("add", .app "res"), ("i", .int ((i : Int) + 1)), ("n", .int n), ("fixed", fx)] : Rho) := rfl
 rw [hP, k12]
 unfold rho12
 conv => lhs; arg 6; whnf
 (repeat simp +decide only [Q0, Q1, Q2, Q3, asgD, if_true, if_false, List.length_nil, List.length_cons, Nat.reduceAdd, List.contains_nil, List.all_cons, List.all_nil, reduceCtorEq, ne_eq, not_false_eq_true, not_true_eq_false, implies_true, if_pos, ite_true, ite_false, beq_self_eq_true, hfx, i0, hbl])
theorem join_loop1 (P : List D) (S : Addr) (fx : D) (hfx : ∀ z, fx ≠ .app z) (rest : List D) (hr : rest = [] ∨ ∃ r, rest = .opq S :: r) : ∀ (xs : List Str) (pre : List D) (R : List D) (f : Nat), P = pre ++ xs.map .str ++ rest → P.length ≤ 100000 → R.length + xs.length ≤ 100000 → xs.length < f →
  whD (fun ρ => tsD cf 55 (pNames 12) ρ (lpTest (pBody 12) 3)) (fun ρ => exL cf ["res", "fixed"] 55 (pNames 12) ρ (lpBody (pBody 12) 3)) f (rho12 P S R pre.length P.length fx) = some (.next (rho12 P S (R ++ xs.map .str) ((pre.length + xs.length : Nat) : Int) P.length fx))
 | [], pre, R, f, hP, hb, _, hf => by
  obtain ⟨f, rfl⟩ : ∃ g, f = g + 1 := ⟨f - 1, by omega⟩
  rw [whD]
  rcases hr with rfl | ⟨r, rfl⟩
  ·rw [join_test_end cf 55 (.inl rfl) _ (.inl rfl) P S R pre.length fx (by subst hP; simp)]
   simp
  ·rw [join_test cf 55 (.inl rfl) _ (.inl rfl) P S R pre.length fx hb (.opq S) (.inl rfl) (by subst hP; simp)]
   simp
 | x :: xs, pre, R, f, hP, hb, hR, hf => by
  obtain ⟨f, rfl⟩ : ∃ g, f = g + 1 := ⟨f - 1, by omega⟩
  have hx : P[pre.length]? = some (.str x) := by subst hP; simp
  rw [whD, join_test cf 55 (.inl rfl) _ (.inl rfl) P S R pre.length fx hb (.str x) (.inr ⟨x, rfl⟩) hx]
  dsimp only
  rw [join_body1 cf P S R pre.length P.length fx hfx hb (by simp at hR; omega) x hx]
  dsimp only
  have := join_loop1 P S fx hfx rest hr xs (pre ++ [.str x]) (R ++ [.str x]) f (by rw [hP]; simp) hb (by simp at *; omega) (by simp at hf; omega)
  rw [List.length_append] at this
  rw [show (([D.str x] : List D).length) = 1 from rfl] at this
  have e : pre.length + 1 + xs.length = pre.length + (x :: xs).length := by simp; omega
  rw [this, e]
  simp
end
end Mine
namespace Mine
open PySem PySem.Calls PyProof.Rows PySem.W
open PySem.Builtin PySem.Builtin.Str
def jS (xs : List Str) : Str := Txt.join ("" : Str) xs
def gS (x : Str) : Str := [("(?>.*?" : Str), x, (")" : Str)].foldl (· ++ ·) Str.empty
def addsOf (rest : List D) (J : Str) : List D := match rest with | [] => [.str (st [46, 42]), .str J] | _ => [.str (gS J)]
section
variable (cf : Cf)
set_option maxHeartbeats 2000000 in
theorem join_body2 (P : List D) (S : Addr) (R F : List D) (i : Nat) (n : Int) (hb : P.length ≤ 100000) (hF : F.length ≤ 100000) (x : Str) (h : P[i]? = some (.str x)) :
  exL cf ["res", "fixed"] 47 (pNames 12) (rho12 P S R i n (.own F)) (lpBody jWhile2 5) = some (.next (rho12 P S R ((i + 1 : Nat) : Int) n (.own (F ++ [.str x])))) := by
 have i0 := idx_lst' h hb
 have hbl : Nat.ble F.length bigD = true := Nat.ble_eq_true_of_le (by have : bigD = 1000000 := rfl; omega)
 have hP : rho12 P S R ((i + 1 : Nat) : Int) n (.own (F ++ [.str x])) = ([("inp", .lst P), ("STAR", .opq S), ("res", .own R), ("add", .app "res"), ("i", .int ((i : Int) + 1)), ("n", .int n), ("fixed", .own (F ++ [.str x]))] : Rho) := rfl
 rw [hP, k12]
 unfold rho12
 conv => lhs; arg 6; whnf
 (repeat simp +decide only [Q0, Q1, Q2, Q3, asgD, if_true, if_false, List.length_nil, List.length_cons, Nat.reduceAdd, List.contains_nil, List.all_cons, List.all_nil, reduceCtorEq, ne_eq, not_false_eq_true, not_true_eq_false, implies_true, if_pos, ite_true, ite_false, beq_self_eq_true, i0, hbl])
theorem join_loop2 (P : List D) (S : Addr) (R : List D) (rest : List D) (hr : rest = [] ∨ ∃ r, rest = .opq S :: r) : ∀ (xs : List Str) (pre : List D) (F : List D) (f : Nat), P = pre ++ xs.map .str ++ rest → P.length ≤ 100000 → F.length + xs.length ≤ 100000 → xs.length < f →
  whD (fun ρ => tsD cf 47 (pNames 12) ρ (lpTest jWhile2 5)) (fun ρ => exL cf ["res", "fixed"] 47 (pNames 12) ρ (lpBody jWhile2 5)) f (rho12 P S R pre.length P.length (.own F)) = some (.next (rho12 P S R ((pre.length + xs.length : Nat) : Int) P.length (.own (F ++ xs.map .str))))
 | [], pre, F, f, hP, hb, _, hf => by
  obtain ⟨f, rfl⟩ : ∃ g, f = g + 1 := ⟨f - 1, by omega⟩
  rw [whD]
  rcases hr with rfl | ⟨r, rfl⟩
  ·rw [join_test_end cf 47 (.inr rfl) _ (.inr rfl) P S R pre.length (.own F) (by subst hP; simp)]
   simp
  ·rw [join_test cf 47 (.inr rfl) _ (.inr rfl) P S R pre.length (.own F) hb (.opq S) (.inl rfl) (by subst hP; simp)]
   simp
 | x :: xs, pre, F, f, hP, hb, hR, hf => by
  obtain ⟨f, rfl⟩ : ∃ g, f = g + 1 := ⟨f - 1, by omega⟩
  have hx : P[pre.length]? = some (.str x) := by subst hP; simp
  rw [whD, join_test cf 47 (.inr rfl) _ (.inr rfl) P S R pre.length (.own F) hb (.str x) (.inr ⟨x, rfl⟩) hx]
  dsimp only
  rw [join_body2 cf P S R F pre.length P.length hb (by simp at hR; omega) x hx]
  dsimp only
  have := join_loop2 P S R rest hr xs (pre ++ [.str x]) (F ++ [.str x]) f (by rw [hP]; simp) hb (by simp at *; omega) (by simp at hf; omega)
  rw [List.length_append] at this
  rw [show (([D.str x] : List D).length) = 1 from rfl] at this
  have e : pre.length + 1 + xs.length = pre.length + (x :: xs).length := by simp; omega
  rw [this, e]
  simp
set_option maxHeartbeats 4000000 in
theorem join_turn_a (P : List D) (S : Addr) (R : List D) (i : Nat) (fx : D) (hfx : ∀ z, fx ≠ .app z) (hb : P.length ≤ 100000) (hR : R.length ≤ 100000) (h : P[i]? = some (.opq S)) (hn : i + 1 = P.length) :
  exL cf ["res", "fixed"] 54 (pNames 12) (rho12 P S R i P.length fx) jWhile2 = some (.brk (rho12 P S (R ++ [.str (st [46, 42])]) ((i + 1 : Nat) : Int) P.length fx)) := by
 have i0 := idx_lst' h hb
 have hbl : Nat.ble R.length bigD = true := Nat.ble_eq_true_of_le (by have : bigD = 1000000 := rfl; omega)
 have hP : rho12 P S (R ++ [.str (st [46, 42])]) ((i + 1 : Nat) : Int) P.length fx = ([("inp", .lst P), ("STAR", .opq S), ("res", .own (R ++ [.str ".*"])), ("add", .app "res"), ("i", .int ((i : Int) + 1)), ("n", .int P.length), ("fixed", fx)] : Rho) := rfl
 have hlt : decide ((i : Int) < (P.length : Int)) = true := by simp; omega
 have heq : ((i : Int) + 1 == (P.length : Int)) = true := by simp; omega
 rw [hP, k12]
 unfold rho12
 conv => lhs; arg 6; whnf
 (repeat simp +decide only [Q0, Q1, Q2, Q3, asgD, if_true, if_false, List.length_nil, List.length_cons, Nat.reduceAdd, List.contains_nil, List.all_cons, List.all_nil, reduceCtorEq, ne_eq, not_false_eq_true, not_true_eq_false, implies_true, if_pos, ite_true, ite_false, beq_self_eq_true, hfx, i0, hbl, is_star, c_eqi, heq])
set_option maxHeartbeats 4000000 in
theorem join_turn_b (P : List D) (S : Addr) (R : List D) (pre rest : List D) (x : Str) (xs : List Str) (fx : D) (hfx : ∀ z, fx ≠ .app z) (hb : P.length ≤ 100000) (hR : R.length ≤ 90000) (hP0 : P = pre ++ (.opq S :: (x :: xs).map .str) ++ rest) (hr : rest = [] ∨ ∃ r, rest = .opq S :: r)
  (hj : lensS (x :: xs) ≤ 100000) :
  exL cf ["res", "fixed"] 54 (pNames 12) (rho12 P S R pre.length P.length fx) jWhile2 =
   some (.next (rho12 P S (R ++ addsOf rest (jS (x :: xs))) ((pre.length + 1 + (x :: xs).length : Nat) : Int) P.length (.str (jS (x :: xs))))) := by
 have bd : bigD = 1000000 := rfl
 have h0 : P[pre.length]? = some (.opq S) := by subst hP0; simp
 have h1 : P[pre.length + 1]? = some (.str x) := by
  subst hP0
  have : pre ++ (.opq S :: (x :: xs).map D.str) ++ rest = (pre ++ [.opq S]) ++ (.str x :: (xs.map D.str ++ rest)) := by simp
  rw [this, List.getElem?_append_right (by simp)]
  simp
 have i0 := idx_lst' h0 hb
 have i1 : idxD (.lst P) (.int ((pre.length : Int) + 1)) = some (.str x) := idx_lst' h1 hb
 have hlP : pre.length + 1 + (x :: xs).length + rest.length = P.length := by subst hP0; simp; omega
 have heq : ((pre.length : Int) + 1 == (P.length : Int)) = false := by simp at *; omega
 have hl : whS cf 47 (pNames 12) (rho12 P S R ((pre.length : Int) + 1) P.length (.own [])) ["res", "fixed"] (lpTest jWhile2 5) (lpBody jWhile2 5) = some (.next (rho12 P S R ((pre.length + 1 + (x :: xs).length : Nat) : Int) P.length (.own ((x :: xs).map .str)))) := by
  have := join_loop2 cf P S R rest hr (x :: xs) (pre ++ [.opq S]) [] loopD (by rw [hP0]; simp) hb (by simp at *; omega) (by have : loopD = 1000000 := rfl; simp at *; omega)
  rw [List.length_append] at this
  rw [show (([D.opq S] : List D).length) = 1 from rfl, List.nil_append] at this
  exact this
 have jo : joinD "" (.own ((x :: xs).map .str)) = some (.str (jS (x :: xs))) := join_own "" (x :: xs) (by show lensS (x :: xs) + (x :: xs).length * 0 ≤ _; omega)
 have hbl : Nat.ble R.length bigD = true := Nat.ble_eq_true_of_le (by omega)
 have hbl2 : Nat.ble (R.length + 1) bigD = true := Nat.ble_eq_true_of_le (by omega)
 have hc : List.contains (["res", "fixed"] : List Str) "fixed" = true := by rfl
 have jl : (jS (x :: xs)).length ≤ 100000 := by
  have := StrLaws.join_length_le ("" : Str) (x :: xs)
  unfold jS Txt.join
  rw [StrLaws.glued_eq_join]
  have e0 : ("" : Str).length = 0 := rfl
  rw [e0] at this
  have e1 : ((x :: xs).map (·.length)).sum = lensS (x :: xs) := rfl
  omega
 have ls : Nat.ble (lensS [("(?>.*?" : Str), jS (x :: xs), (")" : Str)]) bigD = true := Nat.ble_eq_true_of_le (by
  show 6 + ((jS (x :: xs)).length + (1 + 0)) ≤ _
  omega)
 have gse : [("(?>.*?" : Str), jS (x :: xs), (")" : Str)].foldl (· ++ ·) Str.empty = gS (jS (x :: xs)) := rfl
 clear hP0
 rw [k12] at *
 unfold rho12 at *
 generalize (x :: xs).map D.str = XS at *
 generalize jS (x :: xs) = J at *
 generalize hq : ((pre.length + 1 + (x :: xs).length : Nat) : Int) = q at *
 conv at hl => lhs; arg 6; whnf
 conv at hl => lhs; arg 7; whnf
 conv => lhs; arg 6; whnf
 rcases hr with rfl | ⟨r, rfl⟩
 ·have heq2 : (q == (P.length : Int)) = true := by rw [← hq]; simp at *; omega
  (repeat simp +decide only [Q0, Q1, Q2, Q3, asgD, if_true, if_false, List.length_nil, List.length_cons, Nat.reduceAdd, List.contains_nil, List.all_cons, List.all_nil, reduceCtorEq, ne_eq, not_false_eq_true, not_true_eq_false, implies_true, if_pos, ite_true, ite_false, beq_self_eq_true, hfx, i0, i1, hbl, hbl2, is_star, isnot_str, c_eqi, heq, hc, hl, heq2, isCN_const, ble20_0, argOk_own, meth_join, jo, List.length_append])
  rw [List.append_assoc]; rfl
 ·have heq2 : (q == (P.length : Int)) = false := by rw [← hq]; simp at *; omega
  (repeat simp +decide only [Q0, Q1, Q2, Q3, asgD, if_true, if_false, List.length_nil, List.length_cons, Nat.reduceAdd, List.contains_nil, List.all_cons, List.all_nil, reduceCtorEq, ne_eq, not_false_eq_true, not_true_eq_false, implies_true, if_pos, ite_true, ite_false, beq_self_eq_true, hfx, i0, i1, hbl, hbl2, is_star, isnot_str, c_eqi, heq, hc, hl, heq2, isCN_const, ble20_0, argOk_own, meth_join, jo, ls, gse])
  rfl
def outS : List (List Str) → List Str
 | [] => []
 | c :: r => (match r with | [] => (match c with | [] => [st [46, 42]] | _ => [st [46, 42], jS c]) | _ => [gS (jS c)]) ++ outS r
def fullBut : List (List Str) → Prop
 | [] => True
 | c :: r => (r ≠ [] → c ≠ []) ∧ fullBut r
def starD (S : Addr) (cs : List (List Str)) : List D := cs.flatMap fun c => .opq S :: c.map .str
theorem join_test3 (P : List D) (S : Addr) (R : List D) (i : Nat) (fx : D) :
  tsD cf 54 (pNames 12) (rho12 P S R i P.length fx) (lpTest (pBody 12) 4) = some (decide ((i : Int) < (P.length : Int))) := by
 rw [k12]
 unfold rho12
 conv => lhs; arg 5; whnf
 (repeat simp +decide only [Q0, Q1, Q2, Q3, asgD, if_true, if_false, List.length_nil, List.length_cons, Nat.reduceAdd, List.contains_nil, List.all_cons, List.all_nil, reduceCtorEq, ne_eq, not_false_eq_true, not_true_eq_false, implies_true, if_pos, ite_true, ite_false, beq_self_eq_true, c_lt])
theorem join_loop3 (P : List D) (S : Addr) (hb : P.length ≤ 50000) : ∀ (cs : List (List Str)) (pre R : List D) (fx : D) (f : Nat), P = pre ++ starD S cs → fullBut cs → (∀ z, fx ≠ .app z) → R.length + 2 * cs.length ≤ 90000 → (∀ c ∈ cs, lensS c ≤ 100000) → cs.length < f →
  ∃ fx', (∀ z, fx' ≠ .app z) ∧ whD (fun ρ => tsD cf 54 (pNames 12) ρ (lpTest (pBody 12) 4)) (fun ρ => exL cf ["res", "fixed"] 54 (pNames 12) ρ jWhile2) f (rho12 P S R pre.length P.length fx) = some (.next (rho12 P S (R ++ (outS cs).map .str) P.length P.length fx'))
 | [], pre, R, fx, f, hP, _, hfx, _, _, hf => by
  obtain ⟨f, rfl⟩ : ∃ g, f = g + 1 := ⟨f - 1, by omega⟩
  have e : pre.length = P.length := by rw [hP]; simp [starD]
  refine ⟨fx, hfx, ?_⟩
  rw [whD, join_test3, e]
  have : decide ((P.length : Int) < (P.length : Int)) = false := by simp
  rw [this]
  simp [outS]
 | c :: r, pre, R, fx, f, hP, hfull, hfx, hR, hL, hf => by
  obtain ⟨f, rfl⟩ : ∃ g, f = g + 1 := ⟨f - 1, by omega⟩
  have hlen : pre.length + 1 + c.length + (starD S r).length = P.length := by rw [hP]; simp [starD]; omega
  rw [whD, join_test3]
  have hlt : decide ((pre.length : Int) < (P.length : Int)) = true := by simp; omega
  rw [hlt]
  dsimp only
  cases c with
  | nil =>
   have hr : r = [] := by
    by_cases q : r = []
    ·exact q
    ·exact absurd rfl (hfull.1 q)
   subst hr
   have h0 : P[pre.length]? = some (.opq S) := by rw [hP]; simp [starD]
   have hn : pre.length + 1 = P.length := by simp [starD] at hlen; omega
   refine ⟨fx, hfx, ?_⟩
   rw [join_turn_a cf P S R pre.length fx hfx (by omega) (by omega) h0 hn]
   dsimp only
   rw [hn]
   simp [outS]
  | cons x xs =>
   have hrest : starD S r = [] ∨ ∃ t, starD S r = .opq S :: t := by
    cases r with
    | nil => exact .inl rfl
    | cons a b => exact .inr ⟨_, rfl⟩
   have hP' : P = pre ++ (.opq S :: (x :: xs).map .str) ++ starD S r := by rw [hP]; simp [starD]
   rw [join_turn_b cf P S R pre (starD S r) x xs fx hfx (by omega) (by omega) hP' hrest (hL _ (.head _))]
   dsimp only
   have ladd : (addsOf (starD S r) (jS (x :: xs))).length ≤ 2 := by
    rcases hrest with q | ⟨t, q⟩ <;> rw [q] <;> simp [addsOf]
   obtain ⟨fx', g1, g2⟩ := join_loop3 P S hb r (pre ++ (.opq S :: (x :: xs).map .str)) (R ++ addsOf (starD S r) (jS (x :: xs))) (.str (jS (x :: xs))) f hP' hfull.2 (by simp) (by simp at *; omega) (fun c hc => hL c (.tail _ hc)) (by simp at hf; omega)
   refine ⟨fx', g1, ?_⟩
   have e1 : (pre ++ (D.opq S :: (x :: xs).map D.str)).length = pre.length + 1 + (x :: xs).length := by simp; omega
   rw [e1] at g2
   rw [g2]
   have e2 : (outS ((x :: xs) :: r)).map D.str = addsOf (starD S r) (jS (x :: xs)) ++ (outS r).map D.str := by
    cases r with
    | nil => simp [outS, starD, addsOf]
    | cons a b => simp [outS, starD, addsOf]
   rw [e2, List.append_assoc]
end
end Mine
namespace Mine
open PySem PySem.Calls PyProof.Rows PySem.W
open PySem.Builtin PySem.Builtin.Str
def wrapS (x : Str) : Str := [("(?s:" : Str), x, (")\\Z" : Str)].foldl (· ++ ·) Str.empty
section
variable (cf : Cf)
theorem jS_len (xs : List Str) : (jS xs).length ≤ lensS xs := by
 have := StrLaws.join_length_le ("" : Str) xs
 unfold jS Txt.join
 rw [StrLaws.glued_eq_join]
 have e0 : ("" : Str).length = 0 := rfl
 rw [e0] at this
 have e1 : (xs.map (·.length)).sum = lensS xs := rfl
 omega
set_option maxHeartbeats 4000000 in
theorem join_run (hlen : cf.Γ "len" = some (.blt "len")) (S : Addr) (c0 : List Str) (cs : List (List Str)) (hb : (c0.map D.str ++ starD S cs).length ≤ 50000) (hfull : fullBut cs) (hc : c0.length + 2 * cs.length ≤ 80000) (hL : ∀ c ∈ cs, lensS c ≤ 100000) (hJ : lensS (c0 ++ outS cs) ≤ 500000) :
  exL cf ["res", "fixed"] 60 (pNames 12) (rho0 (pNames 12) ["inp", "STAR"] [.lst (c0.map .str ++ starD S cs), .opq S]) (pBody 12) = some (.ret (.str (wrapS (jS (c0 ++ outS cs))))) := by
 have bd : bigD = 1000000 := rfl
 have hrest : starD S cs = [] ∨ ∃ t, starD S cs = .opq S :: t := by
  cases cs with
  | nil => exact .inl rfl
  | cons a b => exact .inr ⟨_, rfl⟩
 have hl1 := join_loop1 cf (c0.map .str ++ starD S cs) S .unb (by simp) (starD S cs) hrest c0 [] [] loopD (by simp) (by omega) (by simp; omega) (by have : loopD = 1000000 := rfl; omega)
 obtain ⟨fx', g1, hl2⟩ := join_loop3 cf (c0.map .str ++ starD S cs) S hb cs (c0.map .str) (c0.map .str) .unb loopD rfl hfull (by simp) (by simp; omega) hL (by have : loopD = 1000000 := rfl; omega)
 have ll := len_lst (c0.map .str ++ starD S cs) (by omega)
 have e0 : (([] : List D).length + c0.length : Nat) = c0.length := by simp
 rw [e0, List.nil_append] at hl1
 have e1 : (c0.map D.str).length = c0.length := by simp
 rw [e1] at hl2
 have e2 : c0.map D.str ++ (outS cs).map D.str = (c0 ++ outS cs).map D.str := by simp
 rw [e2] at hl2
 have jo : joinD "" (.own ((c0 ++ outS cs).map .str)) = some (.str (jS (c0 ++ outS cs))) := join_own "" _ (by show lensS _ + _ * 0 ≤ _; omega)
 have jl := jS_len (c0 ++ outS cs)
 have ls : Nat.ble (lensS [("(?s:" : Str), jS (c0 ++ outS cs), (")\\Z" : Str)]) bigD = true := Nat.ble_eq_true_of_le (by
  show 4 + ((jS (c0 ++ outS cs)).length + (3 + 0)) ≤ _
  omega)
 have wse : [("(?s:" : Str), jS (c0 ++ outS cs), (")\\Z" : Str)].foldl (· ++ ·) Str.empty = wrapS (jS (c0 ++ outS cs)) := rfl
 have hl1' : whS cf 55 (pNames 12) (rho12 (c0.map D.str ++ starD S cs) S [] 0 ((c0.map D.str ++ starD S cs).length : Nat) .unb) ["res", "fixed"] (lpTest (pBody 12) 3) (lpBody (pBody 12) 3) = some (.next (rho12 (c0.map D.str ++ starD S cs) S (c0.map D.str) (c0.length : Nat) ((c0.map D.str ++ starD S cs).length : Nat) .unb)) := hl1
 have hl2' : whS cf 54 (pNames 12) (rho12 (c0.map D.str ++ starD S cs) S (c0.map D.str) (c0.length : Nat) ((c0.map D.str ++ starD S cs).length : Nat) .unb) ["res", "fixed"] (lpTest (pBody 12) 4) (lpBody (pBody 12) 4) = some (.next (rho12 (c0.map D.str ++ starD S cs) S ((c0 ++ outS cs).map D.str) ((c0.map D.str ++ starD S cs).length : Nat) ((c0.map D.str ++ starD S cs).length : Nat) fx')) := hl2
 clear hl1 hl2
 have hr : rho0 (pNames 12) ["inp", "STAR"] [.lst (c0.map .str ++ starD S cs), .opq S] = ([("inp", .lst (c0.map .str ++ starD S cs)), ("STAR", .opq S), ("res", .unb), ("add", .unb), ("i", .unb), ("n", .unb), ("fixed", .unb)] : Rho) := by rw [k12]; rfl
 rw [hr]
 have hc1 : List.contains (["res", "fixed"] : List Str) "res" = true := by rfl
 rw [k12] at *
 unfold rho12 at hl1' hl2'
 generalize hPP : c0.map D.str ++ starD S cs = P at *
 generalize (c0 ++ outS cs).map D.str = XS at *
 generalize jS (c0 ++ outS cs) = J at *
 generalize c0.map D.str = R0 at *
 conv at hl1' => lhs; arg 6; whnf
 conv at hl1' => lhs; arg 7; whnf
 conv at hl2' => lhs; arg 6; whnf
 conv at hl2' => lhs; arg 7; whnf
 conv => lhs; arg 6; whnf
 have n1 : (("res" : Str) != ("add" : Str)) = true := by decide
 have n2 : (("i" : Str) != ("n" : Str)) = true := by decide
 (repeat simp +decide only [Q0, Q1, Q2, Q3, asgD, if_true, if_false, List.length_nil, List.length_cons, Nat.reduceAdd, List.contains_nil, List.all_cons, List.all_nil, reduceCtorEq, ne_eq, not_false_eq_true, not_true_eq_false, implies_true, if_pos, ite_true, ite_false, beq_self_eq_true, hlen, callD_len, argOk_lst, argOk_own, ll, hc1, hl1', hl2', g1, c_eqi, meth_join, jo, isCN_const, ble20_0, ls, wse, n1, n2])
end
end Mine
namespace Mine
open PySem PySem.Calls PyProof.Rows PySem.W
open PySem.Builtin PySem.Builtin.Str
theorem k11 : pNames 11 = ([("pat", .local), ("STAR", .local), ("QUESTION_MARK", .local), ("res", .local), ("add", .local), ("i", .local), ("n", .local), ("c", .local), ("j", .local), ("stuff", .local), ("chunks", .local), ("k", .local), ("chunk", .local), ("len", .globalImplicit), ("range", .globalImplicit), ("_twin_re_1", .globalImplicit), ("escape", .globalImplicit)] : Kn) := by rfl
def rho11 (T : List Nat) (S : Addr) (R : List D) (i n : Int) (c j sf : D) : Rho := [("pat", .str (st T)), ("STAR", .opq S), ("QUESTION_MARK", .str "."), ("res", .own R), ("add", .app "res"), ("i", .int i), ("n", .int n), ("c", c), ("j", j), ("stuff", sf), ("chunks", .unb), ("k", .unb), ("chunk", .unb)]
def orOf (l : List Stmt) (i : Nat) : List Stmt := match l[i]? with | some (.If _ _ o _) => o | _ => []
def ifOf (l : List Stmt) (i : Nat) : List Stmt := match l[i]? with | some (.If _ b _ _) => b | _ => []
def trB : List Stmt := ifOf (orOf (orOf (lpBody (pBody 11) 3) 2) 0) 0
section
variable (cf : Cf)
set_option maxHeartbeats 4000000 in
theorem tr_star (T : List Nat) (S : Addr) (R : List D) (i : Nat) (n : Int) (c j sf : D) (hc : ∀ z, c ≠ .app z) (hj : ∀ z, j ≠ .app z) (hsf : ∀ z, sf ≠ .app z) (h0 : T[i]? = some 42) (hb : T.length ≤ 100000) (hR : R.length ≤ 100000) (hlast : R = [] ∨ ∃ R' x, R = R' ++ [.str x]) :
  exL cf ["res"] 55 (pNames 11) (rho11 T S R i n c j sf) (lpBody (pBody 11) 3) = some (.next (rho11 T S (R ++ [.opq S]) ((i + 1 : Nat) : Int) n (.str (st [42])) j sf)) := by
 have bd : bigD = 1000000 := rfl
 have i0 := idx_at T i 42 h0 hb
 have e1 : (st [42] == ("*" : Str)) = true := by decide
 have hbl : Nat.ble R.length bigD = true := Nat.ble_eq_true_of_le (by omega)
 have hP : rho11 T S (R ++ [.opq S]) ((i + 1 : Nat) : Int) n (.str (st [42])) j sf = ([("pat", .str (st T)), ("STAR", .opq S), ("QUESTION_MARK", .str "."), ("res", .own (R ++ [.opq S])), ("add", .app "res"), ("i", .int ((i : Int) + 1)), ("n", .int n), ("c", .str (st [42])), ("j", j), ("stuff", sf), ("chunks", .unb), ("k", .unb), ("chunk", .unb)] : Rho) := rfl
 have u1 : unD .USub (.int 1) = some (.int (-1)) := rfl
 rw [hP, k11]
 unfold rho11
 conv => lhs; arg 6; whnf
 rcases hlast with rfl | ⟨R', x, rfl⟩
 ·have tr : truS (.own []) = some false := rfl
  (repeat simp +decide only [Q0, Q1, Q2, Q3, asgD, if_true, if_false, List.length_nil, List.length_cons, Nat.reduceAdd, List.contains_nil, List.all_cons, List.all_nil, reduceCtorEq, ne_eq, not_false_eq_true, not_true_eq_false, implies_true, if_pos, ite_true, ite_false, beq_self_eq_true, hc, hj, hsf, i0, b_addi, c_eqs, e1, tr, hbl])
 ·have tr : truS (.own (R' ++ [.str x])) = some true := by
   unfold truS
   dsimp only
   rw [hbl]
   simp [truthD]
  have il : idxD (.own (R' ++ [.str x])) (.int (-1)) = some (.str x) := by
   unfold idxD placeD
   have h1 : decide ((0 : Int) ≤ (-1 : Int)) = false := by decide
   have h2 : decide ((0 : Int) ≤ -1 + ((R' ++ [D.str x]).length : Int)) = true := by simp; omega
   have h4 : (-1 + ((R' ++ [D.str x]).length : Int)).toNat = R'.length := by simp; omega
   simp only [h1, h2, hbl, h4]
   simp
  generalize R' ++ [D.str x] = R at *
  (repeat simp +decide only [Q0, Q1, Q2, Q3, asgD, if_true, if_false, List.length_nil, List.length_cons, Nat.reduceAdd, List.contains_nil, List.all_cons, List.all_nil, reduceCtorEq, ne_eq, not_false_eq_true, not_true_eq_false, implies_true, if_pos, ite_true, ite_false, beq_self_eq_true, hc, hj, hsf, i0, b_addi, c_eqs, e1, tr, hbl, u1, il, isnot_str])
set_option maxHeartbeats 4000000 in
theorem tr_lit (hesc : cf.Γ "escape" = some (.opq 83)) (esc : Nat → Str) (T : List Nat) (S : Addr) (R : List D) (i : Nat) (n : Int) (k : Nat) (c j sf : D) (hphi : cf.Φ 83 [.str (st [k])] = some (.str (esc k))) (hk : k = 47 ∨ k = 97 ∨ k = 98 ∨ k = 117 ∨ k = 123 ∨ k = 125) (hc : ∀ z, c ≠ .app z) (hj : ∀ z, j ≠ .app z) (hsf : ∀ z, sf ≠ .app z) (h0 : T[i]? = some k) (hb : T.length ≤ 100000) (hR : R.length ≤ 100000) :
  exL cf ["res"] 55 (pNames 11) (rho11 T S R i n c j sf) (lpBody (pBody 11) 3) = some (.next (rho11 T S (R ++ [.str (esc k)]) ((i + 1 : Nat) : Int) n (.str (st [k])) j sf)) := by
 have bd : bigD = 1000000 := rfl
 have i0 := idx_at T i k h0 hb
 have e1 : (st [k] == ("*" : Str)) = false := by rcases hk with rfl | rfl | rfl | rfl | rfl | rfl <;> decide
 have e2 : (st [k] == ("?" : Str)) = false := by rcases hk with rfl | rfl | rfl | rfl | rfl | rfl <;> decide
 have e3 : (st [k] == ("[" : Str)) = false := by rcases hk with rfl | rfl | rfl | rfl | rfl | rfl <;> decide
 have hbl : Nat.ble R.length bigD = true := Nat.ble_eq_true_of_le (by omega)
 have cl : callD cf (.opq 83) [.str (st [k])] = some (.str (esc k)) := hphi
 have hP : rho11 T S (R ++ [.str (esc k)]) ((i + 1 : Nat) : Int) n (.str (st [k])) j sf = ([("pat", .str (st T)), ("STAR", .opq S), ("QUESTION_MARK", .str "."), ("res", .own (R ++ [.str (esc k)])), ("add", .app "res"), ("i", .int ((i : Int) + 1)), ("n", .int n), ("c", .str (st [k])), ("j", j), ("stuff", sf), ("chunks", .unb), ("k", .unb), ("chunk", .unb)] : Rho) := rfl
 rw [hP, k11]
 unfold rho11
 conv => lhs; arg 6; whnf
 (repeat simp +decide only [Q0, Q1, Q2, Q3, asgD, if_true, if_false, List.length_nil, List.length_cons, Nat.reduceAdd, List.contains_nil, List.all_cons, List.all_nil, reduceCtorEq, ne_eq, not_false_eq_true, not_true_eq_false, implies_true, if_pos, ite_true, ite_false, beq_self_eq_true, hc, hj, hsf, i0, b_addi, c_eqs, e1, e2, e3, hbl, hesc, argOk_opq, cl])
theorem meth_repl (x y z : Str) (h : (occurrences x y 0 x.length (x.length + 1)).isEmpty = true) : meth "replace" x [.str y, .str z] = some (.str x) := by
 unfold meth
 have h1 : ¬ ((("replace" : Str) == ("join" : Str)) = true) := by decide
 have h2 : ¬ ((("replace" : Str) == ("find" : Str)) = true) := by decide
 have h3 : (("replace" : Str) == ("replace" : Str)) = true := by decide
 rw [if_neg h1, if_neg h2, if_pos h3]
 dsimp only
 rw [h]
def stuffL (k : Nat) : List Nat := if k = 91 then [92, 91] else [k]
set_option maxHeartbeats 4000000 in
theorem tr_jtest (T : List Nat) (S : Addr) (R : List D) (i n : Int) (c sf : D) (j k : Nat) (h : T[j]? = some k) (hb : T.length ≤ 100000) (hj : (j : Int) < n) (b : Bool) (hk : (st [k] != ("]" : Str)) = b) :
  tsD cf 42 (pNames 11) (rho11 T S R i n c (.int (j : Int)) sf) (lpTest trB 3) = some b := by
 have i0 := idx_at T j k h hb
 have hlt : decide ((j : Int) < n) = true := by simp [hj]
 rw [k11]
 unfold rho11
 conv => lhs; arg 5; whnf
 cases b <;> (repeat simp +decide only [Q0, Q1, Q2, Q3, asgD, if_true, if_false, List.length_nil, List.length_cons, Nat.reduceAdd, List.contains_nil, List.all_cons, List.all_nil, reduceCtorEq, ne_eq, not_false_eq_true, not_true_eq_false, implies_true, if_pos, ite_true, ite_false, beq_self_eq_true, c_lt, hlt, i0, c_nes, hk])
set_option maxHeartbeats 4000000 in
theorem tr_jbody (T : List Nat) (S : Addr) (R : List D) (i n : Int) (c sf : D) (j : Nat) (hc : ∀ z, c ≠ .app z) (hsf : ∀ z, sf ≠ .app z) :
  exL cf ["res"] 42 (pNames 11) (rho11 T S R i n c (.int (j : Int)) sf) (lpBody trB 3) = some (.next (rho11 T S R i n c (.int ((j + 1 : Nat) : Int)) sf)) := by
 have hP : rho11 T S R i n c (.int ((j + 1 : Nat) : Int)) sf = ([("pat", .str (st T)), ("STAR", .opq S), ("QUESTION_MARK", .str "."), ("res", .own R), ("add", .app "res"), ("i", .int i), ("n", .int n), ("c", c), ("j", .int ((j : Int) + 1)), ("stuff", sf), ("chunks", .unb), ("k", .unb), ("chunk", .unb)] : Rho) := rfl
 rw [hP, k11]
 unfold rho11
 conv => lhs; arg 6; whnf
 (repeat simp +decide only [Q0, Q1, Q2, Q3, asgD, if_true, if_false, List.length_nil, List.length_cons, Nat.reduceAdd, List.contains_nil, List.all_cons, List.all_nil, reduceCtorEq, ne_eq, not_false_eq_true, not_true_eq_false, implies_true, if_pos, ite_true, ite_false, beq_self_eq_true, hc, hsf, b_addi])
theorem tr_jloop (T : List Nat) (S : Addr) (R : List D) (i n : Int) (c sf : D) (j k : Nat) (hc : ∀ z, c ≠ .app z) (hsf : ∀ z, sf ≠ .app z) (h0 : T[j]? = some k) (h1 : T[j + 1]? = some 93) (hb : T.length ≤ 100000) (hn : ((j + 1 : Nat) : Int) < n) (hk : k = 42 ∨ k = 63 ∨ k = 91) :
  whS cf 42 (pNames 11) (rho11 T S R i n c (.int (j : Int)) sf) ["res"] (lpTest trB 3) (lpBody trB 3) = some (.next (rho11 T S R i n c (.int ((j + 1 : Nat) : Int)) sf)) := by
 unfold whS
 rw [show loopD = 999998 + 1 + 1 from rfl, whD, tr_jtest cf T S R i n c sf j k h0 hb (by omega) true (by rcases hk with rfl | rfl | rfl <;> decide)]
 dsimp only
 rw [tr_jbody cf T S R i n c sf j hc hsf]
 dsimp only
 rw [whD, tr_jtest cf T S R i n c sf (j + 1) 93 h1 hb hn false (by decide)]
set_option maxHeartbeats 8000000 in
theorem tr_cls (k : Nat) (hook : ∀ (K : Kn) (ρ : Rho) fp apos ps bd sc lp sp pos, (apos.endLine == pos.line) = true → lamOk ps sc = true → codeOf K = some ((Value.ref 89, ("_translate.<locals>." : Str)) : Value × Str) → K.lookup ("_twin_re_1" : Str) = some .globalImplicit → List.lookup ("stuff" : Str) ρ = some (D.str (st [k])) → cf.H K ρ (.Call (.Attribute (.Name "_twin_re_1" fp) "sub" apos) [.Lambda ps bd sc lp, .Name "stuff" sp] [] pos) = some (.str (st [k]))) (hg : cf.Γ "_twin_re_1" = none) (T : List Nat) (S : Addr) (R : List D) (i : Nat) (n : Int) (c j sf : D) (hk : k = 42 ∨ k = 63 ∨ k = 91) (hc : ∀ z, c ≠ .app z) (hj : ∀ z, j ≠ .app z) (hsf : ∀ z, sf ≠ .app z)
  (h0 : T[i]? = some 91) (h1 : T[i + 1]? = some k) (h2 : T[i + 2]? = some 93) (hsl : (T.drop (i + 1)).take 1 = [k]) (hb : T.length ≤ 100000) (hR : R.length ≤ 100000) (hn : ((i + 2 : Nat) : Int) < n) :
  exL cf ["res"] 55 (pNames 11) (rho11 T S R i n c j sf) (lpBody (pBody 11) 3) = some (.next (rho11 T S (R ++ [.str (st ([91] ++ stuffL k ++ [93]))]) ((i + 3 : Nat) : Int) n (.str (st [91])) (.int ((i + 2 : Nat) : Int)) (.str (st (stuffL k))))) := by
 have bd : bigD = 1000000 := rfl
 have i0 := idx_at T i 91 h0 hb
 have i1 : idxD (.str (st T)) (.int ((i : Int) + 1)) = some (.str (st [k])) := idx_at T (i + 1) k h1 hb
 have hl := tr_jloop cf T S R ((i : Int) + 1) n (.str (st [91])) sf (i + 1) k (by simp) hsf h1 h2 hb (by omega) hk
 have hbl : Nat.ble R.length bigD = true := Nat.ble_eq_true_of_le (by omega)
 have sl : sliceD (.str (st T)) (some ((i : Int) + 1)) (some ((i + 1 + 1 : Nat) : Int)) = some (.str (st [k])) := by
  have := sliceD_mid T (i + 1) (i + 2) hb
  have e : i + 2 - (i + 1) = 1 := by omega
  rw [e, hsl] at this
  exact this
 have lt1 : decide ((i : Int) + 1 < n) = true := by simp; omega
 have ge1 : decide (((i + 1 + 1 : Nat) : Int) ≥ n) = false := by simp; omega
 have e1 : (st [91] == ("*" : Str)) = false := by decide
 have e2 : (st [91] == ("?" : Str)) = false := by decide
 have e3 : (st [91] == ("[" : Str)) = true := by decide
 have k1 : (st [k] == ("!" : Str)) = false := by rcases hk with rfl | rfl | rfl <;> decide
 have k2 : (st [k] == ("]" : Str)) = false := by rcases hk with rfl | rfl | rfl <;> decide
 have kc : Txt.contains (st [k]) ("-" : Str) = false := by rcases hk with rfl | rfl | rfl <;> decide +kernel
 have k3 : cmpD .NotIn (.str "-") (.str (st [k])) = some true := by
  show (match some (Txt.contains (st [k]) ("-" : Str)) with | some c => some (!c) | none => none) = _
  rw [kc]; rfl
 have ko : (occurrences (st [k]) ("\\" : Str) 0 (st [k]).length ((st [k]).length + 1)).isEmpty = true := by rcases hk with rfl | rfl | rfl <;> decide +kernel
 have mr : meth "replace" (st [k]) [.str "\\", .str "\\\\"] = some (.str (st [k])) := meth_repl _ _ _ ko
 have tr : truS (.str (st [k])) = some true := rfl
 have ix : idxD (.str (st [k])) (.int 0) = some (.str (st [k])) := rfl
 have hP : rho11 T S (R ++ [.str (st ([91] ++ stuffL k ++ [93]))]) ((i + 3 : Nat) : Int) n (.str (st [91])) (.int ((i + 2 : Nat) : Int)) (.str (st (stuffL k))) = ([("pat", .str (st T)), ("STAR", .opq S), ("QUESTION_MARK", .str "."), ("res", .own (R ++ [.str (st ([91] ++ stuffL k ++ [93]))])), ("add", .app "res"), ("i", .int (((i + 1 + 1 : Nat) : Int) + 1)), ("n", .int n), ("c", .str (st [91])), ("j", .int ((i + 1 + 1 : Nat) : Int)), ("stuff", .str (st (stuffL k))), ("chunks", .unb), ("k", .unb), ("chunk", .unb)] : Rho) := rfl
 have ss : ∀ l : List Nat, [("[" : Str), st l, ("]" : Str)].foldl (· ++ ·) Str.empty = st ([91] ++ l ++ [93]) := by
  intro l
  show ((Str.empty ++ st [91]) ++ st l) ++ st [93] = _
  rw [show Str.empty = st [] from rfl, st_app, st_app, st_app]
  rfl
 rw [hP, k11] at *
 unfold rho11 at *
 have ec : ((i + 1 : Nat) : Int) = (i : Int) + 1 := rfl
 rw [ec] at hl
 generalize ((i + 1 + 1 : Nat) : Int) = q at *
 conv at hl => lhs; arg 6; whnf
 conv at hl => lhs; arg 7; whnf
 conv => lhs; arg 6; whnf
 rcases hk with rfl | rfl | rfl
 ·have sd : stuffL 42 = [42] := rfl
  rw [sd]
  have ci : cmpD .In (.str (st [42])) (.tup [.str "^", .str "["]) = some false := rfl
  have ls : Nat.ble (lensS [("[" : Str), st [42], ("]" : Str)]) bigD = true := rfl
  (repeat simp +decide only [Q0, Q1, Q2, Q3, asgD, if_true, if_false, List.length_nil, List.length_cons, Nat.reduceAdd, List.contains_nil, List.all_cons, List.all_nil, reduceCtorEq, ne_eq, not_false_eq_true, not_true_eq_false, implies_true, if_pos, ite_true, ite_false, beq_self_eq_true, hc, hj, hsf, i0, i1, b_addi, c_eqs, c_lt, c_gei, e1, e2, e3, hbl, lt1, ge1, k1, k2, k3, mr, tr, ix, hl, sl, isCN_name, ble20_1, argOk_str, hg, hook, ci, ls, ss])
 ·have sd : stuffL 63 = [63] := rfl
  rw [sd]
  have ci : cmpD .In (.str (st [63])) (.tup [.str "^", .str "["]) = some false := rfl
  have ls : Nat.ble (lensS [("[" : Str), st [63], ("]" : Str)]) bigD = true := rfl
  (repeat simp +decide only [Q0, Q1, Q2, Q3, asgD, if_true, if_false, List.length_nil, List.length_cons, Nat.reduceAdd, List.contains_nil, List.all_cons, List.all_nil, reduceCtorEq, ne_eq, not_false_eq_true, not_true_eq_false, implies_true, if_pos, ite_true, ite_false, beq_self_eq_true, hc, hj, hsf, i0, i1, b_addi, c_eqs, c_lt, c_gei, e1, e2, e3, hbl, lt1, ge1, k1, k2, k3, mr, tr, ix, hl, sl, isCN_name, ble20_1, argOk_str, hg, hook, ci, ls, ss])
 ·have sd : stuffL 91 = [92, 91] := rfl
  rw [sd]
  have ci : cmpD .In (.str (st [91])) (.tup [.str "^", .str "["]) = some true := rfl
  have ad : binD .Add (.str "\\") (.str (st [91])) = some (.str (st [92, 91])) := rfl
  have ls : Nat.ble (lensS [("[" : Str), st [92, 91], ("]" : Str)]) bigD = true := rfl
  (repeat simp +decide only [Q0, Q1, Q2, Q3, asgD, if_true, if_false, List.length_nil, List.length_cons, Nat.reduceAdd, List.contains_nil, List.all_cons, List.all_nil, reduceCtorEq, ne_eq, not_false_eq_true, not_true_eq_false, implies_true, if_pos, ite_true, ite_false, beq_self_eq_true, hc, hj, hsf, i0, i1, b_addi, c_eqs, c_lt, c_gei, e1, e2, e3, hbl, lt1, ge1, k1, k2, k3, mr, tr, ix, hl, sl, isCN_name, ble20_1, argOk_str, hg, hook, ci, ls, ss, ad])
end
end Mine
namespace Mine
open PySem PySem.Calls PyProof.Rows PySem.W
open PySem.Builtin PySem.Builtin.Str
inductive Tk where
 | star
 | lit (c : Nat)
 | cls (c : Nat)
def zQ : Tk → List Nat
 | .star => [42]
 | .lit c => [c]
 | .cls c => [91, c, 93]
def escS (c : Nat) : Str := st (escL c)
def tkOut (S : Addr) : Tk → D
 | .star => .opq S
 | .lit c => .str (escS c)
 | .cls c => .str (st ([91] ++ stuffL c ++ [93]))
def tkOk : Tk → Prop
 | .star => True
 | .lit c => c = 47 ∨ c = 97 ∨ c = 98 ∨ c = 117 ∨ c = 123 ∨ c = 125
 | .cls c => c = 42 ∨ c = 63 ∨ c = 91
def noTwo : Bool → List Tk → Prop
 | _, [] => True
 | b, .star :: r => b = false ∧ noTwo true r
 | _, .lit _ :: r => noTwo false r
 | _, .cls _ :: r => noTwo false r
structure TrCf (cf : Cf) : Prop where
 len : cf.Γ "len" = some (.blt "len")
 esc : cf.Γ "escape" = some (.opq 83)
 re : cf.Γ "_twin_re_1" = none
 phi : ∀ c, (c = 47 ∨ c = 97 ∨ c = 98 ∨ c = 117 ∨ c = 123 ∨ c = 125) → cf.Φ 83 [.str (st [c])] = some (.str (escS c))
 hook : ∀ k, (k = 42 ∨ k = 63 ∨ k = 91) → ∀ (K : Kn) (ρ : Rho) fp apos ps bd sc lp sp pos, (apos.endLine == pos.line) = true → lamOk ps sc = true → codeOf K = some ((Value.ref 89, ("_translate.<locals>." : Str)) : Value × Str) → K.lookup ("_twin_re_1" : Str) = some .globalImplicit → List.lookup ("stuff" : Str) ρ = some (D.str (st [k])) → cf.H K ρ (.Call (.Attribute (.Name "_twin_re_1" fp) "sub" apos) [.Lambda ps bd sc lp, .Name "stuff" sp] [] pos) = some (.str (st [k]))
section
variable (cf : Cf)
theorem tr_test (T : List Nat) (S : Addr) (R : List D) (i n : Int) (c j sf : D) :
  tsD cf 55 (pNames 11) (rho11 T S R i n c j sf) (lpTest (pBody 11) 3) = some (decide (i < n)) := by
 rw [k11]
 unfold rho11
 conv => lhs; arg 5; whnf
 (repeat simp +decide only [Q0, Q1, Q2, Q3, asgD, if_true, if_false, List.length_nil, List.length_cons, Nat.reduceAdd, List.contains_nil, List.all_cons, List.all_nil, reduceCtorEq, ne_eq, not_false_eq_true, not_true_eq_false, implies_true, if_pos, ite_true, ite_false, beq_self_eq_true, c_lt])
theorem tr_loop (tc : TrCf cf) (S : Addr) : ∀ (toks : List Tk) (T pre : List Nat) (R : List D) (c j sf : D) (f : Nat), T = pre ++ toks.flatMap zQ → (∀ t ∈ toks, tkOk t) → (∃ b, noTwo b toks ∧ (b = false → R = [] ∨ ∃ R' x, R = R' ++ [.str x])) → (∀ z, c ≠ .app z) → (∀ z, j ≠ .app z) → (∀ z, sf ≠ .app z) →
  T.length ≤ 100000 → R.length + toks.length ≤ 90000 → toks.length < f →
  ∃ c' j' sf', (∀ z, c' ≠ .app z) ∧ (∀ z, j' ≠ .app z) ∧ (∀ z, sf' ≠ .app z) ∧ whD (fun ρ => tsD cf 55 (pNames 11) ρ (lpTest (pBody 11) 3)) (fun ρ => exL cf ["res"] 55 (pNames 11) ρ (lpBody (pBody 11) 3)) f (rho11 T S R pre.length T.length c j sf) =
   some (.next (rho11 T S (R ++ toks.map (tkOut S)) T.length T.length c' j' sf'))
 | [], T, pre, R, c, j, sf, f, hT, _, _, hc, hj, hsf, hb, hR, hf => by
  obtain ⟨f, rfl⟩ : ∃ g, f = g + 1 := ⟨f - 1, by omega⟩
  have e : pre.length = T.length := by rw [hT]; simp
  refine ⟨c, j, sf, hc, hj, hsf, ?_⟩
  rw [whD, tr_test, e]
  have : decide ((T.length : Int) < (T.length : Int)) = false := by simp
  rw [this]
  simp
 | t :: r, T, pre, R, c, j, sf, f, hT, hok, hno, hc, hj, hsf, hb, hR, hf => by
  obtain ⟨f, rfl⟩ : ∃ g, f = g + 1 := ⟨f - 1, by omega⟩
  have hT2 : T = pre ++ zQ t ++ r.flatMap zQ := by rw [hT]; simp
  have hlen : pre.length + (zQ t).length + (r.flatMap zQ).length = T.length := by rw [hT2]; simp; omega
  have hpos : 0 < (zQ t).length := by cases t <;> simp [zQ]
  have hlt : decide ((pre.length : Int) < (T.length : Int)) = true := by simp; omega
  have hat : ∀ q (hq : q < (zQ t).length), T[pre.length + q]? = some (zQ t)[q] := fun q hq => by rw [hT2]; exact at_pre pre (zQ t) _ q hq
  obtain ⟨b, hn, hlast⟩ := hno
  have step : ∃ c' j' sf', (∀ z, c' ≠ .app z) ∧ (∀ z, j' ≠ .app z) ∧ (∀ z, sf' ≠ .app z) ∧ exL cf ["res"] 55 (pNames 11) (rho11 T S R pre.length T.length c j sf) (lpBody (pBody 11) 3) =
    some (.next (rho11 T S (R ++ [tkOut S t]) ((pre.length + (zQ t).length : Nat) : Int) T.length c' j' sf')) := by
   cases t with
   | star => exact ⟨_, _, _, by simp, hj, hsf, tr_star cf T S R pre.length T.length c j sf hc hj hsf (hat 0 (by simp [zQ])) hb (by omega) (hlast hn.1)⟩
   | lit k => exact ⟨_, _, _, by simp, hj, hsf, tr_lit cf tc.esc escS T S R pre.length T.length k c j sf (tc.phi k (hok _ (.head _))) (hok _ (.head _)) hc hj hsf (hat 0 (by simp [zQ])) hb (by omega)⟩
   | cls k =>
    have hsl : (T.drop (pre.length + 1)).take 1 = [k] := by
     have d := drop_pre1 pre 91 [k, 93] (r.flatMap zQ)
     have hT3 : T = pre ++ [91, k, 93] ++ r.flatMap zQ := hT2
     rw [← hT3] at d
     have e2 : List.take 1 (List.take 2 (List.drop (pre.length + 1) T)) = [k] := by
      have q : List.take 2 (List.drop (pre.length + 1) T) = [k, 93] := d
      rw [q]; rfl
     rw [List.take_take] at e2
     exact e2
    have hl3 : (zQ (.cls k)).length = 3 := rfl
    exact ⟨_, _, _, by simp, by simp, by simp, tr_cls cf k (tc.hook k (hok _ (.head _))) tc.re T S R pre.length T.length c j sf (hok _ (.head _)) hc hj hsf (hat 0 (by simp [zQ])) (hat 1 (by simp [zQ])) (hat 2 (by simp [zQ])) hsl hb (by omega) (by omega)⟩
  obtain ⟨c1, j1, s1, a1, a2, a3, hst⟩ := step
  have hno' : ∃ b', noTwo b' r ∧ (b' = false → R ++ [tkOut S t] = [] ∨ ∃ R' x, R ++ [tkOut S t] = R' ++ [.str x]) := by
   cases t with
   | star => exact ⟨true, hn.2, fun q => by cases q⟩
   | lit k => exact ⟨false, hn, fun _ => .inr ⟨R, _, rfl⟩⟩
   | cls k => exact ⟨false, hn, fun _ => .inr ⟨R, _, rfl⟩⟩
  obtain ⟨c2, j2, s2, b1, b2, b3, hl⟩ := tr_loop tc S r T (pre ++ zQ t) (R ++ [tkOut S t]) c1 j1 s1 f hT2 (fun q hq => hok q (.tail _ hq)) hno' a1 a2 a3 hb (by simp at *; omega) (by simp at hf; omega)
  refine ⟨c2, j2, s2, b1, b2, b3, ?_⟩
  rw [whD, tr_test, hlt]
  dsimp only
  rw [hst]
  dsimp only
  rw [List.length_append] at hl
  rw [hl]
  simp
set_option maxHeartbeats 4000000 in
theorem tr_run (tc : TrCf cf) (S : Addr) (toks : List Tk) (hok : ∀ t ∈ toks, tkOk t) (hno : noTwo false toks) (hb : (toks.flatMap zQ).length ≤ 100000) (hn : toks.length ≤ 80000) :
  exL cf ["res"] 60 (pNames 11) (rho0 (pNames 11) ["pat", "STAR", "QUESTION_MARK"] [.str (st (toks.flatMap zQ)), .opq S, .str "."]) (pBody 11) = some (.ret (.lst (toks.map (tkOut S)))) := by
 have bd : bigD = 1000000 := rfl
 obtain ⟨c', j', sf', a1, a2, a3, hl0⟩ := tr_loop cf tc S toks (toks.flatMap zQ) [] [] .unb .unb .unb loopD (by simp) hok ⟨false, hno, fun _ => .inl rfl⟩ (by simp) (by simp) (by simp) hb (by simp; omega) (by have : loopD = 1000000 := rfl; omega)
 have hl : whS cf 55 (pNames 11) (rho11 (toks.flatMap zQ) S [] 0 (toks.flatMap zQ).length .unb .unb .unb) ["res"] (lpTest (pBody 11) 3) (lpBody (pBody 11) 3) = some (.next (rho11 (toks.flatMap zQ) S (toks.map (tkOut S)) (toks.flatMap zQ).length (toks.flatMap zQ).length c' j' sf')) := hl0
 clear hl0
 have ll := lenD_str (st (toks.flatMap zQ)) (by rw [st_len]; omega)
 rw [st_len] at ll
 have hlen := tc.len
 have hr : rho0 (pNames 11) ["pat", "STAR", "QUESTION_MARK"] [.str (st (toks.flatMap zQ)), .opq S, .str "."] = ([("pat", .str (st (toks.flatMap zQ))), ("STAR", .opq S), ("QUESTION_MARK", .str "."), ("res", .unb), ("add", .unb), ("i", .unb), ("n", .unb), ("c", .unb), ("j", .unb), ("stuff", .unb), ("chunks", .unb), ("k", .unb), ("chunk", .unb)] : Rho) := by rw [k11]; rfl
 rw [hr]
 have hc1 : List.contains (["res"] : List Str) "res" = true := by rfl
 rw [k11] at *
 unfold rho11 at hl
 generalize toks.flatMap zQ = T at *
 generalize toks.map (tkOut S) = P at *
 conv at hl => lhs; arg 6; whnf
 conv at hl => lhs; arg 7; whnf
 conv => lhs; arg 6; whnf
 have n1 : (("res" : Str) != ("add" : Str)) = true := by decide
 have n2 : (("i" : Str) != ("n" : Str)) = true := by decide
 (repeat simp +decide only [Q0, Q1, Q2, Q3, asgD, if_true, if_false, List.length_nil, List.length_cons, Nat.reduceAdd, List.contains_nil, List.all_cons, List.all_nil, reduceCtorEq, ne_eq, not_false_eq_true, not_true_eq_false, implies_true, if_pos, ite_true, ite_false, beq_self_eq_true, hlen, callD_len, argOk_str, ll, hc1, hl, a1, a2, a3, c_eqi, n1, n2])
end
end Mine
namespace Mine
open PySem PySem.Calls PyProof.Rows PySem.W
open PySem.Builtin PySem.Builtin.Str
inductive Gl : List (List Nat) → List Nat → Prop
 | one (p : List Nat) : Gl [p] p
 | cons (p g : List Nat) {r : List (List Nat)} {t : List Nat} : r ≠ [] → Gl r t → Gl (p :: r) (p ++ g ++ t)
def GlAt (x : List Nat) (ps : List (List Nat)) (i : Nat) : Prop := ∃ g t, x.drop i = g ++ t ∧ Gl ps t
theorem GlAt.less {x : List Nat} {ps : List (List Nat)} {i j : Nat} (h : GlAt x ps j) (hij : i ≤ j) : GlAt x ps i := by
 obtain ⟨g, t, e, q⟩ := h
 refine ⟨(x.drop i).take (j - i) ++ g, t, ?_, q⟩
 have : x.drop j = (x.drop i).drop (j - i) := by rw [List.drop_drop]; congr 1; omega
 rw [this] at e
 rw [List.append_assoc, ← e, List.take_append_drop]
theorem glAt_one (x last : List Nat) (i : Nat) (hi : i ≤ x.length) : GlAt x [last] i ↔ (i + last.length ≤ x.length ∧ x.drop (x.length - last.length) = last) := by
 constructor
 ·rintro ⟨g, t, e, q⟩
  cases q with
  | one =>
   have hl := congrArg List.length e
   rw [List.length_drop, List.length_append] at hl
   refine ⟨by omega, ?_⟩
   have : x.drop (x.length - last.length) = (x.drop i).drop g.length := by rw [List.drop_drop]; congr 1; omega
   rw [this, e, List.drop_left]
  | cons _ _ hr _ => exact absurd rfl hr
 ·rintro ⟨h1, h2⟩
  refine ⟨(x.drop i).take (x.length - last.length - i), last, ?_, .one last⟩
  have : x.drop (x.length - last.length) = (x.drop i).drop (x.length - last.length - i) := by rw [List.drop_drop]; congr 1; omega
  rw [this] at h2
  have q := (List.take_append_drop (x.length - last.length - i) (x.drop i)).symm
  rw [h2] at q
  exact q
theorem glAt_cons (x p : List Nat) (r : List (List Nat)) (hr : r ≠ []) (i : Nat) (hi : i ≤ x.length) : GlAt x (p :: r) i ↔ ∃ k, i ≤ k ∧ k + p.length ≤ x.length ∧ (x.drop k).take p.length = p ∧ GlAt x r (k + p.length) := by
 constructor
 ·rintro ⟨g, t, e, q⟩
  cases q with
  | one => exact absurd rfl hr
  | cons _ g' hr' q' =>
   rename_i t'
   have hl := congrArg List.length e
   simp only [List.length_drop, List.length_append] at hl
   have hk : x.drop (i + g.length) = p ++ (g' ++ t') := by
    rw [← List.drop_drop, e, List.drop_left, List.append_assoc]
   refine ⟨i + g.length, by omega, by omega, by rw [hk, List.take_left], g', t', ?_, q'⟩
   rw [← List.drop_drop, hk, List.drop_left]
 ·rintro ⟨k, h1, h2, h3, g, t, e, q⟩
  refine ⟨(x.drop i).take (k - i), p ++ g ++ t, ?_, .cons p g hr q⟩
  have hk : x.drop k = p ++ (g ++ t) := by
   rw [← e, ← List.drop_drop]
   conv => lhs; rw [← List.take_append_drop p.length (x.drop k)]
   rw [h3]
  have : x.drop k = (x.drop i).drop (k - i) := by rw [List.drop_drop]; congr 1; omega
  rw [List.append_assoc, ← hk, this, List.take_append_drop]
theorem takeMid_ok (x last : List Nat) : ∀ (mids : List (List Nat)) (i : Nat), i ≤ x.length →
  (GlAt x (mids ++ [last]) i ↔ ∃ j : Nat, takeMid (st x) (mids.map st) i = some (j : Int) ∧ j + last.length ≤ x.length ∧ x.drop (x.length - last.length) = last) ∧
  (∀ z, takeMid (st x) (mids.map st) i = some z → ∃ j : Nat, z = j)
 | [], i, hi => by
  refine ⟨?_, fun z hz => ⟨i, (Option.some.inj hz).symm⟩⟩
  rw [List.nil_append, glAt_one x last i hi]
  constructor
  ·rintro ⟨h1, h2⟩; exact ⟨i, rfl, h1, h2⟩
  ·rintro ⟨j, h0, h1, h2⟩
   have : (i : Int) = (j : Int) := Option.some.inj h0
   have : i = j := by omega
   subst this; exact ⟨h1, h2⟩
 | p :: r, i, hi => by
  have hne : r ++ [last] ≠ [] := by simp
  rw [List.cons_append, glAt_cons x p (r ++ [last]) hne i hi, List.map_cons, takeMid]
  rcases find_spec x p i with ⟨hf, hn⟩ | ⟨k, hf, hik, hkl, hm, hn⟩
  ·rw [hf, if_pos (by decide)]
   refine ⟨⟨?_, ?_⟩, fun z hz => by cases hz⟩
   ·rintro ⟨k, h1, h2, h3, _⟩; exact absurd h3 (hn k h1 h2)
   ·rintro ⟨j, h0, _⟩; cases h0
  ·rw [hf, if_neg (by omega)]
   have e : (k : Int) + ((st p).length : Int) = ((k + p.length : Nat) : Int) := by rw [st_len]; omega
   rw [e]
   obtain ⟨ih, ih2⟩ := takeMid_ok x last r (k + p.length) hkl
   refine ⟨?_, ih2⟩
   rw [← ih]
   constructor
   ·rintro ⟨k', h1, h2, h3, h4⟩
    refine h4.less ?_
    rcases Nat.lt_or_ge k' k with q | q
    ·exact absurd h3 (hn k' h1 q)
    ·omega
   ·intro h; exact ⟨k, hik, hkl, hm, h⟩
theorem mids_eq (p0 : List Nat) (mids : List (List Nat)) (last : List Nat) : midsOf ((p0 :: (mids ++ [last])).map st) = mids.map st := by
 unfold midsOf
 rw [← sliceL_map]
 congr 1
 unfold sliceL
 have h1 : clipAt (p0 :: (mids ++ [last])).length (1 : Int) = 1 := by
  have := clipAt_nat (p0 :: (mids ++ [last])).length 1
  rw [show ((1 : Nat) : Int) = 1 from rfl] at this
  rw [this]; simp
 have h2 : clipAt (p0 :: (mids ++ [last])).length (-1 : Int) = (p0 :: (mids ++ [last])).length - 1 := clipAt_neg _ 1 (Nat.le_refl 1)
 simp only [Option.elim, h1, h2]
 simp
theorem taken_ok (p0 : List Nat) (mids : List (List Nat)) (last x : List Nat) : takenS ((p0 :: (mids ++ [last])).map st) (st x) = true ↔ Gl (p0 :: (mids ++ [last])) x := by
 have hne : mids ++ [last] ≠ [] := by simp
 have g : ∀ R : List (List Nat), R ≠ [] → (Gl (p0 :: R) x ↔ (x.take p0.length = p0 ∧ GlAt x R p0.length)) := by
  intro R hne
  constructor
  ·intro h
   cases h with
   | one => exact absurd rfl hne
   | cons _ g hr q =>
    rw [List.append_assoc]
    exact ⟨List.take_left, g, _, List.drop_left, q⟩
  ·rintro ⟨h1, g, t, e, q⟩
   have : x = p0 ++ g ++ t := by
    rw [List.append_assoc, ← e]
    conv => lhs; rw [← List.take_append_drop p0.length x]
    rw [h1]
   rw [this]
   exact .cons p0 g hne q
 have g0 := g _ hne
 rw [g0]
 unfold takenS
 rw [mids_eq]
 have e0 : (((p0 :: (mids ++ [last])).map st)[0]?.getD Str.empty) = st p0 := rfl
 have e1 : (((p0 :: (mids ++ [last])).map st).getLast?.getD Str.empty) = st last := by
  rw [← List.cons_append, List.map_append, List.map_cons (l := []), List.map_nil, List.getLast?_concat]; rfl
 rw [e0, e1, st_len, st_len, st_len, slice_st, slice_upto, st_beq]
 by_cases h1 : x.take p0.length = p0
 ·have hb : (x.take p0.length == p0) = true := by simp [h1]
  rw [if_pos hb]
  have hp : p0.length ≤ x.length := by
   have := congrArg List.length h1
   rw [List.length_take] at this; omega
  obtain ⟨ih, ih2⟩ := takeMid_ok x last mids p0.length hp
  rw [ih]
  cases hm : takeMid (st x) (mids.map st) p0.length with
  | none => simp
  | some z =>
   obtain ⟨j, rfl⟩ := ih2 z hm
   dsimp only
   rw [Bool.and_eq_true, decide_eq_true_eq]
   constructor
   ·rintro ⟨a, b⟩
    refine ⟨h1, j, rfl, by omega, ?_⟩
    have e : (x.length : Int) - (last.length : Int) = ((x.length - last.length : Nat) : Int) := by omega
    rw [e, slice_st, slice_from, st_beq] at b
    simpa using b
   ·rintro ⟨_, j', hj, a, b⟩
    have : (j : Int) = (j' : Int) := Option.some.inj hj
    refine ⟨by omega, ?_⟩
    have e : (x.length : Int) - (last.length : Int) = ((x.length - last.length : Nat) : Int) := by omega
    rw [e, slice_st, slice_from, st_beq, b]
    simp
 ·have hb : ¬ ((x.take p0.length == p0) = true) := by simp [h1]
  rw [if_neg hb]
  simp [h1]
end Mine
namespace Mine
open PySem PySem.Calls PyProof.Rows PySem.W
open PySem.Builtin PySem.Builtin.Str
def tkChar : Tk → Nat | .star => 0 | .lit c => c | .cls c => c
def tkStr : Tk → Str | .star => Str.empty | .lit c => escS c | .cls c => st ([91] ++ stuffL c ++ [93])
def toIt : Tk → It | .star => .dot | .lit c => .chr c | .cls c => .cls c
def isStar : Tk → Bool | .star => true | _ => false
def chunks : List Tk → List Tk × List (List Tk)
 | [] => ([], [])
 | .star :: r => ([], (chunks r).1 :: (chunks r).2)
 | .lit c :: r => (.lit c :: (chunks r).1, (chunks r).2)
 | .cls c :: r => (.cls c :: (chunks r).1, (chunks r).2)
def zS (toks : List Tk) : List (List Nat) := (chunks toks).1.map tkChar :: (chunks toks).2.map (·.map tkChar)
def tailIts : List (List Tk) → List It
 | [] => []
 | c :: r => (match r with | [] => .dot :: c.map toIt | _ => .opn :: (c.map toIt ++ [.clo])) ++ tailIts r
def itsOf (toks : List Tk) : List It := (chunks toks).1.map toIt ++ tailIts (chunks toks).2
theorem chunks_out (S : Addr) : ∀ (toks : List Tk), toks.map (tkOut S) = ((chunks toks).1.map tkStr).map .str ++ starD S ((chunks toks).2.map (·.map tkStr))
 | [] => rfl
 | .star :: r => by
  rw [List.map_cons, chunks_out S r, chunks]
  simp [starD, tkOut]
 | .lit c :: r => by
  rw [List.map_cons, chunks_out S r, chunks]
  simp [tkOut, tkStr]
 | .cls c :: r => by
  rw [List.map_cons, chunks_out S r, chunks]
  simp [tkOut, tkStr]
theorem chunks_ok : ∀ (toks : List Tk), (∀ t ∈ toks, tkOk t) → (∀ t ∈ (chunks toks).1, tkOk t ∧ isStar t = false) ∧ ∀ c ∈ (chunks toks).2, ∀ t ∈ c, tkOk t ∧ isStar t = false
 | [], _ => ⟨(fun t h => by cases h), (fun c h => by cases h)⟩
 | .star :: r, h => by
  obtain ⟨a, b⟩ := chunks_ok r fun t ht => h t (.tail _ ht)
  exact ⟨fun t ht => (by cases ht), fun c hc => (List.mem_cons.mp hc).elim (fun q => q ▸ a) (b c)⟩
 | .lit k :: r, h => by
  obtain ⟨a, b⟩ := chunks_ok r fun t ht => h t (.tail _ ht)
  exact ⟨fun t ht => (List.mem_cons.mp ht).elim (fun q => q ▸ ⟨h _ (.head _), rfl⟩) (a t), b⟩
 | .cls k :: r, h => by
  obtain ⟨a, b⟩ := chunks_ok r fun t ht => h t (.tail _ ht)
  exact ⟨fun t ht => (List.mem_cons.mp ht).elim (fun q => q ▸ ⟨h _ (.head _), rfl⟩) (a t), b⟩
theorem chunks_full : ∀ (toks : List Tk) (b : Bool), noTwo b toks → fullBut ((chunks toks).2.map (·.map tkStr)) ∧ (b = true → (chunks toks).2 ≠ [] → (chunks toks).1 ≠ [])
 | [], b, _ => ⟨trivial, fun _ h => absurd rfl h⟩
 | .star :: r, b, h => by
  obtain ⟨a, c⟩ := chunks_full r true h.2
  refine ⟨⟨fun hne => ?_, a⟩, fun hb => ?_⟩
  ·have h1 : (chunks r).2 ≠ [] := fun q => hne (by rw [q]; rfl)
   have h2 := c rfl h1
   intro q
   exact h2 (List.map_eq_nil_iff.mp q)
  ·rw [h.1] at hb; cases hb
 | .lit k :: r, b, h => ⟨(chunks_full r false h).1, fun _ _ q => by cases q⟩
 | .cls k :: r, b, h => ⟨(chunks_full r false h).1, fun _ _ q => by cases q⟩
theorem jS_flat : ∀ (xs : List Str), jS xs = st (xs.flatMap fun x => x.cps.toList) := by
 have key : ∀ (xs : List Str), Str.join ("" : Str) xs = st (xs.flatMap fun x => x.cps.toList) := by
  intro xs
  induction xs with
  | nil => rfl
  | cons x xs ih =>
   cases xs with
   | nil =>
    show x = _
    simp [st_self]
   | cons y ys =>
    show x ++ ("" : Str) ++ Str.join ("" : Str) (y :: ys) = _
    rw [ih, show (("" : Str)) = st [] from rfl]
    conv => lhs; rw [← st_self x]
    rw [st_app, st_app]
    simp
 intro xs
 unfold jS Txt.join
 rw [StrLaws.glued_eq_join]
 exact key xs
theorem tkStr_text (t : Tk) (h : isStar t = false) (hk : tkOk t) : (tkStr t).cps.toList = zR (toIt t) := by
 cases t with
 | star => cases h
 | lit c => simp [tkStr, escS, toIt, zR]
 | cls c =>
  have hk' : c = 42 ∨ c = 63 ∨ c = 91 := hk
  rcases hk' with rfl | rfl | rfl <;> rfl
theorem chunk_text (c : List Tk) (h : ∀ t ∈ c, tkOk t ∧ isStar t = false) : (c.map tkStr).flatMap (fun x => x.cps.toList) = (c.map toIt).flatMap zR := by
 induction c with
 | nil => rfl
 | cons t c ih =>
  rw [List.map_cons, List.map_cons, List.flatMap_cons, List.flatMap_cons, ih fun q hq => h q (.tail _ hq), tkStr_text t (h t (.head _)).2 (h t (.head _)).1]
theorem gS_st (l : List Nat) : gS (st l) = st ([40, 63, 62, 46, 42, 63] ++ l ++ [41]) := by
 show ((Str.empty ++ st [40, 63, 62, 46, 42, 63]) ++ st l) ++ st [41] = _
 rw [show Str.empty = st [] from rfl, st_app, st_app, st_app]
 rfl
theorem wrapS_st (l : List Nat) : wrapS (st l) = st ([40, 63, 115, 58] ++ l ++ [41, 92, 90]) := by
 show ((Str.empty ++ st [40, 63, 115, 58]) ++ st l) ++ st [41, 92, 90] = _
 rw [show Str.empty = st [] from rfl, st_app, st_app, st_app]
 rfl
theorem out_text : ∀ (cs : List (List Tk)), (∀ c ∈ cs, ∀ t ∈ c, tkOk t ∧ isStar t = false) → (outS (cs.map (·.map tkStr))).flatMap (fun x => x.cps.toList) = (tailIts cs).flatMap zR
 | [], _ => rfl
 | [c], h => by
  have hc := chunk_text c (h c (.head _))
  cases c with
  | nil => rfl
  | cons t c =>
   show ((st [46, 42]).cps.toList ++ ((jS ((t :: c).map tkStr)).cps.toList ++ [])) = (List.flatMap zR ((.dot :: (t :: c).map toIt) ++ []))
   rw [jS_flat, hc]
   simp [zR]
 | c :: a :: b, h => by
  have ih := out_text (a :: b) fun q hq => h q (.tail _ hq)
  have hc := chunk_text c (h c (.head _))
  show ((gS (jS (c.map tkStr))).cps.toList ++ (outS ((a :: b).map (·.map tkStr))).flatMap (fun x => x.cps.toList)) = List.flatMap zR ((.opn :: (c.map toIt ++ [.clo])) ++ tailIts (a :: b))
  rw [jS_flat, gS_st, hc, ih, List.flatMap_append]
  simp [zR]
theorem told_eq (toks : List Tk) (h : ∀ t ∈ toks, tkOk t) : wrapS (jS ((chunks toks).1.map tkStr ++ outS ((chunks toks).2.map (·.map tkStr)))) = st (toldL (itsOf toks)) := by
 obtain ⟨a, b⟩ := chunks_ok toks h
 rw [jS_flat, wrapS_st, List.flatMap_append, chunk_text _ a, out_text _ b]
 unfold toldL itsOf
 rw [List.flatMap_append]
theorem irun_app : ∀ (a b : List It) (ps : List (List Nat)) (s : Nat), irun (a ++ b) ps s = (match irun a ps s with | some (q, t) => irun b q t | none => none)
 | [], _, _, _ => rfl
 | x :: a, b, ps, s => by
  rw [List.cons_append, irun, irun]
  cases istep ps s x with
  | none => rfl
  | some q => exact irun_app a b q.1 q.2
theorem irun_chunk : ∀ (c : List Tk), (∀ t ∈ c, tkOk t ∧ isStar t = false) → ∀ (ps : List (List Nat)) (z : List Nat) (s : Nat), s = 0 ∨ s = 1 ∨ s = 3 → irun (c.map toIt) (ps ++ [z]) s = some (ps ++ [z ++ c.map tkChar], s)
 | [], _, ps, z, s, _ => by simp [irun]
 | t :: c, h, ps, z, s, hs => by
  have h0 := h t (.head _)
  have ih := irun_chunk c (fun q hq => h q (.tail _ hq)) ps (z ++ [tkChar t]) s hs
  rw [List.map_cons, irun]
  have hl : (ps ++ [z]).getLast? = some z := List.getLast?_concat
  have hst : istep (ps ++ [z]) s (toIt t) = some (ps ++ [z ++ [tkChar t]], s) := by
   cases t with
   | star => exact absurd h0.2 (by simp [isStar])
   | lit k =>
    have hk : k = 47 ∨ k = 97 ∨ k = 98 ∨ k = 117 ∨ k = 123 ∨ k = 125 := h0.1
    dsimp only [toIt, istep]
    rw [if_pos ⟨hs, hk⟩, hl]
    simp [tkChar]
   | cls k =>
    have hk : k = 42 ∨ k = 63 ∨ k = 91 := h0.1
    dsimp only [toIt, istep]
    rw [if_pos ⟨hs, hk⟩, hl]
    simp [tkChar]
  rw [hst]
  dsimp only
  rw [ih]
  simp
theorem irun_tail : ∀ (cs : List (List Tk)), (∀ c ∈ cs, ∀ t ∈ c, tkOk t ∧ isStar t = false) → ∀ (ps : List (List Nat)) (s : Nat), s = 0 ∨ s = 2 → ∃ s', irun (tailIts cs) ps s = some (ps ++ cs.map (·.map tkChar), s') ∧ (cs = [] → s' = s) ∧ (cs ≠ [] → s' = 3)
 | [], _, ps, s, _ => ⟨s, by simp [tailIts, irun], fun _ => rfl, fun q => absurd rfl q⟩
 | [c], h, ps, s, hs => by
  have hc := irun_chunk c (h c (.head _)) ps []
  have h1 : irun (.dot :: c.map toIt) ps s = some (ps ++ [c.map tkChar], 3) := by
   rw [irun]
   dsimp only [istep]
   rw [if_pos hs]
   dsimp only
   rw [hc 3 (.inr (.inr rfl))]
   simp
  refine ⟨3, ?_, (fun q => by cases q), fun _ => rfl⟩
  show irun ((.dot :: c.map toIt) ++ []) ps s = _
  rw [List.append_nil, h1]
  simp
 | c :: a :: b, h, ps, s, hs => by
  have hc := irun_chunk c (h c (.head _)) ps []
  have h1 : irun (.opn :: (c.map toIt ++ [.clo])) ps s = some (ps ++ [c.map tkChar], 2) := by
   rw [irun]
   dsimp only [istep]
   rw [if_pos hs]
   dsimp only
   rw [irun_app, hc 1 (.inr (.inl rfl))]
   simp [irun, istep]
  obtain ⟨s', g1, g2, g3⟩ := irun_tail (a :: b) (fun q hq => h q (.tail _ hq)) (ps ++ [c.map tkChar]) 2 (.inr rfl)
  refine ⟨3, ?_, (fun q => by cases q), fun _ => rfl⟩
  show irun ((.opn :: (c.map toIt ++ [.clo])) ++ tailIts (a :: b)) ps s = _
  rw [irun_app, h1]
  dsimp only
  rw [g1, g3 (by simp)]
  simp
theorem its_run (toks : List Tk) (h : ∀ t ∈ toks, tkOk t) : ∃ s, irun (itsOf toks) [[]] 0 = some (zS toks, s) ∧ (s = 0 ∨ s = 3) := by
 obtain ⟨a, b⟩ := chunks_ok toks h
 have h1 := irun_chunk (chunks toks).1 a [] [] 0 (.inl rfl)
 obtain ⟨s', g1, g2, g3⟩ := irun_tail (chunks toks).2 b [(chunks toks).1.map tkChar] 0 (.inl rfl)
 refine ⟨s', ?_, ?_⟩
 ·unfold itsOf
  rw [irun_app]
  rw [List.nil_append, List.nil_append] at h1
  rw [h1]
  exact g1
 ·by_cases q : (chunks toks).2 = []
  ·exact .inl (g2 q)
  ·exact .inr (g3 q)
end Mine
namespace Mine
open PySem PySem.Calls PyProof.Rows PySem.W
inductive Tm : List Tk → List Nat → Prop
 | nil : Tm [] []
 | lit (c : Nat) {r : List Tk} {t : List Nat} : Tm r t → Tm (.lit c :: r) (c :: t)
 | cls (c : Nat) {r : List Tk} {t : List Nat} : Tm r t → Tm (.cls c :: r) (c :: t)
 | star (g : List Nat) {r : List Tk} {t : List Nat} : Tm r t → Tm (.star :: r) (g ++ t)
theorem gl_head (c : Nat) (p : List Nat) (ps : List (List Nat)) (x : List Nat) : Gl ((c :: p) :: ps) x ↔ ∃ t, x = c :: t ∧ Gl (p :: ps) t := by
 constructor
 ·intro h
  cases h with
  | one => exact ⟨p, rfl, .one p⟩
  | cons _ g hr q => exact ⟨_, rfl, .cons p g hr q⟩
 ·rintro ⟨t, rfl, h⟩
  cases h with
  | one => exact .one (c :: p)
  | cons _ g hr q => exact .cons (c :: p) g hr q
theorem gl_nil (p : List Nat) (ps : List (List Nat)) (x : List Nat) : Gl ([] :: p :: ps) x ↔ ∃ g t, x = g ++ t ∧ Gl (p :: ps) t := by
 constructor
 ·intro h
  cases h with
  | cons _ g hr q => exact ⟨g, _, rfl, q⟩
 ·rintro ⟨g, t, rfl, h⟩
  exact .cons [] g (by simp) h
theorem gl_tm : ∀ (toks : List Tk) (x : List Nat), Gl (zS toks) x ↔ Tm toks x
 | [], x => by
  constructor
  ·intro h
   have h' : Gl [[]] x := h
   cases h' with
   | one => exact .nil
   | cons _ _ hr _ => exact absurd rfl hr
  ·intro h; cases h; exact .one []
 | .lit c :: r, x => by
  have ih := gl_tm r
  have e : zS (.lit c :: r) = (c :: (chunks r).1.map tkChar) :: (chunks r).2.map (·.map tkChar) := rfl
  rw [e, gl_head]
  constructor
  ·rintro ⟨t, rfl, h⟩; exact .lit c ((ih t).mp h)
  ·intro h; cases h with | lit _ q => exact ⟨_, rfl, (ih _).mpr q⟩
 | .cls c :: r, x => by
  have ih := gl_tm r
  have e : zS (.cls c :: r) = (c :: (chunks r).1.map tkChar) :: (chunks r).2.map (·.map tkChar) := rfl
  rw [e, gl_head]
  constructor
  ·rintro ⟨t, rfl, h⟩; exact .cls c ((ih t).mp h)
  ·intro h; cases h with | cls _ q => exact ⟨_, rfl, (ih _).mpr q⟩
 | .star :: r, x => by
  have ih := gl_tm r
  have e : zS (.star :: r) = [] :: (chunks r).1.map tkChar :: (chunks r).2.map (·.map tkChar) := rfl
  rw [e, gl_nil]
  constructor
  ·rintro ⟨g, t, rfl, h⟩; exact .star g ((ih t).mp h)
  ·intro h; cases h with | star g q => exact ⟨g, _, rfl, (ih _).mpr q⟩
def litsOf : List Tk → List Nat
 | [] => []
 | .star :: r => litsOf r
 | .lit c :: r => c :: litsOf r
 | .cls c :: r => c :: litsOf r
inductive Tn (P : Nat → Prop) : List Tk → List Nat → Prop
 | nil : Tn P [] []
 | lit (c : Nat) {r : List Tk} {t : List Nat} : Tn P r t → Tn P (.lit c :: r) (c :: t)
 | cls (c : Nat) {r : List Tk} {t : List Nat} : Tn P r t → Tn P (.cls c :: r) (c :: t)
 | star (g : List Nat) {r : List Tk} {t : List Nat} : (∀ c ∈ g, ¬ P c) → Tn P r t → Tn P (.star :: r) (g ++ t)
theorem tm_count (d : Nat) : ∀ {toks : List Tk} {x : List Nat}, Tm toks x → (litsOf toks).count d ≤ x.count d
 | _, _, .nil => Nat.le_refl _
 | _, _, .lit c h => by
  have := tm_count d h
  unfold litsOf
  rw [List.count_cons, List.count_cons]; omega
 | _, _, .cls c h => by
  have := tm_count d h
  unfold litsOf
  rw [List.count_cons, List.count_cons]; omega
 | _, _, .star g h => by
  have := tm_count d h
  unfold litsOf
  rw [List.count_append]; omega
def isDelim (c : Nat) : Prop := c = 123 ∨ c = 125 ∨ c = 47
theorem tm_tn : ∀ {toks : List Tk} {x : List Nat}, Tm toks x → (∀ d, isDelim d → (litsOf toks).count d = x.count d) → Tn isDelim toks x
 | _, _, .nil, _ => .nil
 | _, _, .lit c h, hc => .lit c (tm_tn h fun d hd => by
  have := hc d hd
  unfold litsOf at this
  rw [List.count_cons, List.count_cons] at this; omega)
 | _, _, .cls c h, hc => .cls c (tm_tn h fun d hd => by
  have := hc d hd
  unfold litsOf at this
  rw [List.count_cons, List.count_cons] at this; omega)
 | _, _, .star (r := r) (t := t) g h, hc => by
  have key : ∀ d, isDelim d → g.count d = 0 ∧ (litsOf r).count d = List.count d t := fun d hd => by
   have h1 := hc d hd
   have h2 := tm_count d h
   unfold litsOf at h1
   rw [List.count_append] at h1
   exact ⟨by omega, by omega⟩
  exact .star g (fun c hcg hd => by
   have := (key c hd).1
   rw [List.count_eq_zero] at this
   exact this hcg) (tm_tn h fun d hd => (key d hd).2)
theorem tn_split {P : Nat → Prop} (d : Nat) (hd : P d) (Q : List Tk) : ∀ (A : List Tk) (u v : List Nat), d ∉ litsOf A → d ∉ u → Tn P (A ++ .lit d :: Q) (u ++ d :: v) → Tn P A u ∧ Tn P Q v
 | [], u, v, _, hu, h => by
  cases u with
  | nil =>
   cases h with
   | lit _ q => exact ⟨.nil, q⟩
  | cons a u =>
   rw [List.nil_append, List.cons_append] at h
   cases h with
   | lit _ q => exact absurd (.head _) hu
 | .lit c :: A, u, v, hA, hu, h => by
  cases u with
  | nil =>
   rw [List.cons_append, List.nil_append] at h
   cases h with
   | lit _ q => exact absurd (List.mem_cons_self) hA
  | cons a u =>
   rw [List.cons_append, List.cons_append] at h
   cases h with
   | lit _ q =>
    obtain ⟨a1, a2⟩ := tn_split d hd Q A u v (fun z => hA (List.mem_cons_of_mem _ z)) (fun z => hu (List.mem_cons_of_mem _ z)) q
    exact ⟨.lit _ a1, a2⟩
 | .cls c :: A, u, v, hA, hu, h => by
  cases u with
  | nil =>
   rw [List.cons_append, List.nil_append] at h
   cases h with
   | cls _ q => exact absurd (List.mem_cons_self) hA
  | cons a u =>
   rw [List.cons_append, List.cons_append] at h
   cases h with
   | cls _ q =>
    obtain ⟨a1, a2⟩ := tn_split d hd Q A u v (fun z => hA (List.mem_cons_of_mem _ z)) (fun z => hu (List.mem_cons_of_mem _ z)) q
    exact ⟨.cls _ a1, a2⟩
 | .star :: A, u, v, hA, hu, h => by
  rw [List.cons_append] at h
  generalize hx : u ++ d :: v = x at h
  cases h with
  | star g hg q =>
   rename_i t
   have hpre : ∃ u', u = g ++ u' ∧ t = u' ++ d :: v := by
    rcases List.append_eq_append_iff.mp hx with ⟨w, h1, h2⟩ | ⟨w, h1, h2⟩
    ·cases w with
     | nil => exact ⟨[], by simpa using h1.symm, by simpa using h2.symm⟩
     | cons b w =>
      have hb : d = b := by simpa using (List.cons.inj h2).1
      subst hb
      exact absurd hd (hg d (by rw [h1]; simp))
    ·exact ⟨w, h1, h2⟩
   obtain ⟨u', rfl, rfl⟩ := hpre
   obtain ⟨a1, a2⟩ := tn_split d hd Q A u' v hA (fun z => hu (List.mem_append_right _ z)) q
   exact ⟨.star g hg a1, a2⟩
end Mine
namespace Mine
open PySem PySem.Calls PyProof.Rows PySem.W
def chOk (c : Nat) : Prop := c = 97 ∨ c = 98 ∨ c = 117 ∨ c = 42 ∨ c = 63 ∨ c = 91
def chTk (c : Nat) : Tk := if c = 42 ∨ c = 63 ∨ c = 91 then .cls c else .lit c
def partT : Option Str → List Tk
 | none => [.star]
 | some x => x.cps.toList.map chTk
def stepT (s : Sp) : List Tk := .lit 123 :: (partT s.1 ++ .lit 125 :: partT s.2)
def pathT : List Sp → List Tk
 | [] => []
 | s :: r => (match r with | [] => stepT s | _ => stepT s ++ .lit 47 :: pathT r)
def nameL (n : Str × Str) : List Nat := 123 :: (n.1.cps.toList ++ 125 :: n.2.cps.toList)
def wayText : List (Str × Str) → List Nat
 | [] => []
 | n :: r => (match r with | [] => nameL n | _ => nameL n ++ 47 :: wayText r)
def strOk (x : Str) : Prop := ∀ c ∈ x.cps.toList, chOk c
def spOk (s : Sp) : Prop := (∀ x, s.1 = some x → strOk x) ∧ (∀ x, s.2 = some x → strOk x)
def nmOk (n : Str × Str) : Prop := strOk n.1 ∧ strOk n.2
def fitsP (n : Str × Str) (s : Sp) : Prop := (s.1 = none ∨ s.1 = some n.1) ∧ (s.2 = none ∨ s.2 = some n.2)
def fitsAll : List (Str × Str) → List Sp → Prop
 | n :: ns, s :: ss => fitsP n s ∧ fitsAll ns ss
 | [], [] => True
 | _, _ => False
theorem chOk_delim {c : Nat} (h : chOk c) : ¬ isDelim c := by unfold chOk at h; unfold isDelim; omega
theorem litsOf_app : ∀ (a b : List Tk), litsOf (a ++ b) = litsOf a ++ litsOf b
 | [], _ => rfl
 | .star :: a, b => by rw [List.cons_append, litsOf, litsOf, litsOf_app a b]
 | .lit c :: a, b => by rw [List.cons_append, litsOf, litsOf, litsOf_app a b, List.cons_append]
 | .cls c :: a, b => by rw [List.cons_append, litsOf, litsOf, litsOf_app a b, List.cons_append]
theorem litsOf_ch : ∀ (l : List Nat), litsOf (l.map chTk) = l
 | [] => rfl
 | c :: l => by
  rw [List.map_cons]
  unfold chTk
  split
  ·rw [litsOf]; exact congrArg _ (litsOf_ch l)
  ·rw [litsOf]; exact congrArg _ (litsOf_ch l)
theorem part_no {p : Option Str} (h : ∀ x, p = some x → strOk x) (d : Nat) (hd : isDelim d) : d ∉ litsOf (partT p) := by
 cases p with
 | none => simp [partT, litsOf]
 | some x =>
  unfold partT
  rw [litsOf_ch]
  exact fun q => chOk_delim (h x rfl d q) hd
theorem str_no {x : Str} (h : strOk x) (d : Nat) (hd : isDelim d) : d ∉ x.cps.toList := fun q => chOk_delim (h d q) hd
theorem tn_ch {P : Nat → Prop} : ∀ (l u : List Nat), Tn P (l.map chTk) u → u = l
 | [], u, h => by cases h; rfl
 | c :: l, u, h => by
  rw [List.map_cons] at h
  generalize hc : chTk c = t at h
  unfold chTk at hc
  cases h with
  | lit k q =>
   split at hc
   ·cases hc
   ·cases hc; rw [tn_ch l _ q]
  | cls k q =>
   split at hc
   ·cases hc; rw [tn_ch l _ q]
   ·cases hc
  | star g _ q =>
   split at hc <;> cases hc
theorem tm_ch : ∀ (l : List Nat), Tm (l.map chTk) l
 | [] => .nil
 | c :: l => by
  rw [List.map_cons]
  unfold chTk
  split
  ·exact .cls c (tm_ch l)
  ·exact .lit c (tm_ch l)
theorem tm_app : ∀ {a b : List Tk} {u v : List Nat}, Tm a u → Tm b v → Tm (a ++ b) (u ++ v)
 | _, _, _, _, .nil, h => h
 | _, _, _, _, .lit c q, h => .lit c (tm_app q h)
 | _, _, _, _, .cls c q, h => .cls c (tm_app q h)
 | _, _, _, _, .star g q, h => by rw [List.append_assoc]; exact .star g (tm_app q h)
theorem tn_part {P : Nat → Prop} {p : Option Str} {x : Str} (h : Tn P (partT p) x.cps.toList) : p = none ∨ p = some x := by
 cases p with
 | none => exact .inl rfl
 | some y =>
  have := tn_ch _ _ h
  right
  have e : x = y := by rw [← st_self x, ← st_self y, this]
  rw [e]
theorem tm_part {p : Option Str} {x : Str} (h : p = none ∨ p = some x) : Tm (partT p) x.cps.toList := by
 rcases h with rfl | rfl
 ·have := Tm.star x.cps.toList Tm.nil
  rw [List.append_nil] at this
  exact this
 ·exact tm_ch _
theorem tn_step {s : Sp} {n : Str × Str} (hs : spOk s) (hn : nmOk n) (h : Tn isDelim (stepT s) (nameL n)) : fitsP n s := by
 unfold stepT nameL at h
 cases h with
 | lit _ q =>
  obtain ⟨a, b⟩ := tn_split 125 (.inr (.inl rfl)) (partT s.2) (partT s.1) _ _ (part_no hs.1 125 (.inr (.inl rfl))) (str_no hn.1 125 (.inr (.inl rfl))) q
  exact ⟨tn_part a, tn_part b⟩
theorem tm_step {s : Sp} {n : Str × Str} (h : fitsP n s) : Tm (stepT s) (nameL n) :=
 .lit 123 (tm_app (tm_part h.1) (.lit 125 (tm_part h.2)))
theorem step_no47 {s : Sp} (hs : spOk s) : 47 ∉ litsOf (stepT s) := by
 unfold stepT
 rw [litsOf, litsOf_app, litsOf]
 intro q
 rcases List.mem_cons.mp q with q | q
 ·cases q
 ·rcases List.mem_append.mp q with q | q
  ·exact part_no hs.1 47 (.inr (.inr rfl)) q
  ·rcases List.mem_cons.mp q with q | q
   ·cases q
   ·exact part_no hs.2 47 (.inr (.inr rfl)) q
theorem name_no47 {n : Str × Str} (hn : nmOk n) : 47 ∉ nameL n := by
 unfold nameL
 intro q
 rcases List.mem_cons.mp q with q | q
 ·cases q
 ·rcases List.mem_append.mp q with q | q
  ·exact str_no hn.1 47 (.inr (.inr rfl)) q
  ·rcases List.mem_cons.mp q with q | q
   ·cases q
   ·exact str_no hn.2 47 (.inr (.inr rfl)) q
theorem tn_path : ∀ (ss : List Sp) (ns : List (Str × Str)), ns.length = ss.length → (∀ s ∈ ss, spOk s) → (∀ n ∈ ns, nmOk n) → Tn isDelim (pathT ss) (wayText ns) → fitsAll ns ss
 | [], [], _, _, _, _ => trivial
 | [], n :: ns, hl, _, _, _ => by cases hl
 | s :: ss, [], hl, _, _, _ => by cases hl
 | [s], [n], _, hs, hn, h => ⟨tn_step (hs s (.head _)) (hn n (.head _)) h, trivial⟩
 | [s], n :: m :: ns, hl, _, _, _ => by simp at hl
 | s :: t :: ss, [n], hl, _, _, _ => by simp at hl
 | s :: t :: ss, n :: m :: ns, hl, hs, hn, h => by
  have h' : Tn isDelim (stepT s ++ .lit 47 :: pathT (t :: ss)) (nameL n ++ 47 :: wayText (m :: ns)) := h
  obtain ⟨a, b⟩ := tn_split 47 (.inr (.inr rfl)) _ _ _ _ (step_no47 (hs s (.head _))) (name_no47 (hn n (.head _))) h'
  exact ⟨tn_step (hs s (.head _)) (hn n (.head _)) a, tn_path (t :: ss) (m :: ns) (by simpa using hl) (fun q hq => hs q (.tail _ hq)) (fun q hq => hn q (.tail _ hq)) b⟩
theorem tm_path : ∀ (ss : List Sp) (ns : List (Str × Str)), fitsAll ns ss → Tm (pathT ss) (wayText ns)
 | [], [], _ => .nil
 | [], n :: ns, h => h.elim
 | s :: ss, [], h => h.elim
 | [s], [n], h => tm_step h.1
 | [s], n :: m :: ns, h => h.2.elim
 | s :: t :: ss, [n], h => h.2.elim
 | s :: t :: ss, n :: m :: ns, h => tm_app (tm_step h.1) (.lit 47 (tm_path (t :: ss) (m :: ns) h.2))
theorem count_step {s : Sp} {n : Str × Str} (hs : spOk s) (hn : nmOk n) (d : Nat) (hd : isDelim d) : (litsOf (stepT s)).count d = (nameL n).count d := by
 unfold stepT nameL
 rw [litsOf, litsOf_app, litsOf, List.count_cons, List.count_cons, List.count_append, List.count_append, List.count_cons, List.count_cons,
  List.count_eq_zero.mpr (part_no hs.1 d hd), List.count_eq_zero.mpr (part_no hs.2 d hd), List.count_eq_zero.mpr (str_no hn.1 d hd), List.count_eq_zero.mpr (str_no hn.2 d hd)]
theorem count_path : ∀ (ss : List Sp) (ns : List (Str × Str)), ns.length = ss.length → (∀ s ∈ ss, spOk s) → (∀ n ∈ ns, nmOk n) → ∀ d, isDelim d → (litsOf (pathT ss)).count d = (wayText ns).count d
 | [], [], _, _, _, _, _ => rfl
 | [], n :: ns, hl, _, _, _, _ => by cases hl
 | s :: ss, [], hl, _, _, _, _ => by cases hl
 | [s], [n], _, hs, hn, d, hd => count_step (hs s (.head _)) (hn n (.head _)) d hd
 | [s], n :: m :: ns, hl, _, _, _, _ => by simp at hl
 | s :: t :: ss, [n], hl, _, _, _, _ => by simp at hl
 | s :: t :: ss, n :: m :: ns, hl, hs, hn, d, hd => by
  have e1 : pathT (s :: t :: ss) = stepT s ++ .lit 47 :: pathT (t :: ss) := rfl
  have e2 : wayText (n :: m :: ns) = nameL n ++ 47 :: wayText (m :: ns) := rfl
  rw [e1, e2, litsOf_app, litsOf, List.count_append, List.count_append, List.count_cons, List.count_cons, count_step (hs s (.head _)) (hn n (.head _)) d hd, count_path (t :: ss) (m :: ns) (by simpa using hl) (fun q hq => hs q (.tail _ hq)) (fun q hq => hn q (.tail _ hq)) d hd]
theorem glob_fits (ss : List Sp) (ns : List (Str × Str)) (hl : ns.length = ss.length) (hs : ∀ s ∈ ss, spOk s) (hn : ∀ n ∈ ns, nmOk n) : Gl (zS (pathT ss)) (wayText ns) ↔ fitsAll ns ss := by
 rw [gl_tm]
 exact ⟨fun h => tn_path ss ns hl hs hn (tm_tn h (count_path ss ns hl hs hn)), fun h => tm_path ss ns h⟩
end Mine
namespace Mine
open PySem PySem.Calls PyProof.Rows PySem.W
open PySem.Builtin PySem.Builtin.Str
theorem jn_slash (xs : List Str) : Txt.join ("/" : Str) xs = Str.join ("/" : Str) xs := by unfold Txt.join; exact StrLaws.glued_eq_join _ _
theorem qch_ok {c : Nat} (h : chOk c) : qch c = st (zQ (chTk c)) := by
 rcases h with rfl | rfl | rfl | rfl | rfl | rfl <;> (unfold qch; first | (rw [if_pos (by decide +kernel)]; rfl) | (rw [if_neg (by decide +kernel)]; rfl))
theorem quoteS_st {x : Str} (h : strOk x) : quoteS x = st ((x.cps.toList.map chTk).flatMap zQ) := by
 have e : quoteS x = jS (x.cps.toList.map qch) := rfl
 rw [e, jS_flat]
 congr 1
 unfold strOk at h
 generalize x.cps.toList = l at h
 induction l with
 | nil => rfl
 | cons c l ih =>
  rw [List.map_cons, List.map_cons, List.flatMap_cons, List.flatMap_cons, ih fun q hq => h q (.tail _ hq), qch_ok (h c (.head _))]
theorem partS_st {p : Option Str} (h : ∀ x, p = some x → strOk x) : partS true p = st ((partT p).flatMap zQ) := by
 cases p with
 | none => rfl
 | some x => exact quoteS_st (h x rfl)
theorem textS_st {s : Sp} (h : spOk s) : textS true s = st ((stepT s).flatMap zQ) := by
 unfold textS stepT
 rw [partS_st h.1, partS_st h.2]
 show (((st [123]) ++ _) ++ (st [125])) ++ _ = _
 rw [st_app, st_app, st_app]
 simp [zQ]
theorem path_text : ∀ (ss : List Sp), (∀ s ∈ ss, spOk s) → Txt.join ("/" : Str) (ss.map (textS true)) = st ((pathT ss).flatMap zQ) := by
 intro ss h
 rw [jn_slash]
 induction ss with
 | nil => rfl
 | cons s r ih =>
  cases r with
  | nil => exact textS_st (h s (.head _))
  | cons t r =>
   show textS true s ++ ("/" : Str) ++ Str.join ("/" : Str) ((t :: r).map (textS true)) = _
   rw [ih fun q hq => h q (.tail _ hq), textS_st (h s (.head _))]
   show (st _ ++ st [47]) ++ st _ = _
   rw [st_app, st_app]
   have : pathT (s :: t :: r) = stepT s ++ .lit 47 :: pathT (t :: r) := rfl
   rw [this]
   simp [zQ]
theorem chTk_ok {c : Nat} (h : chOk c) : tkOk (chTk c) := by
 rcases h with rfl | rfl | rfl | rfl | rfl | rfl <;> simp [chTk, tkOk]
theorem part_ok {p : Option Str} (h : ∀ x, p = some x → strOk x) : ∀ t ∈ partT p, tkOk t := by
 cases p with
 | none => intro t ht; simp [partT] at ht; subst ht; trivial
 | some x =>
  intro t ht
  obtain ⟨c, hc, rfl⟩ := List.mem_map.mp ht
  exact chTk_ok (h x rfl c hc)
theorem step_ok {s : Sp} (h : spOk s) : ∀ t ∈ stepT s, tkOk t := by
 intro t ht
 unfold stepT at ht
 rcases List.mem_cons.mp ht with rfl | ht
 ·simp [tkOk]
 ·rcases List.mem_append.mp ht with ht | ht
  ·exact part_ok h.1 t ht
  ·rcases List.mem_cons.mp ht with rfl | ht
   ·simp [tkOk]
   ·exact part_ok h.2 t ht
theorem path_ok : ∀ (ss : List Sp), (∀ s ∈ ss, spOk s) → ∀ t ∈ pathT ss, tkOk t
 | [], _, t, ht => by cases ht
 | [s], h, t, ht => step_ok (h s (.head _)) t ht
 | s :: u :: r, h, t, ht => by
  have e : pathT (s :: u :: r) = stepT s ++ .lit 47 :: pathT (u :: r) := rfl
  rw [e] at ht
  rcases List.mem_append.mp ht with ht | ht
  ·exact step_ok (h s (.head _)) t ht
  ·rcases List.mem_cons.mp ht with rfl | ht
   ·simp [tkOk]
   ·exact path_ok (u :: r) (fun q hq => h q (.tail _ hq)) t ht
theorem noTwo_ch : ∀ (l : List Nat) (b : Bool) (r : List Tk), (∀ b', noTwo b' r) → noTwo b (l.map chTk ++ r)
 | [], b, r, h => h b
 | c :: l, b, r, h => by
  rw [List.map_cons, List.cons_append]
  unfold chTk
  split
  ·exact noTwo_ch l false r h
  ·exact noTwo_ch l false r h
theorem noTwo_part (p : Option Str) (r : List Tk) (h : ∀ b', noTwo b' r) : noTwo false (partT p ++ r) := by
 cases p with
 | none => exact ⟨rfl, h true⟩
 | some x => exact noTwo_ch _ _ r h
theorem noTwo_step (s : Sp) (r : List Tk) (h : ∀ b', noTwo b' r) (b : Bool) : noTwo b (stepT s ++ r) := by
 unfold stepT
 rw [List.cons_append]
 show noTwo false _
 rw [List.append_assoc]
 refine noTwo_part s.1 _ fun b' => ?_
 rw [List.cons_append]
 show noTwo false _
 exact noTwo_part s.2 r h
theorem noTwo_path : ∀ (ss : List Sp) (b : Bool), noTwo b (pathT ss)
 | [], _ => trivial
 | [s], b => by
  have := noTwo_step s [] (fun _ => trivial) b
  rw [List.append_nil] at this
  exact this
 | s :: u :: r, b => by
  have e : pathT (s :: u :: r) = stepT s ++ .lit 47 :: pathT (u :: r) := rfl
  rw [e]
  exact noTwo_step s (.lit 47 :: pathT (u :: r)) (fun b' => noTwo_path (u :: r) false) b
theorem pieces_two {ss : List Sp} (hne : ss ≠ []) (hstar : ∀ s ∈ ss, s.1 = none ∨ s.2 = none) : (chunks (pathT ss)).2 ≠ [] := by
 have key : ∀ (l : List Tk), Tk.star ∈ l → (chunks l).2 ≠ [] := by
  intro l
  induction l with
  | nil => intro h; cases h
  | cons t l ih =>
   intro h
   cases t with
   | star => intro q; cases q
   | lit c => exact ih (by simpa using h)
   | cls c => exact ih (by simpa using h)
 have stepstar : ∀ s : Sp, (s.1 = none ∨ s.2 = none) → Tk.star ∈ stepT s := by
  intro s h
  unfold stepT
  rcases h with h | h <;> rw [h] <;> simp [partT]
 cases ss with
 | nil => exact absurd rfl hne
 | cons s r =>
  have hs := stepstar s (hstar s (.head _))
  refine key _ ?_
  cases r with
  | nil => exact hs
  | cons t r => exact List.mem_append_left _ hs
theorem pieces_split {toks : List Tk} (h : (chunks toks).2 ≠ []) : ∃ p0 mids last, zS toks = p0 :: (mids ++ [last]) := by
 unfold zS
 have hne : (chunks toks).2.map (·.map tkChar) ≠ [] := fun q => h (List.map_eq_nil_iff.mp q)
 exact ⟨_, _, _, by rw [List.dropLast_concat_getLast hne]⟩
def nameS (n : Str × Str) : Str := ((("{" : Str) ++ n.1) ++ ("}" : Str)) ++ n.2
theorem nameS_st (n : Str × Str) : nameS n = st (nameL n) := by
 unfold nameS nameL
 conv => lhs; rw [← st_self n.1, ← st_self n.2]
 show (((st [123]) ++ _) ++ (st [125])) ++ _ = _
 rw [st_app, st_app, st_app]
 simp
theorem way_text : ∀ (ns : List (Str × Str)), Txt.join ("/" : Str) (ns.map nameS) = st (wayText ns) := by
 intro ns
 rw [jn_slash]
 induction ns with
 | nil => rfl
 | cons s r ih =>
  cases r with
  | nil => exact nameS_st s
  | cons t r =>
   show nameS s ++ ("/" : Str) ++ Str.join ("/" : Str) ((t :: r).map nameS) = _
   rw [ih, nameS_st]
   show (st _ ++ st [47]) ++ st _ = _
   rw [st_app, st_app]
   have : wayText (s :: t :: r) = nameL s ++ 47 :: wayText (t :: r) := rfl
   rw [this]
   simp
theorem taken_fits (ss : List Sp) (ns : List (Str × Str)) (hne : ss ≠ []) (hstar : ∀ s ∈ ss, s.1 = none ∨ s.2 = none) (hl : ns.length = ss.length) (hs : ∀ s ∈ ss, spOk s) (hn : ∀ n ∈ ns, nmOk n) :
  takenS ((zS (pathT ss)).map st) (st (wayText ns)) = true ↔ fitsAll ns ss := by
 obtain ⟨p0, mids, last, e⟩ := pieces_split (pieces_two hne hstar)
 rw [← glob_fits ss ns hl hs hn, e, taken_ok]
end Mine
namespace Mine
open PySem PySem.Calls PyProof.Rows PySem.W PySem.Builtin PySem.Builtin.Str
section
variable {prog : Program} {w : World} {A : Around} {E : Value → Shared → Prop} {s : Shared} {d : Addr} {f : Int → Option Value}
theorem look_text {c : Nat} {x : Str} {t : Tok} {Q : Mapped → Shared → Prop} (hm : s.heap.MapOf (intKind prog w) d f) (hf : f c = some (.str x t)) (h : ∀ tk, Q (.text x) { s with toks := tk }) :
  wpAny (model prog w) A (tableLookup (.ref d) c) Q E s := by
 unfold tableLookup
 refine wpAny_bind (wpAny_attempt (wpAny_bind (wpAny_mkInt ?_)))
 refine wpAny_getItem_of (intKind_is prog w c _) hm hf ?_
 dsimp only
 refine wpAny_bind (wpAny_of_eq (a := none) (by first | rfl | kernel_rfl) ?_)
 dsimp only
 refine wpAny_bind (wpAny_of_eq (a := some x) (by first | rfl | kernel_rfl) ?_)
 exact wpAny_pure (h _)
theorem look_keep {c : Nat} {Q : Mapped → Shared → Prop} (hd : (d == sysModules) = false) (hh : A.handled = none) (hm : s.heap.MapOf (intKind prog w) d f) (hf : f c = none) (h : ∀ h' tk, (∀ b o, s.heap.get? b = some o → h'.get? b = some o) → Q .keep { s with heap := h', toks := tk }) :
  wpAny (model prog w) A (tableLookup (.ref d) c) Q E s := by
 unfold tableLookup
 refine wpAny_bind (wpAny_attempt (wpAny_bind (wpAny_mkInt ?_)))
 refine wpAny_getItem_missing_of (s := { s with toks := s.toks + 1 }) (intKind_is prog w c _) hd hh hm hf fun h' e hx => ?_
 dsimp only
 obtain ⟨ob, t, he, hcls, hdt⟩ := hx.there
 have hsub : isSubtype (.type "KeyError") (.type "LookupError") = pure true := by rw [isSubtype_type]; kernel_rfl
 refine wpAny_bind (wpAny_isInstance (T := "KeyError") (b := true) ⟨_, he, hcls⟩ hsub ?_)
 rw [if_pos rfl]
 exact wpAny_bind (wpAny_rule (wpAny_pure (h _ _ hx.keeps)))
end
end Mine
namespace Mine
open PySem PySem.Calls PyProof.Rows PySem.W PySem.Builtin PySem.Builtin.Str
section
variable {prog : Program} {w : World} {A : Around} {E : Value → Shared → Prop} {s : Shared} {d : Addr} {f : Int → Option Value}
theorem forIn_one {β : Type} (c : Nat) (b : β) (g : Nat → β → Sem (ForInStep β)) : forIn (#[c] : Array Nat) b g = (do match ← g c b with | .done b => pure b | .yield b => pure b) := by
 rw [← Array.forIn_toList]
 simp only [List.forIn_cons, List.forIn_nil]
 refine congrArg (g c b >>= ·) (funext fun x => ?_)
 cases x <;> rfl
theorem retStr_ok {x : Str} {Q : Fin → Shared → Prop} (hx : x.length ≤ sizeLine) (h : ∀ t tk, Q (.done (.ret (.str x t))) { s with toks := tk }) : wpAny (model prog w) A (retStr x) Q E s := by
 unfold retStr
 refine wpAny_bind (wpAny_mkStr ?_ hx)
 exact wpAny_pure (h _ _)
theorem translate_keep {c : Nat} {t : Tok} {Q : Value → Shared → Prop} (hc : c < 128) (hd : (d == sysModules) = false) (hh : A.handled = none) (hm : s.heap.MapOf (intKind prog w) d f) (hf : f c = none)
  (h : ∀ h' tk t', (∀ b o, s.heap.get? b = some o → h'.get? b = some o) → Q (.str ⟨#[c]⟩ t') { s with heap := h', toks := tk }) :
  wpAny (model prog w) A (call (.builtin "str.translate") [.str ⟨#[c]⟩ t, .ref d]) Q E s := by
 refine wpAny_call (codeAny_call_builtin F.slot_str_translate.plain F.entry_str_translate (F.slot_str_translate.check _ _ _ _ _ _ _ _ (typeIs_str _ _ _) (F.args_str_translate_2 _ _) ?_))
 unfold Builtin.«str.translate»
 refine wpAny_bind (wpAny_of_eq (a := (Value.str ⟨#[c]⟩ t, ⟨#[c]⟩, Value.ref d)) (by rfl) ?_)
 dsimp only
 rw [if_neg (by intro h; cases h)]
 rw [forIn_one]
 have hfast : ((#[c] : Array Nat).all fun x => decide (x < 128)) = true := by simp [hc]
 rw [hfast]
 dsimp only [List.lookup]
 refine wpAny_bind (wpAny_bind ?_)
 rw [if_neg (by intro h; cases h)]
 simp only [if_true]
 refine wpAny_bind (look_keep hd hh hm hf fun h' tk k => ?_)
 dsimp only
 refine wpAny_bind (wpAny_pure ?_)
 dsimp only
 refine wpAny_pure (wpAny_pure ?_)
 dsimp only
 rw [if_neg (by intro h; cases h)]
 exact retStr_ok (by show (1:Nat) ≤ sizeLine; decide) fun t' tk' => h h' tk' t' k
theorem translate_text {c : Nat} {t u : Tok} {a b : Nat} {Q : Value → Shared → Prop} (hc : c < 128) (hm : s.heap.MapOf (intKind prog w) d f) (hf : f c = some (.str (⟨#[a, b]⟩ : Str) u))
  (h : ∀ tk t', Q (.str ⟨#[a, b]⟩ t') { s with toks := tk }) :
  wpAny (model prog w) A (call (.builtin "str.translate") [.str ⟨#[c]⟩ t, .ref d]) Q E s := by
 refine wpAny_call (codeAny_call_builtin F.slot_str_translate.plain F.entry_str_translate (F.slot_str_translate.check _ _ _ _ _ _ _ _ (typeIs_str _ _ _) (F.args_str_translate_2 _ _) ?_))
 unfold Builtin.«str.translate»
 refine wpAny_bind (wpAny_of_eq (a := (Value.str ⟨#[c]⟩ t, ⟨#[c]⟩, Value.ref d)) (by rfl) ?_)
 dsimp only
 rw [if_neg (by intro h; cases h)]
 rw [forIn_one]
 have hfast : ((#[c] : Array Nat).all fun x => decide (x < 128)) = true := by simp [hc]
 rw [hfast]
 dsimp only [List.lookup]
 refine wpAny_bind (wpAny_bind ?_)
 rw [if_neg (by intro h; cases h)]
 simp only [if_true]
 refine wpAny_bind (look_text hm hf fun tk => ?_)
 dsimp only
 rw [if_neg (by intro h; cases h)]
 refine wpAny_bind (wpAny_pure ?_)
 dsimp only
 refine wpAny_bind (wpAny_rule ?_)
 rw [if_neg (by intro h; cases h)]
 refine wpAny_bind (look_text (hm : Heap.MapOf (intKind prog w) _ d f) hf fun tk' => ?_)
 dsimp only
 refine wpAny_pure (wpAny_pure ?_)
 dsimp only
 rw [if_neg (by intro h; cases h)]
 exact retStr_ok (by show (2:Nat) ≤ sizeLine; decide) fun t' tk'' => h tk'' t'
end
end Mine
namespace Mine
open PySem PySem.Calls PyProof.Rows PySem.W
section
variable {G : Gd} {k n : Nat} {cf : Cf} {A : Around} {X : List Addr} {s : Shared} {env : Env} {K : Kn} {ρ : Rho}
theorem evL_star {n : Nat} {cf : Cf} {K : Kn} {ρ : Rho} {a : Expr} {as : List Expr} {ds : List D} (ha : evL cf n K ρ (a :: as) = some ds) (env : Env) : starEach (a :: as) env = (false, eval a env) :: starEach as env := by
 cases n with
 | zero => unfold evL at ha; cases ha
 | succ n =>
  unfold evL at ha; dsimp only at ha
  split at ha
  ·rename_i q; exact evD_star q as env
  ·cases ha
theorem callN_blt (ok : CfOk G cf k) (c : Cxt G k A X s env K ρ) {f : Str} {p pos : Pos} {a : Expr} {as : List Expr} {id : String} {ds : List D} (hf : evD cf n K ρ (.Name f p) = some (.blt id)) (ha : evL cf n K ρ (a :: as) = some ds) {Q E}
  (h : ∀ s₁ vs, Gr G s s₁ → All2 (Rv G.C X s₁.heap) ds vs → wpAny (model G.prog G.w) A (call (.builtin id) vs) Q E s₁) : wpAny (model G.prog G.w) A (eval (.Call (.Name f p) (a :: as) [] pos) env) Q E s := by
 refine PyProof.Rows.Call_ (((sound ok n).ev _ _ _ _ hf A X s env c).post fun fv s₁ g₁ r => ?_)
 have := r.blt; subst this
 have c₁ := c.gr g₁
 have pl := (evL_plain ha pos env).2
 have st := evL_star ha env
 rw [st] at pl
 refine callWith_builtin1 (wpAny_mono ((sound ok n).ls _ _ _ _ ha A X s₁ env pos c₁ _) (fun vs s₂ h₂ => h s₂ vs (g₁.trans h₂.1) h₂.2) fun _ _ e => e) st (by simpa [backTo] using pl)
theorem callN_typ (ok : CfOk G cf k) (c : Cxt G k A X s env K ρ) {f : Str} {p pos : Pos} {a : Expr} {as : List Expr} {id : String} {ds : List D} (hf : evD cf n K ρ (.Name f p) = some (.typ id)) (ha : evL cf n K ρ (a :: as) = some ds) {Q E}
  (h : ∀ s₁ vs, Gr G s s₁ → All2 (Rv G.C X s₁.heap) ds vs → wpAny (model G.prog G.w) A (call (.type id) vs) Q E s₁) : wpAny (model G.prog G.w) A (eval (.Call (.Name f p) (a :: as) [] pos) env) Q E s := by
 refine PyProof.Rows.Call_ (((sound ok n).ev _ _ _ _ hf A X s env c).post fun fv s₁ g₁ r => ?_)
 have := r.typ; subst this
 have c₁ := c.gr g₁
 have pl := (evL_plain ha pos env).2
 have st := evL_star ha env
 rw [st] at pl
 refine PyProof.Rows.callWith_type1 (wpAny_mono ((sound ok n).ls _ _ _ _ ha A X s₁ env pos c₁ _) (fun vs s₂ h₂ => h s₂ vs (g₁.trans h₂.1) h₂.2) fun _ _ e => e) st (by simpa [backTo] using pl)
theorem callN_fun (ok : CfOk G cf k) (c : Cxt G k A X s env K ρ) {f : Str} {p pos : Pos} {a : Expr} {as : List Expr} {b : Addr} {o : Obj} {fd : FuncData} {ds : List D} (hf : evD cf n K ρ (.Name f p) = some (.opq b)) (ho : G.hb.get? b = some o) (hd : o.data = .func fd) (ha : evL cf n K ρ (a :: as) = some ds) {Q E}
  (h : ∀ s₁ vs, Gr G s s₁ → All2 (Rv G.C X s₁.heap) ds vs → wpAny (model G.prog G.w) A (call (.ref b) vs) Q E s₁) : wpAny (model G.prog G.w) A (eval (.Call (.Name f p) (a :: as) [] pos) env) Q E s := by
 refine PyProof.Rows.Call_ (((sound ok n).ev _ _ _ _ hf A X s env c).post fun fv s₁ g₁ r => ?_)
 have := r.opq; subst this
 have c₁ := c.gr g₁
 have st := evL_star ha env
 refine callWith_def (o := o) (fd := fd) hd (wpAny_mono ((sound ok n).ls _ _ _ _ ha A X s₁ env pos c₁ _) (fun vs s₂ h₂ => ⟨(c₁.gr h₂.1).cx.hb _ _ ho, h s₂ vs (g₁.trans h₂.1) h₂.2⟩) fun _ _ e => e) st
def FnC (G : Gd) (k : Nat) (a : Addr) (ds : List D) (d : D) : Prop := ∀ A X s vs, Room k A → Cx G s.heap → XOk G X s.heap → RdL G.C X s.heap ds vs →
  ∀ E, wpAny (model G.prog G.w) A (call (.ref a) vs) (fun v s' => Gr G s s' ∧ Rd G.C X s'.heap d v) E s
theorem Room.le {k k' : Nat} {A : Around} (h : k ≤ k') (r : Room k' A) : Room k A := ⟨r.hh, by have := r.depth; omega, by have := r.units; omega⟩
theorem FnC.le {k k' : Nat} {a : Addr} {ds : List D} {d : D} (h : k ≤ k') (f : FnC G k a ds d) : FnC G k' a ds d := fun A X s vs r => f A X s vs (r.le h)
theorem fn_hand {a : Addr} {o : Obj} {fd : FuncData} {body : List Stmt} {K : Kn} {ps : List Str} (fr : FnRec G a o fd body K ps) {ds : List D} {d : D} (hlen : ds.length = ps.length)
  (h : ∀ A X Y s env, StC G k A X Y s env K (rho0 K ps ds) → ∀ E, wpAny (model G.prog G.w) A (execs body env) (PostX G k A X env K Y s (.ret d)) E s) : FnC G (k + 1) a ds d := by
 intro A X s vs room cx xok r E
 refine wpAny_call (enter fr room cx xok r hlen fun env Y s₁ g fresh c => ?_)
 refine wpAny_mono (h _ X Y s₁ env c _) (fun f s' p => ?_) fun _ _ e => e
 obtain ⟨Y', t, v, rfl, rd⟩ := p
 exact ⟨⟨fun b o hT e => t.grb.heap b o hT (fun q => by rw [fresh b q] at e; cases e) (g.heap b o hT e), fun z => t.grb.ti (g.ti z), t.grb.os.trans g.os, fun z => t.grb.bare (g.bare z)⟩, rd⟩
end
theorem zA {cf : Cf} {n : Nat} {K : Kn} {ρ : Rho} {x : Str} {p : Pos} {d : D} (hx : zO x = true) (hl : ρ.lookup x = some d) (hp : d.pure = true) : evD cf (n + 1) K ρ (.Name x p) = some d := by
 unfold evD; dsimp only
 unfold zO at hx
 rw [if_neg (by simpa using hx), hl]
 cases d <;> first | rfl | cases hp
theorem zB {cf : Cf} {n : Nat} {K : Kn} {ρ : Rho} {x : Str} {p : Pos} {d : D} (hx : zO x = true) (hl : ρ.lookup x = none) (hk : K.lookup x = some .globalImplicit) (hg : cf.Γ x = some d) : evD cf (n + 1) K ρ (.Name x p) = some d := by
 unfold evD; dsimp only
 unfold zO at hx
 rw [if_neg (by simpa using hx), hl, hk]
 exact hg
theorem zD {cf : Cf} {n : Nat} {K : Kn} {ρ : Rho} : evL cf (n + 1) K ρ [] = some [] := by unfold evL; rfl
theorem zC {cf : Cf} {n : Nat} {K : Kn} {ρ : Rho} {e : Expr} {es : List Expr} {d : D} {ds : List D} (h : evD cf n K ρ e = some d) (hs : evL cf n K ρ es = some ds) : evL cf (n + 1) K ρ (e :: es) = some (d :: ds) := by unfold evL; dsimp only; rw [h]; dsimp only; rw [hs]
theorem callN_str {G : Gd} {k n : Nat} {cf : Cf} {A : Around} {X : List Addr} {s : Shared} {env : Env} {K : Kn} {ρ : Rho} (ok : CfOk G cf k) (c : Cxt G k A X s env K ρ) {o a : Expr} {name : Str} {id : String} {apos pos : Pos} {as : List Expr} {x : Str} {ds : List D} (hc : isCN o = true) (hp : (apos.endLine == pos.line) = true) (hl : as.length ≤ 20)
  (ho : evD cf n K ρ o = some (.str x)) (ha : evL cf n K ρ (a :: as) = some ds) (sl : Slot "str" name id) (ty : typeOf (.builtin id) = pure (.type "method_descriptor")) {Q E}
  (h : ∀ s₁ vs t, Gr G s s₁ → All2 (Rv G.C X s₁.heap) ds vs → wpAny (model G.prog G.w) A (call (.builtin id) (.str x t :: vs)) Q E s₁) : wpAny (model G.prog G.w) A (eval (.Call (.Attribute o name apos) (a :: as) [] pos) env) Q E s := by
 have st := evL_star ha env
 have pl := evL_plain ha pos env
 have I := sound ok n
 refine wpAny_Call_method_lateS (isCN_base hc _ _ _) ?_ hp ((I.ev _ _ _ _ ho A X s env c).post fun ov s₁ g₁ r => ?_)
 ·rw [pl.1]
  simp [keywordEach, backToKw]
  omega
 ·have c₁ := c.gr g₁
  obtain ⟨t, rfl⟩ := r.str
  have pl2 := pl.2
  rw [st] at pl2 ⊢
  have args := I.ls _ _ _ _ ha A X s₁ env pos c₁ E
  rw [st] at args
  refine ⟨"str", id, F.plainAttrs_str, sl, ty, typeIs_str _ _ _, (fun _ e => nomatch e), callWith_builtin pl2 (evalArgs_plain (wpAny_mono args (fun vs s₂ h₂ => ?_) fun _ _ e => e))⟩
  exact h s₂ vs t (g₁.trans h₂.1) h₂.2
theorem b9 : ∃ p1 p2 p3 p4 p5 p6 p7 p8 p9 p10 els, (p6.endLine == p8.line) = true ∧ pBody 9 = [.If (.Call (.Name "isinstance" p1) [.Name "pattern" p2, .Name "str" p3] [] p4) [.Return (some (.Call (.Attribute (.Name "pattern" p5) "translate" p6) [.Name "_special_chars_map" p7] [] p8)) p9] els p10] :=
 ⟨_, _, _, _, _, _, _, _, _, _, _, by decide, rfl⟩
set_option maxHeartbeats 1000000 in
theorem escape_ok {G : Gd} {k : Nat} {cf : Cf} {o : Obj} {fd : FuncData} (ok : CfOk G cf k) (fr : FnRec G 83 o fd (pBody 9) (pNames 9) ["pattern"])
  (h1 : cf.Γ "isinstance" = some (.blt "isinstance")) (h2 : cf.Γ "str" = some (.typ "str")) (h3 : cf.Γ "_special_chars_map" = some (.opq 73)) (hsys : ((73 : Addr) == sysModules) = false)
  {f : Int → Option Value} (hm : G.hb.MapOf (intKind G.prog G.w) 73 f) {c : Nat} (hc : c < 128) {y : Str} (hy : (f c = none ∧ y = (⟨#[c]⟩ : Str)) ∨ ∃ a b u, f c = some (.str (⟨#[a, b]⟩ : Str) u) ∧ y = (⟨#[a, b]⟩ : Str)) :
  FnC G (k + 1) 83 [.str ⟨#[c]⟩] (.str y) := by
 refine fn_hand fr rfl fun A X Y s env cc E => ?_
 obtain ⟨p1, p2, p3, p4, p5, p6, p7, p8, p9, p10, els, hp, eb⟩ := b9
 rw [eb]
 generalize hρ : (rho0 (pNames 9) ["pattern"] [D.str ⟨#[c]⟩] : Rho) = ρ at cc
 have lp : ρ.lookup ("pattern" : Str) = some (D.str ⟨#[c]⟩) := by rw [← hρ]; rfl
 have l1 : ρ.lookup ("isinstance" : Str) = none := by rw [← hρ]; rfl
 have l2 : ρ.lookup ("str" : Str) = none := by rw [← hρ]; rfl
 have l3 : ρ.lookup ("_special_chars_map" : Str) = none := by rw [← hρ]; rfl
 have k1 : (pNames 9).lookup ("isinstance" : Str) = some .globalImplicit := by decide
 have k2 : (pNames 9).lookup ("str" : Str) = some .globalImplicit := by decide
 have k3 : (pNames 9).lookup ("_special_chars_map" : Str) = some .globalImplicit := by decide
 generalize pNames 9 = K at *
 refine wpAny_execs_cons (wpAny_If (isTrue_plain ?_))
 refine callN_blt (n := 5) ok cc.cxt (zB (by decide) l1 k1 h1) (zC (zA (by decide) lp rfl) (zC (zB (by decide) l2 k2 h2) zD)) fun s₁ vs g₁ r => ?_
 obtain - | ⟨r1, r⟩ := r
 obtain - | ⟨r2, r⟩ := r
 obtain - | _ := r
 obtain ⟨t, rfl⟩ := r1.str
 have := r2.typ; subst this
 refine IsiPair.str_str (wpAny_truthy_bool ?_)
 simp only [if_true]
 have c₁ := cc.gr g₁
 refine wpAny_execs_cons (wpAny_Return_some ?_)
 refine callN_str (n := 5) ok c₁.cxt rfl hp (by simp) (zA (by decide) lp rfl) (zC (zB (by decide) l3 k3 h3) zD) F.slot_str_translate F.type_str_translate fun s₂ vs t g₂ r => ?_
 obtain - | ⟨r1, r⟩ := r
 obtain - | _ := r
 have := r1.opq; subst this
 have c₂ := c₁.gr g₂
 have hm₂ : s₂.heap.MapOf (intKind G.prog G.w) 73 f := by
  obtain ⟨o, es, ep, e, q⟩ := hm
  exact ⟨o, es, ep, c₂.cx.hb _ _ e, q⟩
 have g02 := g₁.trans g₂
 rcases hy with ⟨hf, rfl⟩ | ⟨a, b, u, hf, rfl⟩
 ·refine translate_keep hc hsys c₂.room.hh hm₂ hf fun h' tk t' kp => ?_
  exact ⟨Y, Stp.gr (g02.trans (Gr.of kp)), _, rfl, Rd.str'⟩
 ·refine translate_text hc hm₂ hf fun tk t' => ?_
  exact ⟨Y, Stp.gr (g02.trans Gr.tok), _, rfl, Rd.str'⟩
end Mine
namespace Mine
open PySem PySem.Calls PyProof.Rows PySem.W
structure NodeCls (Kf : Frag) (C fI : Addr) : Prop where
 makes : makesIn Kf C = true
 keep : keepIn Kf (.ref C) = true
 init : findIn Kf (.ref C) "__init__" = some (some (.ref fI))
 fn : typeIn Kf (.ref fI) = some (.type "function")
 over : plainOver Kf C = true
 tag : takerIn Kf C "tag" = some none
 root : takerIn Kf C "root" = some none
 set : findIn Kf (.ref C) "__setattr__" = some (some (.builtin "object.__setattr__"))
 has : (clsIn Kf C).any (·.hasDict) = true
 has' : hasDictIn Kf C = true
 getT : plainGet Kf C "tag" = true
 getR : plainGet Kf C "root" = true
 noT : findIn Kf (.ref C) "tag" = some none
 noR : findIn Kf (.ref C) "root" = some none
theorem notTK_dict {c d es n sl} : ¬ TK ⟨c, d, .dict es n, sl⟩ := fun ⟨us, q, _⟩ => by cases q
section
variable {prog : Program} {w : World} {A : Around} {s : Shared} {Kf : Frag} {C x dx : Addr} {name : Str} {v : Value} {es : List DictEntry} {es' : Tok → List DictEntry} {n n' : Nat}
theorem inst_at (hx : s.heap.get? x = some (instObj C dx)) (hd : s.heap.get? dx = some (dictOf es n)) : InstAt s.heap x (instObj C dx) C (some (dictOf es n)) := ⟨hx, rfl, rfl, hd⟩
theorem osa_mine {tk : Tok} {R : Result → Shared → Prop} (X : Kf.In s.heap) (hx : s.heap.get? x = some (instObj C dx)) (hd : s.heap.get? dx = some (dictOf es n)) (hp : plainOver Kf C = true) (ht : takerIn Kf C name = some none)
  (hh : (clsIn Kf C).any (·.hasDict) = true) (hl : (lookIn name (dictOf es n)).isSome = true) (e : ∀ tk, Obj.putName name (PyData.keyHash w.params name) (.str name tk) v (dictOf es n) = dictOf (es' tk) n') (hz : ∀ tk, (es' tk).length ≤ 1000)
  (h : ∀ h' tk, Heap.SameBut dx s.heap h' → h'.get? dx = some (dictOf (es' tk) n') → R (.ok (.ret .none)) { s with heap := h', toks := s.toks + 1 }) :
  codeAny (model prog w) A (.call (.builtin "object.__setattr__") ⟨[.ref x, .str name tk, v], []⟩) R s := by
 refine osa_open X (inst_at hx hd) hp ht fun b => ?_
 obtain ⟨cd, hc, hd'⟩ := any_some hh
 have D' : (s.heap.update dx (Obj.putName name (PyData.keyHash w.params name) (.str name s.toks) v)).get? dx = some (dictOf (es' s.toks) n') := by
  have := Heap.get?_update_self (Obj.putName name (PyData.keyHash w.params name) (.str name s.toks) v) hd (by rw [e]; rfl)
  rw [this, e]
 refine wpAny_bind (wpAny_pure (wpAny_bind (wpAny_bind (wpAny_loadPart hx (wpAny_bind ((looks_clsIn X hc).here ?_))))))
 rw [hd']
 refine wpAny_pure (a := some dx) (wpAny_bind (wpAny_pure (wpAny_bind ?_)))
 unfold nsSet
 refine wpAny_bind (wpAny_bind (wpAny_askSetting (wpAny_pure (wpAny_bind (wpAny_mkText (wpAny_bind (wpAny_loadPart hd ?_)))))))
 dsimp only
 have c : (!es.toArray.any (·.key.isStr name) && es.toArray.any (·.refKey)) = false := by
  rw [lookIn_dict] at hl
  unfold getL at hl
  simp only [List.any_toArray]
  split at hl
  ·rename_i en he
   rw [List.any_eq_true.mpr ⟨en, List.mem_of_find?_eq_some he, List.find?_some he⟩]; rfl
  ·split at hl
   ·cases hl
   ·rename_i z; rw [Bool.not_eq_true] at z; rw [z, Bool.and_false]
 rw [aRefKeyMayBeTheName_at, c]
 refine wpAny_updatePart hd ?_
 refine wpAny_bind (wpAny_lookBehind D' (pastItsLine_dict (by rw [List.size_toArray, sizeLine_eq]; have := hz s.toks; omega)) ?_)
 exact wpAny_pure (h _ _ (Heap.SameBut.update _ _ _) D')
theorem set_mine {E : Value → Shared → Prop} {Q : Unit → Shared → Prop} (X : Kf.In s.heap) (hs : findIn Kf (.ref C) "__setattr__" = some (some (.builtin "object.__setattr__"))) (hx : s.heap.get? x = some (instObj C dx)) (hd : s.heap.get? dx = some (dictOf es n)) (hp : plainOver Kf C = true) (ht : takerIn Kf C name = some none)
  (hh : (clsIn Kf C).any (·.hasDict) = true) (hl : (lookIn name (dictOf es n)).isSome = true) (e : ∀ tk, Obj.putName name (PyData.keyHash w.params name) (.str name tk) v (dictOf es n) = dictOf (es' tk) n') (hz : ∀ tk, (es' tk).length ≤ 1000)
  (h : ∀ h' tk t, Heap.SameBut dx s.heap h' → h'.get? dx = some (dictOf (es' tk) n') → Q () { s with heap := h', toks := t }) :
  wpAny (model prog w) A (setAttr (.ref x) name v) Q E s := by
 refine set_plain X (inst_at hx hd) hs ?_
 exact osa_mine (s := { s with toks := s.toks + 1 }) X hx hd hp ht hh hl e hz fun h' tk a b => h h' tk _ a b
end
section
variable {G : Gd} {k : Nat} {A : Around} {Xc Y Y' : List Addr} {s s' s₁ : Shared} {env : Env} {K : Kn} {ρ : Rho}
theorem StC.grow (c : StC G k A Xc Y s env K ρ) (g : Gr G s s₁) {a : Addr} (ha : s.heap.get? a = none) (nt : NT s₁.heap a) : Stp G Y s (a :: Y) s₁ ∧ StC G k A Xc (a :: Y) s₁ env K ρ := by
 have aX : a ∉ Y ++ Xc := c.xok.none ha
 have c₁ := c.gr g
 obtain ⟨m, W, e, hW⟩ := c.ex
 have e₁ := e.gr c.xok c.cx g
 refine ⟨⟨fun _ h => .tail _ h, fun b hb => (List.mem_cons.mp hb).elim (fun q => .inr (by rw [q]; exact ha)) .inl, g.b⟩, c.room, c₁.cx, ?_, c.xc, ⟨m, W, ?_, fun x b h => .tail _ (hW x b h)⟩, .tail _ c.loc, ?_, c.apart, ?_, ?_, ?_, c.celX, c.noFree⟩
 ·refine ⟨fun b hb => List.mem_append_right _ (c.xc b hb), fun b hb => ?_⟩
  rcases List.mem_append.mp hb with hb | hb
  ·rcases List.mem_cons.mp hb with rfl | hb
   ·obtain ⟨o, ho, _⟩ := nt; exact ⟨o, ho⟩
   ·exact c₁.xok.live b (List.mem_append_left _ hb)
  ·exact c₁.xok.live b (List.mem_append_right _ hb)
 ·have kX : ∀ b o, b ∉ Y ++ Xc → s.heap.get? b = some o → b ∉ (a :: Y) ++ Xc ∧ s₁.heap.get? b = some o := fun b o hb e => ⟨fun q => by
   rcases List.mem_append.mp q with q | q
   ·rcases List.mem_cons.mp q with q | q
    ·rw [q, ha] at e; cases e
    ·exact hb (List.mem_append_left _ q)
   ·exact hb (List.mem_append_right _ q), g.heap b o (fun t => hb (c.xok.tabs b t)) e⟩
  refine e.move e₁.ns kX (fun x b vs j hw hb hg => ⟨?_, g.heap b _ (c.cx.notTab hg zI) hg⟩) fun x cc u _ hc hcell => IsCell.at' hcell fun o e => g.heap _ o ((NT.cell hcell).notTab c.cx.ti) e
  rcases List.mem_append.mp hb with q | q
  ·exact List.mem_append_left _ (.tail _ q)
  ·exact List.mem_append_right _ q
 ·intro x cc h1 h2
  obtain ⟨q, u⟩ := c₁.cel x cc h1 h2
  exact ⟨.tail _ q, u⟩
 ·intro y hy
  rcases List.mem_cons.mp hy with rfl | hy
  ·exact nt
  ·exact c₁.nt y hy
 ·intro b hb
  rcases List.mem_cons.mp hb with rfl | hb
  ·exact fun q => aX (List.mem_append_right _ q)
  ·exact c.dis b hb
 ·intro b hb
  rcases List.mem_cons.mp hb with q | hb
  ·subst q
   cases z : G.hb.get? b with
   | none => rfl
   | some o => rw [c.cx.hb b o z] at ha; cases ha
  ·exact c.hbY b hb
theorem StC.change (c : StC G k A Xc Y s env K ρ) {a : Addr} (ha : a ∈ Y) (hl : env.locals ≠ a) (hcl : ∀ x cc, K.lookup x = some .cell → env.cells.lookup x = some cc → cc ≠ a) {o o' : Obj} (ho : s.heap.get? a = some o) (hls : ∀ vs n, o ≠ lstObj vs n) {h' : Heap} {t : Nat} (hs : Heap.SameBut a s.heap h') (ho' : h'.get? a = some o') (nt' : ¬ TK o') :
  Stp G Y s Y { s with heap := h', toks := t } ∧ StC G k A Xc Y { s with heap := h', toks := t } env K ρ := by
 have nT : NT s.heap a := c.nt a ha
 have nT' : NT h' a := ⟨o', ho', nt'⟩
 obtain ⟨m, W, e, hW⟩ := c.ex
 have stp : Stp G Y s Y { s with heap := h', toks := t } := ⟨fun _ h => h, fun _ h => .inl h, (GrB.same hs nT).mono fun y hy => by rw [List.mem_singleton.mp hy]; exact ha⟩
 refine ⟨stp, c.room, stp.cx c.cx c.hbY, c.xok.same hs nT', c.xc, ⟨m, W, ?_, hW⟩, c.loc, ?_, c.apart, fun y hy => (c.nt y hy).same hs nT', c.dis, c.hbY, c.celX, c.noFree⟩
 ·refine e.move (e.ns.at' fun o e => SameBut.up hs hl e) (fun b o hb e => ⟨hb, SameBut.up hs (fun q => hb (by rw [q]; exact List.mem_append_left _ ha)) e⟩) (fun x b vs j hw hb hg => ⟨hb, SameBut.up hs (fun q => ?_) hg⟩) fun x cc u hq hc hcell => IsCell.at' hcell fun o e2 => SameBut.up hs (hcl x cc (by
   unfold Env.kindOf at hq; rw [e.k.names] at hq
   exact hq.resolve_right (c.noFree x)) hc) e2
  subst q
  rw [hg] at ho; cases ho
  exact hls _ _ rfl
 ·intro x cc h1 h2
  obtain ⟨q, u, z⟩ := c.cel x cc h1 h2
  exact ⟨q, u, IsCell.at' z fun o e => SameBut.up hs (hcl x cc h2 h1) e⟩
end
end Mine
namespace Mine
open PySem PySem.Calls PyProof.Rows PySem.W
theorem room_tc {k : Nat} {A : Around} {C : Addr} {r : List Value} (h : Room (k + 1) A) : Room k (A.under (.builtin "type.__call__" ⟨.ref C :: r, []⟩)) := by
 have w : (Code.builtin "type.__call__" ⟨.ref C :: r, []⟩).weight = 1 := by
  simp [Code.weight, Code.frames, Code.isCreation, Code.isGuard, Code.isCaller, Code.isFrame]
  decide
 have u : (Code.builtin "type.__call__" ⟨.ref C :: r, []⟩).cUnits = 1 := by
  simp [Code.cUnits, Code.frames, Code.isFrame]
 refine ⟨h.hh, ?_, ?_⟩
 ·show A.depth + _ + 2 * k < _
  rw [w]; have := h.depth; omega
 ·show A.units + _ + 40 * k + 100 < _
  rw [u]; have := h.units; omega
section
variable {G : Gd} {k n : Nat} {cf : Cf} {A : Around} {X : List Addr} {s : Shared} {env : Env} {K : Kn} {ρ : Rho} {Kf : Frag} {C fI : Addr} {o : Obj} {fd : FuncData}
abbrev kInit : Kn := [(("self" : Str), .local), (("root" : Str), .local)]
abbrev bInit (p1 p2 p3 p4 : Pos) : List Stmt := [.Assign [.Attribute (.Name "self" p1) "root" p2] (.Name "root" p3) p4]
theorem put_root (H : Int) (kt : Tok) (v : Value) : Obj.putName "root" H (.str "root" kt) v (dictOf [] 0) = dictOf [⟨H, .str "root" kt, v⟩] 1 := rfl
theorem put_tag (H H' : Int) (kt kt' : Tok) (v v' : Value) : Obj.putName "tag" H' (.str "tag" kt') v' (dictOf [⟨H, .str "root" kt, v⟩] 1) = dictOf [⟨H, .str "root" kt, v⟩, ⟨H', .str "tag" kt', v'⟩] 2 := rfl
theorem put_tag2 (H H' H'' : Int) (kt kt' kt'' : Tok) (v v' v'' : Value) : Obj.putName "tag" H'' (.str "tag" kt'') v'' (dictOf [⟨H, .str "root" kt, v⟩, ⟨H', .str "tag" kt', v'⟩] 2) = dictOf [⟨H, .str "root" kt, v⟩, ⟨H', .str "tag" kt', v''⟩] 2 := rfl
theorem new_node (ok : CfOk G cf k) (X₀ : Kf.In G.hb) (NC : NodeCls Kf C fI) {p1 p2 p3 p4 : Pos} (fr : FnRec G fI o fd (bInit p1 p2 p3 p4) kInit ["self", "root"]) (room : Room (k + 2) A) (cx : Cx G s.heap) (xok : XOk G X s.heap) {i : Int} {v : Value} (r : Rd G.C X s.heap (.int i) v) {Q : Value → Shared → Prop} {E : Value → Shared → Prop}
  (hQ : ∀ x dx s' H kt t, Gr G s s' → s.heap.get? x = none → s.heap.get? dx = none → x ≠ dx → s'.heap.get? x = some (instObj C dx) → s'.heap.get? dx = some (dictOf [⟨H, .str "root" kt, .int i t⟩] 1) → Q (.ref x) s') :
  wpAny (model G.prog G.w) A (call (.ref C) [v]) Q E s := by
 have Xs : Kf.In s.heap := X₀.keeps cx.hb
 refine wpAny_call ?_
 obtain ⟨hh, g, d, t, os⟩ := s
 refine make_core (makes_of Xs NC.makes) (looks_findIn Xs NC.init) (fun self => bind_fn Xs self NC.fn) (.inl rfl) ?_
 generalize hh2 : (hh.push emptyDict).push (instObj C hh.objs.size) = h2
 have gx : h2.get? (hh.objs.size + 1) = some (instObj C hh.objs.size) := by rw [← hh2]; heap_get
 have gd : h2.get? hh.objs.size = some (dictOf [] 0) := by rw [← hh2]; exact Heap.get?_push_of_some _ (Heap.get?_push_at rfl rfl)
 have kp : ∀ b o, hh.get? b = some o → h2.get? b = some o := fun b o e => by rw [← hh2]; exact Heap.get?_push_of_some _ (Heap.get?_push_of_some _ e)
 have g1 : Gr G ⟨hh, g, d, t, os⟩ ⟨h2, g, d, t, os⟩ := Gr.of (tk := t) kp
 have cx1 := g1.cx cx
 have xok1 := xok.gr cx.ti g1
 have r1 := r.gr xok.tabs g1
 refine enter (k := k) fr (room_tc (k := k + 1) room) cx1 xok1 (RdL.cons Rd.opq' (RdL.cons r1 .nil)) rfl fun env Y s₁ g2 fresh c => ?_
 have cc := c.cxt
 generalize hρ : (rho0 kInit ["self", "root"] [D.opq (hh.objs.size + 1), .int i] : Rho) = ρ at cc
 have l1 : ρ.lookup ("self" : Str) = some (.opq (hh.objs.size + 1)) := by rw [← hρ]; rfl
 have l2 : ρ.lookup ("root" : Str) = some (.int i) := by rw [← hρ]; rfl
 have gg := g1.trans g2
 have notT : ∀ (a : Addr) (o : Obj), h2.get? a = some o → ¬ TK o → a ∉ G.T := fun a o e n => cx1.notTab e n
 have gd1 : s₁.heap.get? hh.objs.size = some (dictOf [] 0) := g2.heap _ _ (notT _ _ gd notTK_dict) gd
 have gx1 : s₁.heap.get? (hh.objs.size + 1) = some (instObj C hh.objs.size) := g2.heap _ _ (notT _ _ gx fun ⟨vs, q, _⟩ => by cases q) gx
 refine wpAny_execs_cons (plainObj_wpAny_Assign_Attribute ?_)
 refine ((sound ok 5).ev _ _ _ _ (zA (by decide) l2 rfl) _ _ s₁ env cc).post fun vv s₂ g3 r2 => ?_
 have cc2 := cc.gr g3
 obtain ⟨tt, rfl⟩ := r2.int
 refine ((sound ok 5).ev _ _ _ _ (zA (by decide) l1 rfl) _ _ s₂ env cc2).post fun vv s₃ g4 r3 => ?_
 have cc3 := cc2.gr g4
 have := r3.opq; subst this
 have g34 := g3.trans g4
 have gd3 : s₃.heap.get? hh.objs.size = some (dictOf [] 0) := g34.heap _ _ (cc.cx.notTab gd1 notTK_dict) gd1
 have gx3 : s₃.heap.get? (hh.objs.size + 1) = some (instObj C hh.objs.size) := g34.heap _ _ (cc.cx.notTab gx1 fun ⟨vs, q, _⟩ => by cases q) gx1
 refine set_mine (Kf := Kf) (X₀.keeps cc3.cx.hb) NC.set gx3 gd3 NC.over NC.root NC.has (by rfl) (es' := fun kt => [⟨PyData.keyHash G.w.params "root", .str "root" kt, .int i tt⟩]) (n' := 1) (fun tk => put_root _ _ _) (fun tk => by simp) fun h' tk t' hs hd' => ?_
 refine wpAny_execs_nil ⟨rfl, ?_⟩
 have g14 := gg.trans g34
 have nTd : hh.objs.size ∉ G.T := notT _ _ gd notTK_dict
 refine hQ (hh.objs.size + 1) hh.objs.size _ _ _ _ ?_ (zF (Nat.le_succ _)) (zF (Nat.le_refl _)) (Nat.succ_ne_self _) (SameBut.up hs (Nat.succ_ne_self _) gx3) hd'
 refine ⟨fun b o hb e => SameBut.up hs (fun q => ?_) (g14.heap b o hb e), fun ti => G.frame _ _ (g14.ti ti) fun b o tk e => SameBut.up hs (fun q => ?_) e, g14.os, g14.bare⟩
 ·subst q
  rw [zF (Nat.le_refl _)] at e; cases e
 ·subst q
  rw [gd3] at e; cases e
  exact notTK_dict tk
end
end Mine
namespace Mine
open PySem PySem.Calls PyProof.Rows PySem.W
def tagS (sp wd : Str) : Str := if sp = ("" : Str) then wd else (("{" : Str) ++ sp ++ ("}" : Str)) ++ wd
theorem evD_if {cf : Cf} {n : Nat} {K : Kn} {ρ : Rho} {t b o : Expr} {p : Pos} {c : Bool} {d : D} (h : tsD cf n K ρ t = some c) (h' : evD cf n K ρ (if c then b else o) = some d) : evD cf (n + 1) K ρ (.IfExp t b o p) = some d := by
 unfold evD; dsimp only; rw [h]; cases c <;> exact h'
theorem evD_bin {cf : Cf} {n : Nat} {K : Kn} {ρ : Rho} {l r : Expr} {op : Operator} {p : Pos} {a b d : D} (h1 : evD cf n K ρ l = some a) (h2 : evD cf n K ρ r = some b) (h3 : binD op a b = some d) : evD cf (n + 1) K ρ (.BinOp l op r p) = some d := by
 unfold evD; dsimp only; rw [h1, h2]; exact h3
theorem tsD_cmp {cf : Cf} {n : Nat} {K : Kn} {ρ : Rho} {l r : Expr} {op : CmpOp} {p : Pos} {a b : D} {c : Bool} (h1 : evD cf n K ρ l = some a) (h2 : evD cf n K ρ r = some b) (h3 : cmpD op a b = some c) : tsD cf (n + 1) K ρ (.Compare l [op] [r] p) = some c := by
 unfold tsD; dsimp only; rw [h1, h2]; exact h3
theorem evD_sub {cf : Cf} {n : Nat} {K : Kn} {ρ : Rho} {v : Expr} {i : Int} {k : Nat} {p q : Pos} {a d : D} (h1 : evD cf (n + 1) K ρ v = some a) (h3 : idxD a (.int i) = some d) : evD cf (n + 2) K ρ (.Subscript v (.Constant (.int i) k q) p) = some d := by
 unfold evD; dsimp only; rw [h1]; exact h3
theorem evD_str {cf : Cf} {n : Nat} {K : Kn} {ρ : Rho} {x : Str} {k : Nat} {p : Pos} : evD cf (n + 1) K ρ (.Constant (.str x) k p) = some (.str x) := rfl
theorem evD_none {cf : Cf} {n : Nat} {K : Kn} {ρ : Rho} {k : Nat} {p : Pos} : evD cf (n + 1) K ρ (.Constant .none k p) = some .none := rfl
theorem add_strD {x y : Str} (h : x.length + y.length ≤ bigD) : binD .Add (.str x) (.str y) = some (.str (x ++ y)) := by
 unfold binD; dsimp only
 rw [show Nat.ble (x.length + y.length) bigD = true from Nat.ble_eq_true_of_le h]
theorem b20 : ∃ p1 p2 p3 p4 q1 q2 q3 q4 q5 t1 t2 e1 q6 q7 q8 q9 r1 r2 r3,
  pBody 20 = [.Assign [.Name "made" p1] (.Call (.Name "_SelectorContext" p2) [.Name "number" p3] [] p4) q1,
   .Assign [.Attribute (.Name "made" q2) "tag" q3] (.Constant .none 0 q4) q5,
   .If (.Compare (.Name "name" t1) [.IsNot] [.Constant .none 0 t2] e1) [.Assign [.Attribute (.Name "made" q6) "tag" q7] r1 q8] [] q9,
   .Return (some (.Name "made" r2)) r3] ∧ (∀ a l (env : Env), swapsWith r1 (some a) l env = pure false) ∧
   ∀ (cf : Cf) (K : Kn) (ρ : Rho) sp wd, ρ.lookup ("name" : Str) = some (.tup [.str sp, .str wd]) → sp.length ≤ 1000 → wd.length ≤ 1000 → evD cf 8 K ρ r1 = some (.str (tagS sp wd)) := by
 refine ⟨_, _, _, _, _, _, _, _, _, _, _, _, _, _, _, _, _, _, _, rfl, ?_, ?_⟩
 ·intro a l env; rfl
 ·intro cf K ρ sp wd h h1 h2
  have nm : ∀ n p, evD cf (n + 1) K ρ (.Name "name" p) = some (.tup [.str sp, .str wd]) := fun n p => zA (by decide) h rfl
  have i0 : ∀ n p q r, evD cf (n + 2) K ρ (.Subscript (.Name "name" p) (.Constant (.int 0) 0 q) r) = some (.str sp) := fun n p q r => evD_sub (nm _ _) rfl
  have i1 : ∀ n p q r, evD cf (n + 2) K ρ (.Subscript (.Name "name" p) (.Constant (.int 1) 0 q) r) = some (.str wd) := fun n p q r => evD_sub (nm _ _) rfl
  have hb : bigD = 1000000 := rfl
  refine evD_if (c := (sp == ("" : Str))) (tsD_cmp (i0 _ _ _ _) evD_str rfl) ?_
  unfold tagS
  by_cases hs : sp = ("" : Str)
  ·subst hs
   rw [if_pos (by decide), if_pos rfl]
   exact i1 _ _ _ _
  ·rw [if_neg (by simpa using hs), if_neg hs]
   have l1 : (("{" : Str) ++ sp).length = 1 + sp.length := by rw [strLen_append]; rfl
   have l2 : (("{" : Str) ++ sp ++ ("}" : Str)).length = 2 + sp.length := by rw [strLen_append, l1]; show 1 + sp.length + 1 = _; omega
   refine evD_bin (evD_bin (evD_bin evD_str (i0 _ _ _ _) (add_strD ?_)) evD_str (add_strD ?_)) (i1 _ _ _ _) (add_strD ?_)
   ·show 1 + sp.length ≤ _; omega
   ·rw [l1]; show 1 + sp.length + 1 ≤ _; omega
   ·rw [l2]; omega
theorem CfOk.le {G : Gd} {cf : Cf} {k k' : Nat} (h : k ≤ k') (ok : CfOk G cf k) : CfOk G cf k' where
 gam := ok.gam
 fn := fun a ds d e => by
  obtain ⟨o, fd, h1, h2, h3, h4⟩ := ok.fn a ds d e
  exact ⟨o, fd, h1, h2, h3, fun A X s vs r => h4 A X s vs (r.le h)⟩
 hook := fun K ρ e d q A X s env r => ok.hook K ρ e d q A X s env (r.le h)
 root := ok.root
theorem execs_ret {G : Gd} {A : Around} {env : Env} {e : Expr} {p : Pos} {ss : List Stmt} {Q : Flow → Shared → Prop} {E : Value → Shared → Prop} {s : Shared} (h : wpAny (model G.prog G.w) A (eval e env) (fun v => Q (.ret v)) E s) : wpAny (model G.prog G.w) A (execs (.Return (some e) p :: ss) env) Q E s :=
 wpAny_execs_cons (wpAny_Return_some h)
theorem store_loc {G : Gd} {k : Nat} {A : Around} {Xc Y : List Addr} {s : Shared} {env : Env} {K : Kn} {ρ : Rho} (c : StC G k A Xc Y s env K ρ) {x : Str} {d : D} {v : Value} (hk : K.lookup x = some .local) (r : Rd G.C (Y ++ Xc) s.heap d v) {E : Value → Shared → Prop} {Q : Unit → Shared → Prop}
  (hQ : ∀ s', Stp G Y s Y s' → Heap.SameBut env.locals s.heap s'.heap → StC G k A Xc Y s' env K (setV (dropApp ρ x) x d) → Q () s') : wpAny (model G.prog G.w) A (storeName env x v) Q E s := by
 obtain ⟨m, W, e, hW⟩ := c.ex
 have en := c.cxt.env.k
 have hk' : env.kindOf x = some .local := by unfold Env.kindOf; rw [en.names]; exact hk
 refine wpAny_storeName_local hk' e.ns (fun h' hn' hs => ?_) (by rw [en.kind]; rfl)
 have nT : NT s.heap env.locals := .dict e.ns
 have nt : NT h' env.locals := .dict hn'
 have diff : ∀ cc u, s.heap.IsCell cc u → cc ≠ env.locals := fun cc u hcell q => by
  subst q
  obtain ⟨o, es, ep, ho, hd, _⟩ := e.ns
  obtain ⟨o', ho', hd'⟩ := hcell
  rw [ho] at ho'; cases ho'
  rw [hd] at hd'; cases hd'
 have hnl : ∀ a vs n, s.heap.get? a = some (lstObj vs n) → a ≠ env.locals := fun a vs n hg q => by
  subst q
  obtain ⟨o, es, ep, ho, hd, _⟩ := e.ns
  rw [hg] at ho; cases ho; cases hd
 have up : ∀ b o, b ∉ Y ++ Xc → s.heap.get? b = some o → h'.get? b = some o := fun b o hb e => SameBut.up hs (fun q => hb (by rw [q]; exact List.mem_append_left _ c.loc)) e
 have stp : ∀ t, Stp G Y s Y { s with heap := h', toks := t } := fun t => ⟨fun _ h => h, fun _ h => .inl h, (GrB.same hs nT).mono fun y hy => by rw [List.mem_singleton.mp hy]; exact c.loc⟩
 refine hQ _ (stp _) hs ⟨c.room, (stp (s.toks + 1)).cx c.cx c.hbY, c.xok.same hs nt, c.xc, ⟨(fun y => if y = x then some v else m y), (fun y => if y = x then none else W y), e.store hn' (fun y hy => by simp [hy]) (fun y hy => by simp [hy]) ?_ (fun y cc u hy hc hcell => IsCell.at' hcell fun o e => SameBut.up hs (diff _ _ hcell) e) (fun b o hb e => ⟨hb, up b o hb e⟩) ?_ (v := v) (.inl ⟨hk', by simp⟩) ?_, ?_⟩, c.loc, ?_, c.apart, ?_, c.dis, c.hbY, c.celX, c.noFree⟩
 ·intro y z a h1 h2
  by_cases hy : y = x
  ·simp [hy] at h1
  ·by_cases hz : z = x
   ·simp [hz] at h2
   ·simp only [hy, hz, if_false] at h1 h2; exact e.inj y z a h1 h2
 ·intro y a vs n hy hwa hx hg
  exact ⟨hx, SameBut.up hs (hnl _ _ _ hg) hg⟩
 ·cases d <;> first | exact Rd.imp (fun b o hb e => ⟨hb, up b o hb e⟩) r | (unfold Rd at r; exact r.elim)
 ·intro y a hy
  by_cases q : y = x
  ·simp [q] at hy
  ·simp only [q, if_false] at hy; exact hW y a hy
 ·intro y cc h1 h2
  obtain ⟨q, u, z⟩ := c.cel y cc h1 h2
  exact ⟨q, u, IsCell.at' z fun o e => SameBut.up hs (diff _ _ z) e⟩
 ·intro y hy; exact (c.nt y hy).same hs nt
theorem dict_ne_list {es : List DictEntry} {m n : Nat} {vs : List Value} : dictOf es m ≠ lstObj vs n := fun q => by
 have := congrArg Obj.data q
 cases this
set_option maxHeartbeats 1000000 in
theorem node_ok {G : Gd} {k : Nat} {cf : Cf} {Kf : Frag} {C fI : Addr} {oI o : Obj} {fdI fd : FuncData} (ok : CfOk G cf k) (X₀ : Kf.In G.hb) (NC : NodeCls Kf C fI) {p1 p2 p3 p4 : Pos} (frI : FnRec G fI oI fdI (bInit p1 p2 p3 p4) kInit ["self", "root"])
  (fr : FnRec G 132 o fd (pBody 20) (pNames 20) ["number", "name"]) (hG : cf.Γ "_SelectorContext" = some (.opq C)) (hC : G.C = C) (hnc : ∃ oc : Obj, Kf.lookup C = some oc) {i : Int} {nm : D} {tg : Option Str}
  (hn : (nm = .none ∧ tg = none) ∨ ∃ sp wd, nm = .tup [.str sp, .str wd] ∧ sp.length ≤ 1000 ∧ wd.length ≤ 1000 ∧ tg = some (tagS sp wd)) :
  FnC G (k + 3) 132 [.int i, nm] (.node i tg) := by
 refine fn_hand fr rfl fun A X Y s env c E => ?_
 have ok2 := ok.le (k' := k + 2) (by omega)
 obtain ⟨p1, p2, p3, p4, q1, q2, q3, q4, q5, t1, t2, e1, q6, q7, q8, q9, r1, r2, r3, eb, hsw, hr1⟩ := b20
 rw [eb]
 generalize hρ : (rho0 (pNames 20) ["number", "name"] [D.int i, nm] : Rho) = ρ at c
 have l1 : ρ.lookup ("number" : Str) = some (.int i) := by rw [← hρ]; rfl
 have l2 : ρ.lookup ("name" : Str) = some nm := by rw [← hρ]; rfl
 have l3 : ρ.lookup ("_SelectorContext" : Str) = none := by rw [← hρ]; rfl
 have l4 : ρ = [(("number" : Str), D.int i), (("name" : Str), nm), (("made" : Str), D.unb)] := by rw [← hρ]; rfl
 have k1 : (pNames 20).lookup ("_SelectorContext" : Str) = some .globalImplicit := by decide
 have k2 : (pNames 20).lookup ("made" : Str) = some .local := by decide
 have kl : ∀ x, (pNames 20).lookup x ≠ some .cell := by
  intro x hx
  have := mem_of_lookup hx
  revert this
  have : (pNames 20).all (fun p => p.2 != .cell) = true := by decide
  intro hm
  have := List.all_eq_true.mp this _ hm
  simp at this
 generalize pNames 20 = K at *
 refine wpAny_execs_cons (wpAny_Assign_Name (PyProof.Rows.Call_ ?_) (by rfl))
 refine ((sound ok2 5).ev _ _ _ _ (zB (by decide) l3 k1 hG) _ _ s env c.cxt).post fun fv s₁ g₁ r => ?_
 have := r.opq; subst this
 have c₁ := c.gr g₁
 have X₁ : Kf.In s₁.heap := X₀.keeps c₁.cx.hb
 have ha : evL cf 5 K ρ [.Name "number" p3] = some [.int i] := zC (zA (by decide) l1 rfl) zD
 have st := evL_star ha env
 refine callWith_K X₁ NC.keep (wpAny_mono ((sound ok2 5).ls _ _ _ _ ha _ _ s₁ env p4 c₁.cxt _) (fun vs s₂ h₂ => ?_) fun _ _ e => e) st (by rfl)
 obtain ⟨g₂, ra⟩ := h₂
 obtain - | ⟨ra1, ra⟩ := ra
 obtain - | _ := ra
 have c₂ := c₁.gr g₂
 refine ⟨X₀.keeps c₂.cx.hb, ?_⟩
 refine new_node ok X₀ NC frI c₂.room c₂.cx c₂.xok ra1 fun x dx s₃ H kt t g₃ nx nd hne gx gd => ?_
 obtain ⟨t₃, c₃⟩ := c₂.grow g₃ nd ⟨_, gd, notTK_dict⟩
 have bxc : x ∉ X := fun q => by
  obtain ⟨oo, ho⟩ := c₂.xok.live x (List.mem_append_right _ q)
  rw [nx] at ho; cases ho
 have bxY : x ∉ dx :: Y := fun q => by
  rcases List.mem_cons.mp q with q | q
  ·exact hne q
  ·obtain ⟨oo, ho⟩ := c₂.xok.live x (List.mem_append_left _ q)
   rw [nx] at ho; cases ho
 have hlq : env.locals ≠ dx := fun q => by
  obtain ⟨oo, ho⟩ := c₂.xok.live _ (List.mem_append_left _ c.loc)
  rw [q, nd] at ho; cases ho
 have tk0 : Stp G Y s Y s₂ := Stp.gr (g₁.trans g₂)
 have tk1 := tk0.trans c.cx.ti t₃
 refine store_loc c₃ k2 Rd.opq' fun s₄ t₄ sb₄ c₄ => ?_
 have tk2 := tk1.trans c.cx.ti t₄
 have eρ : setV (dropApp ρ "made") "made" (.opq x) = [(("number" : Str), D.int i), (("name" : Str), nm), (("made" : Str), D.opq x)] := by
  rw [l4]
  rcases hn with ⟨rfl, _⟩ | ⟨sp, wd, rfl, _⟩ <;> rfl
 rw [eρ] at c₄
 generalize hρ' : ([(("number" : Str), D.int i), (("name" : Str), nm), (("made" : Str), D.opq x)] : Rho) = ρ' at c₄
 have m1 : ρ'.lookup ("made" : Str) = some (.opq x) := by rw [← hρ']; rfl
 have m2 : ρ'.lookup ("name" : Str) = some nm := by rw [← hρ']; rfl
 have gd4 : s₄.heap.get? dx = some (dictOf [⟨H, .str "root" kt, .int i t⟩] 1) := SameBut.up sb₄ (Ne.symm hlq) gd
 have gx4 : s₄.heap.get? x = some (instObj C dx) := SameBut.up sb₄ (fun q => bxY (.tail _ (q ▸ c.loc))) gx
 have hcl : ∀ y cc, K.lookup y = some .cell → env.cells.lookup y = some cc → cc ≠ dx := fun y cc h _ => absurd h (kl y)
 refine wpAny_execs_cons (plainObj_wpAny_Assign_Attribute (PyProof.Rows.Constant_none ?_))
 refine ((sound ok2 5).ev _ _ _ _ (zA (by decide) m1 rfl) _ _ s₄ env c₄.cxt).post fun vv s₅ g₅ r5 => ?_
 have := r5.opq; subst this
 have c₅ := c₄.gr g₅
 have gd5 := g₅.heap _ _ (c₄.cx.notTab gd4 notTK_dict) gd4
 have gx5 := g₅.heap _ _ (c₄.cx.notTab gx4 fun ⟨vs, q, _⟩ => by cases q) gx4
 have tk3 := tk2.trans c.cx.ti (Stp.gr g₅)
 refine set_mine (Kf := Kf) (X₀.keeps c₅.cx.hb) NC.set gx5 gd5 NC.over NC.tag NC.has (by rfl) (es' := fun kt' => [⟨H, .str "root" kt, .int i t⟩, ⟨PyData.keyHash G.w.params "tag", .str "tag" kt', .none⟩]) (n' := 2) (fun tk => put_tag _ _ _ _ _ _) (fun tk => by simp) fun h6 kt' t6 hs6 gd6 => ?_
 obtain ⟨tk6, c₆⟩ := c₅.change (t := t6) (.head _) hlq hcl gd5 (fun vs n => dict_ne_list) hs6 gd6 notTK_dict
 have gx6 : h6.get? x = some (instObj C dx) := SameBut.up hs6 hne gx5
 have tk7 := tk3.trans c.cx.ti tk6
 generalize hs7 : ({ s₅ with heap := h6, toks := t6 } : Shared) = s₆ at *
 have gd6' : s₆.heap.get? dx = some (dictOf [⟨H, .str "root" kt, .int i t⟩, ⟨PyData.keyHash G.w.params "tag", .str "tag" kt', .none⟩] 2) := by rw [← hs7]; exact gd6
 have gx6' : s₆.heap.get? x = some (instObj C dx) := by rw [← hs7]; exact gx6
 have fin : ∀ (s₈ : Shared) (vt : Value) (kt8 : Tok), Stp G Y s (dx :: Y) s₈ → StC G (k + 2) A X (dx :: Y) s₈ env K ρ' → s₈.heap.get? x = some (instObj C dx) → s₈.heap.get? dx = some (dictOf [⟨H, .str "root" kt, .int i t⟩, ⟨PyData.keyHash G.w.params "tag", .str "tag" kt8, vt⟩] 2) →
   ((tg = none ∧ vt = .none) ∨ ∃ y tt, tg = some y ∧ vt = .str y tt) → wpAny (model G.prog G.w) A (execs [.Return (some (.Name "made" r2)) r3] env) (PostX G (k + 2) A X env K Y s (.ret (.node i tg))) E s₈ := by
  intro s₈ vt kt8 tk8 c₈ gx8 gd8 ht
  refine execs_ret (((sound ok2 5).ev _ _ _ _ (zA (by decide) m1 rfl) _ _ s₈ env c₈.cxt).post fun vv s₉ g₉ r9 => ?_)
  have := r9.opq; subst this
  refine ⟨dx :: Y, tk8.trans c.cx.ti (Stp.gr g₉), _, rfl, ?_⟩
  unfold Rd
  refine ⟨x, rfl, dx, _, 2, t, vt, bxc, c₈.dis dx (.head _), ?_, g₉.heap _ _ (c₈.cx.notTab gd8 notTK_dict) gd8, ?_, ?_, ?_⟩
  ·rw [hC]; exact g₉.heap _ _ (c₈.cx.notTab gx8 fun ⟨vs, q, _⟩ => by cases q) gx8
  ·rfl
  ·rfl
  ·rcases ht with ⟨h1, h2⟩ | ⟨y, tt, h1, h2⟩
   ·rw [h1]; exact h2
   ·rw [h1]; exact ⟨tt, h2⟩
 rcases hn with ⟨rfl, rfl⟩ | ⟨sp, wd, rfl, h1, h2, rfl⟩
 ·refine wpAny_execs_cons (wpAny_If (((sound ok2 5).ts _ _ _ _ (tsD_cmp (n := 4) (zA (by decide) m2 rfl) evD_none (c := false) rfl)).post c₆.cxt fun s₇ g₇ => ?_))
  simp only [Bool.false_eq_true, if_false]
  refine wpAny_execs_nil ?_
  have c₇ := c₆.gr g₇
  exact fin s₇ .none _ (tk7.trans c.cx.ti (Stp.gr g₇)) c₇ (g₇.heap _ _ (c₆.cx.notTab gx6' fun ⟨vs, q, _⟩ => by cases q) gx6') (g₇.heap _ _ (c₆.cx.notTab gd6' notTK_dict) gd6') (.inl ⟨rfl, rfl⟩)
 ·refine wpAny_execs_cons (wpAny_If (((sound ok2 5).ts _ _ _ _ (tsD_cmp (n := 4) (zA (by decide) m2 rfl) evD_none (c := true) rfl)).post c₆.cxt fun s₇ g₇ => ?_))
  simp only [if_true]
  have c₇ := c₆.gr g₇
  have gx7 := g₇.heap _ _ (c₆.cx.notTab gx6' fun ⟨vs, q, _⟩ => by cases q) gx6'
  have gd7 := g₇.heap _ _ (c₆.cx.notTab gd6' notTK_dict) gd6'
  refine wpAny_execs_cons (plainObj_wpAny_Assign_Attribute (((sound ok2 8).ev _ _ _ _ (hr1 cf K ρ' sp wd m2 h1 h2) _ _ s₇ env c₇.cxt).post fun vv s₈ g₈ r8 => ?_) (hsw _ _ _))
  obtain ⟨t8, rfl⟩ := r8.str
  have c₈ := c₇.gr g₈
  refine ((sound ok2 5).ev _ _ _ _ (zA (by decide) m1 rfl) _ _ s₈ env c₈.cxt).post fun vv s₉ g₉ r9 => ?_
  have := r9.opq; subst this
  have c₉ := c₈.gr g₉
  have g89 := g₈.trans g₉
  have gx9 := g89.heap _ _ (c₇.cx.notTab gx7 fun ⟨vs, q, _⟩ => by cases q) gx7
  have gd9 := g89.heap _ _ (c₇.cx.notTab gd7 notTK_dict) gd7
  refine set_mine (Kf := Kf) (X₀.keeps c₉.cx.hb) NC.set gx9 gd9 NC.over NC.tag NC.has (by rfl) (es' := fun _ => [⟨H, .str "root" kt, .int i t⟩, ⟨PyData.keyHash G.w.params "tag", .str "tag" kt', .str (tagS sp wd) t8⟩]) (n' := 2) (fun tk => put_tag2 _ _ _ _ _ _ _ _ _) (fun tk => by simp) fun h10 kt10 t10 hs10 gd10 => ?_
  obtain ⟨tk10, c10⟩ := c₉.change (t := t10) (.head _) hlq hcl gd9 (fun vs n => dict_ne_list) hs10 gd10 notTK_dict
  refine wpAny_execs_nil ?_
  exact fin _ (.str (tagS sp wd) t8) _ (((tk7.trans c.cx.ti (Stp.gr (g₇.trans g89)))).trans c.cx.ti tk10) c10 (SameBut.up hs10 hne gx9) gd10 (.inr ⟨_, _, rfl, rfl⟩)
end Mine
namespace Mine
open PySem PySem.Calls PyProof.Rows PySem.W
structure TabG (G : Gd) (c P : Addr) (q : Str) : Prop where
 code : CodeHd G.hb c P
 mem : P ∈ G.T
 ok : ∀ h, G.TI h → ∃ ps, h.get? P = some (tabObj ps) ∧ TriplesOk ps.toList ∧ ∀ pos cv, codeAmong pos ps.toList = some cv → h.CodeRec cv q
 grow : ∀ h h' ps (pos : Pos) c', G.TI h → h.get? P = some (tabObj ps) → Heap.ExtBut P h h' → h'.get? P = some (tabObj (ps ++ #[rawInt pos.line, rawInt pos.col, .ref c'])) → h'.CodeRec (.ref c') q → G.TI h'
 bi : G.hb.BuiltinsAt G.mg P
 notT : ∀ h a q, G.TI h → h.CodeRec (.ref a) q → a ∉ G.T
theorem bi_keeps {h h' : Heap} {mg : Str → Option Value} {P : Addr} (x : h.BuiltinsAt mg P) (k : ∀ b o, h.get? b = some o → h'.get? b = some o) : h'.BuiltinsAt mg P := by
 obtain ⟨bm, o, a, b, c, d, e, r⟩ := x
 exact ⟨bm, o, a, b, c, d, k _ _ e, r⟩
abbrev fnObj (fd : FuncData) : Obj := { cls := .type "function", data := .func fd }
section
variable {G : Gd} {A : Around} {E : Value → Shared → Prop} {s : Shared} {name qual : Str} {params : Arguments} {scope : Scope} {env : Env} {c P : Addr} {pos : Pos} {firstLine : Nat} {clos : List (Str × Addr)} {Q : Value → Shared → Prop}
theorem mk_lam {body : Expr} (TG : TabG G c P qual) (cx : Cx G s.heap) (hcl : closureFor scope env = pure clos) (hcode : env.code = .ref c) (hg0 : env.globals = mainGlobals)
  (h : ∀ f s' cv ctv, Gr G s s' → s.heap.get? f = none → f ∉ G.T → s'.heap.get? f = some (fnObj (kla_fn name qual params body scope clos ((G.mg "__name__").getD .none) cv ctv)) → s'.heap.CodeRec cv qual → Q (.ref f) s') :
  wpAny (model G.prog G.w) A (makeFunction name qual params (.expr body) scope env [] [] [] pos firstLine) Q E s := by
 obtain ⟨ps, hP, ht, hcodes⟩ := TG.ok _ cx.ti
 have hg : s.heap.Ns mainGlobals G.mg := G.hmg.at' fun o e => cx.hb _ o e
 have C := TG.code.keeps cx.hb
 have hb := bi_keeps TG.bi cx.hb
 have hgP : mainGlobals ≠ P := fun q => by
  obtain ⟨o, es, ep, e, hd, _⟩ := hg
  rw [q, hP] at e; cases e; cases hd
 have freshT : ∀ f, s.heap.get? f = none → f ∉ G.T := fun f hf hT => by
  obtain ⟨vs, e⟩ := G.tabs _ cx.ti f hT
  rw [hf] at e; cases e
 cases hca : codeAmong pos ps.toList with
 | none =>
  refine kla_makeFunction hcl hg0 hg hcode C hP ht hca hgP hb fun c' ctv h' tk hx hge hlt hrec htb => ?_
  have hsz : s.heap.objs.size ≤ h'.objs.size := Nat.le_trans hge (Nat.le_of_lt hlt)
  have ti' : G.TI h' := TG.grow _ _ ps pos c' cx.ti hP hx htb hrec
  have nf : s.heap.get? h'.objs.size = none := zF hsz
  refine h h'.objs.size _ (.ref c') ctv ⟨fun b o hb e => Heap.get?_push_of_some _ (hx b o (fun q => hb (q ▸ TG.mem)) e), fun _ => G.frame _ _ ti' fun b o _ e => Heap.get?_push_of_some _ e, rfl, id⟩ nf (freshT _ nf) (Heap.get?_push_size _ rfl) (CodeRec.up hrec fun b o e => Heap.get?_push_of_some _ e)
 | some cv =>
  refine kla_makeFunctionHit hcl hg0 hg hcode C hP ht hca hb fun ctv h' tk hk hsz => ?_
  have nf : s.heap.get? h'.objs.size = none := zF hsz
  refine h h'.objs.size _ cv ctv (Gr.of fun b o e => Heap.get?_push_of_some _ (hk b o e)) nf (freshT _ nf) (Heap.get?_push_size _ rfl) (CodeRec.up (hcodes _ _ hca) fun b o e => Heap.get?_push_of_some _ (hk b o e))
theorem mk_def {body : List Stmt} (TG : TabG G c P qual) (cx : Cx G s.heap) (hcl : closureFor scope env = pure clos) (hcode : env.code = .ref c) (hg0 : env.globals = mainGlobals)
  (h : ∀ f s' cv ctv doc, Gr G s s' → s.heap.get? f = none → f ∉ G.T → s'.heap.get? f = some (fnObj (fnX name qual params body scope clos .none .none doc ((G.mg "__name__").getD .none) none cv ctv)) → s'.heap.CodeRec cv qual → Q (.ref f) s') :
  wpAny (model G.prog G.w) A (makeFunction name qual params (.stmts body) scope env [] [] [] pos firstLine) Q E s := by
 obtain ⟨ps, hP, ht, hcodes⟩ := TG.ok _ cx.ti
 have hg : s.heap.Ns mainGlobals G.mg := G.hmg.at' fun o e => cx.hb _ o e
 have C := TG.code.keeps cx.hb
 have hb := bi_keeps TG.bi cx.hb
 have hgP : mainGlobals ≠ P := fun q => by
  obtain ⟨o, es, ep, e, hd, _⟩ := hg
  rw [q, hP] at e; cases e; cases hd
 have freshT : ∀ f, s.heap.get? f = none → f ∉ G.T := fun f hf hT => by
  obtain ⟨vs, e⟩ := G.tabs _ cx.ti f hT
  rw [hf] at e; cases e
 cases hca : codeAmong pos ps.toList with
 | none =>
  refine makeFunction_K hcl hg0 hg hcode C hP ht hca hgP hb fun c' ctv doc h' tk hx hge hlt hrec htb => ?_
  have hsz : s.heap.objs.size ≤ h'.objs.size := Nat.le_trans hge (Nat.le_of_lt hlt)
  have ti' : G.TI h' := TG.grow _ _ ps pos c' cx.ti hP hx htb hrec
  have nf : s.heap.get? h'.objs.size = none := zF hsz
  refine h h'.objs.size _ (.ref c') ctv doc ⟨fun b o hb e => Heap.get?_push_of_some _ (hx b o (fun q => hb (q ▸ TG.mem)) e), fun _ => G.frame _ _ ti' fun b o _ e => Heap.get?_push_of_some _ e, rfl, id⟩ nf (freshT _ nf) (Heap.get?_push_size _ rfl) (CodeRec.up hrec fun b o e => Heap.get?_push_of_some _ e)
 | some cv =>
  refine makeFunction_hit hcl hg0 hg hcode C hP ht hca hb fun ctv doc h' tk hk hsz => ?_
  have nf : s.heap.get? h'.objs.size = none := zF hsz
  refine h h'.objs.size _ cv ctv doc (Gr.of fun b o e => Heap.get?_push_of_some _ (hk b o e)) nf (freshT _ nf) (Heap.get?_push_size _ rfl) (CodeRec.up (hcodes _ _ hca) fun b o e => Heap.get?_push_of_some _ (hk b o e))
end
theorem triples_second {ps : Array Value} {q : Str} {t : Tok} (h : TriplesOk ps.toList) : ps[1]? ≠ some (.str q t) := by
 intro e
 rw [← Array.getElem?_toList] at e
 cases hl : ps.toList with
 | nil => rw [hl] at e; cases e
 | cons a r =>
  rw [hl] at e h
  cases r with
  | nil => cases e
  | cons b r =>
   simp at e
   subst e
   cases a <;> first | exact h.elim | (cases r <;> exact h.elim)
theorem tabG_mk {prog w hb T q C mg mb hmg hmb nolim hT} {c P : Addr} (hc : CodeHd hb c P) (hP : P ∈ T) (hbi : hb.BuiltinsAt mg P) : TabG (mkGd prog w hb T q C mg mb hmg hmb nolim hT) c P (q P) where
 code := hc
 mem := hP
 ok := fun h ti => ti P hP
 bi := hbi
 notT := fun h a qq ti hc haT => by
  obtain ⟨ps, e, t0, _⟩ := ti a haT
  obtain ⟨c, oc, vs, tq, he, hoc, hd, hq⟩ := hc
  cases he
  rw [e] at hoc; cases hoc; cases hd
  exact triples_second t0 hq
 grow := by
  intro h h' ps pos c' ti e hx e' hr P' hP'
  have tk : ∀ a o, h.get? a = some o → a ≠ P → h'.get? a = some o := fun a o ea hne => hx a o hne ea
  obtain ⟨ps0, e0, t0, r0⟩ := ti P hP
  rw [e] at e0; cases e0
  have recs : ∀ cv qq, h.CodeRec cv qq → h'.CodeRec cv qq := by
   rintro cv qq ⟨c, oc, vs, tq, hc, hoc, hd, hq⟩
   refine ⟨c, oc, vs, tq, hc, hx c oc (fun z => ?_) hoc, hd, hq⟩
   subst z
   rw [e] at hoc; cases hoc; cases hd
   exact triples_second t0 hq
  by_cases h1 : P' = P
  ·subst h1
   refine ⟨_, e', ?_, fun pos' cv hca => ?_⟩
   ·simp only [Array.toList_append]
    exact TriplesOk_snoc _ _ _ _ t0
   ·simp only [Array.toList_append] at hca
    rcases codeAmong_snoc_some ps.toList t0 hca with z | z
    ·exact recs _ _ (r0 pos' cv z)
    ·subst z; exact hr
  ·obtain ⟨ps1, e1, t1, r1⟩ := ti P' hP'
   exact ⟨ps1, hx _ _ h1 e1, t1, fun pos' cv z => recs _ _ (r1 pos' cv z)⟩
end Mine
namespace Mine
open PySem PySem.Calls PyProof.Rows PySem.W PySem.Builtin PySem.Builtin.Re
theorem slot_sub : Slot "re.Pattern" "sub" "re.Pattern.sub" :=
 Slot.of (owner := "re.Pattern") (n := "sub") (by rw [typeLookup_type, builtinLookup_eq_fast]; kernel_rfl) (by decide +kernel) (by decide +kernel) (by decide +kernel) (.inr (by decide +kernel)) (by rw [isSubtype_type]; kernel_rfl)
theorem type_sub : typeOf (.builtin "re.Pattern.sub") = pure (.type "method_descriptor") := by show builtinType _ = _; rw [builtinType_eq_fast]; kernel_rfl
theorem entry_sub : entryFor table "re.Pattern.sub" = some Builtin.«re.Pattern.sub» := entryFor_of_tree (by kernel_rfl)
theorem entry_subLoop : entryFor table "re.Pattern.sub.loop" = some Builtin.«re.Pattern.sub.loop» := entryFor_of_tree (by kernel_rfl)
theorem plain_subLoop : plainId "re.Pattern.sub.loop" = true := by decide +kernel
theorem args_sub_3 (a b c : Value) : argsOk "re.Pattern.sub" ⟨[a, b, c], []⟩ := by
 unfold argsOk; kernel_rfl
theorem plainAttrs_pat : PlainAttrs "re.Pattern" :=
 ⟨⟨"object.__getattribute__", by rw [typeLookup_type, builtinLookup_eq_fast]; kernel_rfl, by decide +kernel⟩, by rw [typeLookup_type, builtinLookup_eq_fast]; kernel_rfl⟩
theorem fn_call_slot : typeLookup (.type "function") "__call__" = pure (some (.builtin "function.__call__")) := by rw [typeLookup_type, builtinLookup_eq_fast]; kernel_rfl
def codeL : Array Nat := #[14, 14, 4, 1, 1, 9, 0, 64, 0, 1342177280, 0, 0, 0, 0, 0, 17, 0, 13, 11, 9, 0, 64, 0, 1342177280, 0, 0, 0, 0, 0, 17, 1, 1]
theorem drive_one {M : Model} {A : Around} {E : Value → Shared → Prop} {s : Shared} {n : Nat} {m : Sre.M} (h : (m.runFor reTurnSteps).outcome.isSome = true) {Q : Sre.M → Shared → Prop} (hq : Q (m.runFor reTurnSteps) s) : wpAny M A (reDrive (n + 1) m) Q E s := by
 unfold reDrive
 dsimp only
 rw [if_pos h]
 exact wpAny_pure hq
theorem wp_rules {M : Model} {A : Around} {E : Value → Shared → Prop} {s : Shared} (c : Nat → Bool) (f : Nat → String) : ∀ (l : List Nat) {Q : PUnit → Shared → Prop}, Q ⟨⟩ s → wpAny M A (forIn l (⟨⟩ : PUnit) fun i (r : PUnit) => (if c i = true then do rule (f i); pure (ForInStep.yield ⟨⟩) else pure (ForInStep.yield ⟨⟩) : Sem (ForInStep PUnit))) Q E s
 | [], Q, h => wpAny_pure h
 | i :: l, Q, h => by
  rw [List.forIn_cons]
  refine wpAny_bind ?_
  split
  ·exact wpAny_bind (wpAny_rule (wpAny_pure (wp_rules c f l h)))
  ·exact wpAny_pure (wp_rules c f l h)
theorem run_none {M : Model} {A : Around} {E : Value → Shared → Prop} {s : Shared} {k : Nat} (hk : k = 42 ∨ k = 63 ∨ k = 91) {Q : Option Sre.M → Shared → Prop} (hq : Q none s) : wpAny M A (reRunToEnd (Sre.forSearch codeL #[k] 1 0 1 false)) Q E s := by
 unfold reRunToEnd
 have h1 : ((Sre.forSearch codeL #[k] 1 0 1 false).runFor reTurnSteps).outcome.isSome = true := by rcases hk with rfl | rfl | rfl <;> decide +kernel
 have h2 : ((Sre.forSearch codeL #[k] 1 0 1 false).runFor reTurnSteps).outcome = some .failed := by rcases hk with rfl | rfl | rfl <;> kernel_rfl
 refine wpAny_bind ?_
 rw [show (2 ^ 64 : Nat) = 18446744073709551615 + 1 from rfl]
 refine drive_one h1 ?_
 generalize (Sre.forSearch codeL #[k] 1 0 1 false).runFor reTurnSteps = m at *
 refine wpAny_bind (wp_rules _ _ _ ?_)
 rw [h2]
 exact wpAny_pure hq
end Mine
namespace Mine
open PySem PySem.Calls PyProof.Rows PySem.W PySem.Builtin PySem.Builtin.Re
section
variable {prog : Program} {w : World} {A : Around} {E : Value → Shared → Prop} {s : Shared}
abbrev patObj (b : Addr) (t1 t2 : Tok) (x : Str) : Obj := { cls := .type "re.Pattern", data := .fields #[.str x t1, .int 32 t2, .int 1 0, .none, .none, .ref b, .int 0 0] }
theorem whole_pat {a b : Addr} {t1 t2 t : Tok} {x y : Str} {vs : Array Value} {n : Nat} (ha : s.heap.get? a = some (patObj b t1 t2 x)) (hb : ∃ ob, s.heap.get? b = some ob ∧ ob.data = .seq vs n) (hv : (vs.map reRawOf).map (·.toNat) = codeL) {Q : ReTarget → Shared → Prop}
  (h : ∀ T : ReTarget, T.code = codeL → T.text = y.cps → T.kind = 0 → T.groups = 1 → T.lim = y.cps.size → Q T s) : wpAny (model prog w) A (reWholeTarget (.ref a) (.str y t)) Q E s := by
 unfold reWholeTarget
 refine wpAny_bind (wpAny_fieldsOf ha rfl ?_)
 refine wpAny_bind (wpAny_of_eq (a := (y.cps, 0)) (by rfl) ?_)
 dsimp only
 refine wpAny_bind (wpAny_of_eq (a := ()) (by rfl) ?_)
 obtain ⟨ob, h1, h2⟩ := hb
 refine wpAny_bind ?_
 unfold reRawItems
 refine wpAny_bind ?_
 unfold seqItems?
 show wpAny _ _ (load b >>= _) _ _ _
 refine wpAny_bind (wpAny_load h1 ?_)
 rw [h2]
 refine wpAny_pure (wpAny_pure (wpAny_pure ?_))
 exact h _ hv rfl rfl rfl rfl
theorem subLoop_ok {a b l : Addr} {t1 t2 t : Tok} {x : Str} {k : Nat} {vs : Array Value} {n : Nat} {repl : Value} (hk : k = 42 ∨ k = 63 ∨ k = 91) (ha : s.heap.get? a = some (patObj b t1 t2 x)) (hb : ∃ ob, s.heap.get? b = some ob ∧ ob.data = .seq vs n) (hv : (vs.map reRawOf).map (·.toNat) = codeL)
  (hl : s.heap.get? l = some (lstObj [] 0)) {R : Result → Shared → Prop} (h : ∀ h' tk t', Heap.SameBut l s.heap h' → R (.ok (.ret (.str ⟨#[k]⟩ t'))) { s with heap := h', toks := tk }) :
  codeAny (model prog w) A (.builtin "re.Pattern.sub.loop" ⟨[.ref a, .str ⟨#[k]⟩ t, repl, rawInt 1, rawInt 0, rawInt 0, rawInt 0, rawInt 0, .bool false, .ref l, .bool false], []⟩) R s := by
 refine codeAny_builtin entry_subLoop ?_
 rw [Around.under_plainId plain_subLoop _]
 unfold Builtin.«re.Pattern.sub.loop»
 dsimp only [rawInt]
 refine wpAny_bind (whole_pat ha hb hv fun T e1 e2 e3 e4 e5 => ?_)
 rw [if_neg (by decide)]
 refine wpAny_bind ?_
 rw [if_neg (by decide)]
 unfold reNextFound
 rw [e1, e2, e4, e5]
 refine run_none hk ?_
 dsimp only
 rw [e3]
 rw [if_pos (by rcases hk with rfl | rfl | rfl <;> decide)]
 unfold reSlice
 simp only [beq_self_eq_true, if_true]
 refine wpAny_bind (wpAny_mkStr ?_ (by rcases hk with rfl | rfl | rfl <;> decide))
 refine wpAny_bind (wpAny_updateSeq hl rfl ?_ (by decide) (by show (1 : Nat) ≤ sizeLine + 1; decide))
 refine wpAny_bind (wpAny_mkStr ?_ (by rcases hk with rfl | rfl | rfl <;> decide))
 have hl2 : (s.heap.update l (Obj.mapSeq (·.push (.str ⟨#[k]⟩ s.toks)))).get? l = some (lstObj [.str ⟨#[k]⟩ s.toks] 1) := by
  rw [Heap.get?_update_self _ hl rfl]; rfl
 refine wpAny_bind ?_
 unfold seqItems?
 show wpAny _ _ (load l >>= _) _ _ _
 refine wpAny_bind (wpAny_load (o := lstObj [.str ⟨#[k]⟩ s.toks] 1) hl2 ?_)
 dsimp only
 refine wpAny_pure ?_
 rw [if_neg (by simp)]
 refine wpAny_bind ?_
 refine PyProof.Rows.join_list (items := #[.str ⟨#[k]⟩ s.toks]) ⟨_, hl2, rfl, 1, rfl⟩ (.cons _ _ .nil) (by rcases hk with rfl | rfl | rfl <;> decide) fun t' kk => ?_
 have e : Txt.join (⟨(#[k] : Array Nat).extract 0 0⟩ : Str) [(⟨#[k]⟩ : Str)] = ⟨#[k]⟩ := by rcases hk with rfl | rfl | rfl <;> decide
 have hs : Heap.SameBut l s.heap (s.heap.update l (Obj.mapSeq (·.push (.str ⟨#[k]⟩ s.toks)))) := Heap.SameBut.update _ _ _
 dsimp only
 rw [if_neg (by simp)]
 rw [e]
 exact wpAny_pure (h _ _ _ hs)
theorem sub_ok {a b f : Addr} {t1 t2 t : Tok} {x : Str} {k : Nat} {vs : Array Value} {n : Nat} {fd : FuncData} (hk : k = 42 ∨ k = 63 ∨ k = 91) (ha : s.heap.get? a = some (patObj b t1 t2 x)) (hb : ∃ ob, s.heap.get? b = some ob ∧ ob.data = .seq vs n) (hv : (vs.map reRawOf).map (·.toNat) = codeL)
  (hf : s.heap.get? f = some (fnObj fd)) {Q : Value → Shared → Prop} (h : ∀ h' tk t', (∀ b o, s.heap.get? b = some o → h'.get? b = some o) → Q (.str ⟨#[k]⟩ t') { s with heap := h', toks := tk }) :
  wpAny (model prog w) A (call (.builtin "re.Pattern.sub") [.ref a, .ref f, .str ⟨#[k]⟩ t]) Q E s := by
 refine wpAny_call (codeAny_call_builtin slot_sub.plain entry_sub (slot_sub.check _ _ _ _ _ _ _ _ ⟨_, ha, rfl⟩ (args_sub_3 _ _ _) ?_))
 show wpAny _ _ (reSubstitute "re.Pattern.sub" "sub" false ⟨[.ref a, .ref f, .str ⟨#[k]⟩ t], []⟩) _ _ _
 unfold reSubstitute
 refine wpAny_bind (wpAny_of_eq (a := [some (.ref f), some (.str ⟨#[k]⟩ t), none]) (by rfl) ?_)
 dsimp only
 refine wpAny_bind (wpAny_pure ?_)
 have hT : s.TypeIs (.ref f) "function" := ⟨_, hf, rfl⟩
 refine wpAny_bind (wpAny_specialOf hT fn_call_slot ?_)
 dsimp only [Option.isSome]
 simp only [if_true]
 refine wpAny_bind (wpAny_pure ?_)
 refine wpAny_bind (wpAny_pure ?_)
 dsimp only
 refine wpAny_bind (wpAny_holding (whole_pat ha hb hv fun T e1 e2 e3 e4 e5 => ?_))
 rw [if_pos (by decide)]
 refine wpAny_bind ?_
 unfold reNotHeld
 refine wpAny_bind (wpAny_isInstance (T := "str") (b := false) (typeIs_str _ _ _) (by rw [isSubtype_type]; kernel_rfl) ?_)
 rw [if_neg (by decide)]
 refine wpAny_pure ?_
 refine wpAny_bind (wpAny_newObj_type ?_)
 refine wpAny_pure ⟨plainId_quiet plain_subLoop _, ?_⟩
 have up : ∀ b o, s.heap.get? b = some o → (s.heap.push (lstObj [] 0)).get? b = some o := fun b o e => Heap.get?_push_of_some _ e
 refine subLoop_ok (s := { s with heap := s.heap.push (lstObj [] 0) }) (l := s.heap.objs.size) hk (up _ _ ha) (by obtain ⟨ob, h1, h2⟩ := hb; exact ⟨ob, up _ _ h1, h2⟩) hv (Heap.get?_push_size _ rfl) fun h' tk t' hs => ?_
 refine h h' tk t' fun c o e => SameBut.up hs (fun q => ?_) (up _ _ e)
 subst q
 rw [zF (Nat.le_refl _)] at e; cases e
end
section
variable {G : Gd} {k n : Nat} {cf : Cf} {A : Around} {X : List Addr} {s : Shared} {env : Env} {K : Kn} {ρ : Rho}
theorem hook_sub (ok : CfOk G cf k) (c : Cxt G k A X s env K ρ) {cc P a b : Addr} {qual : Str} (TG : TabG G cc P (qual ++ ("<lambda>" : Str))) (hK : codeOf K = some (.ref cc, qual)) {fp apos lp sp pos : Pos} {params : Arguments} {body : Expr} {scope : Scope}
  (hpos : (apos.endLine == pos.line) = true) (hlam : lamOk params scope = true) (hre : G.mg "_twin_re_1" = some (.ref a)) (hkre : K.lookup ("_twin_re_1" : Str) = some .globalImplicit)
  {t1 t2 : Tok} {x : Str} {vs : Array Value} {m : Nat} {z : Nat} (hz : z = 42 ∨ z = 63 ∨ z = 91) (ha : G.hb.get? a = some (patObj b t1 t2 x)) (hb : ∃ ob, G.hb.get? b = some ob ∧ ob.data = .seq vs m) (hv : (vs.map reRawOf).map (·.toNat) = codeL)
  (hs : ρ.lookup ("stuff" : Str) = some (D.str ⟨#[z]⟩)) : Ev G A X s (eval (.Call (.Attribute (.Name "_twin_re_1" fp) "sub" apos) [.Lambda params body scope lp, .Name "stuff" sp] [] pos) env) (.str ⟨#[z]⟩) := by
 intro E
 unfold lamOk at hlam
 rw [Bool.and_eq_true, Bool.and_eq_true] at hlam
 obtain ⟨⟨l1, l2⟩, l3⟩ := hlam
 have hfree : ∀ y ∈ scope.names, y.2 ≠ .free := fun y hy q => by
  have := List.all_eq_true.mp l1 y hy
  rw [q] at this; cases this
 have hd0 : params.defaults = [] := by simpa using l2
 have hd1 : params.kw_defaults = [] := by simpa using l3
 have st : starEach [.Lambda params body scope lp, .Name "stuff" sp] env = [(false, eval (.Lambda params body scope lp) env), (false, eval (.Name "stuff" sp) env)] := rfl
 have hcode := (c.env.k.code _ hK).1
 have hqual := (c.env.k.code _ hK).2
 have hk' : env.kindOf "_twin_re_1" = some .globalImplicit := by unfold Env.kindOf; rw [c.env.k.names]; exact hkre
 have ng : s.heap.Ns env.globals G.mg := by rw [c.env.k.glob]; exact G.hmg.at' fun o e => c.cx.hb _ o e
 refine wpAny_Call_method_lateS rfl (by rw [st]; rfl) hpos (Name_function_global c.env.k.kind hk' (loadGlobal_global ng hre ?_) (by decide))
 rw [st]
 have ha0 := c.cx.hb _ _ ha
 refine ⟨"re.Pattern", "re.Pattern.sub", plainAttrs_pat, slot_sub, type_sub, ⟨_, ha0, rfl⟩, (fun b e => by cases e; exact ⟨_, ha0, rfl⟩), callWith_builtin rfl (evalArgs_plain (spliced_cons (kla_eval ?_ ?_)))⟩
 ·obtain ⟨a1, a2, a3, a4, a5, a6, a7⟩ := params
  dsimp only at hd0 hd1
  subst hd0 hd1
  rfl
 ·rw [hqual]
  refine mk_lam TG c.cx (closureFor_none hfree) hcode c.env.k.glob fun f s₁ cv ctv g₁ nf nT hf hcv => ?_
  have c₁ := c.gr g₁
  refine spliced_cons ((load_ok c₁ "stuff" sp hs (by simp) (by simp) (by decide) (by decide)).post fun v s₂ g₂ r => spliced_nil ?_)
  obtain ⟨t, rfl⟩ := r.str
  have c₂ := c₁.gr g₂
  refine sub_ok hz (c₂.cx.hb _ _ ha) (by obtain ⟨ob, h1, h2⟩ := hb; exact ⟨ob, c₂.cx.hb _ _ h1, h2⟩) hv (g₂.heap _ _ nT hf) fun h' tk t' kp => ⟨(g₁.trans g₂).trans (Gr.of kp), Rd.rv Rd.str'⟩
end
end Mine
namespace Mine
open PySem PySem.Calls PyProof.Rows PySem.W
section
variable {M : Model} {A : Around} {R : GenEnd} {Y : Protocol} {n : Nat} {s₀ : Shared} {c : Code} {fs : List Frame} {s : Shared} {env : Env}
 {K : Flow → Sem Fin} {H : Value → Sem Fin} {gd : Bool → Bool} {lv : List Value → List Value}
abbrev forBack (env : Env) (K : Flow → Sem Fin) (H : Value → Sem Fin) (gd : Bool → Bool) (lv : List Value → List Value) (c : Code) (p : Pos) : Frame :=
 .ret (fun r => ((match r with | .ok f => (.pure f : Sem Flow) | .error e => .raise e).onRaise fun (x : Value) => do
    if (← field x 1) == Value.none then unsupported "frame.own-activation:exception-without-traceback"
    setFlight x env.frame).wrap K H gd lv) none (gd false) (lv []) c p []
theorem seg_For {target iter : Expr} {body orelse : List Stmt} {pos : Pos} (hs : ∀ x, foldedSetIterable iter env x = pure x)
  (h : wpAny M (A.over c fs) (eval iter env) (fun x s₁ => wpAny M (A.over c fs) (pyIter x) (fun it s₂ => ∀ p, Seg M A R Y n s₀ (.forLoop target it body orelse env) (M.den (.forLoop target it body orelse env)) (forBack env K H gd lv c p :: fs) s₂)
   (fun x s' => Seg M A R Y n s₀ c (H x) fs s') s₁) (fun x s' => Seg M A R Y n s₀ c (H x) fs s') s) :
  Seg M A R Y n s₀ c ((exec (.For target iter body orelse pos) env).wrap K H gd lv) fs s := by
 rw [exec_For]
 refine seg_bind_wrap (wpAny_standAt ?_)
 refine seg_bind_wrap (wpAny_mono h (fun x s₁ h₁ => ?_) fun _ _ e => e)
 refine seg_bind_wrap (wpAny_of_eq (hs x) ?_)
 refine seg_bind_wrap (wpAny_standAt ?_)
 refine seg_bind_wrap (wpAny_holding (wpAny_mono h₁ (fun it s₂ h₂ => ?_) fun _ _ e => e))
 exact seg_call h₂
theorem seg_If {test : Expr} {body orelse : List Stmt} {pos : Pos} (h : wpAny M (A.over c fs) (isTrue test env (eval test env)) (fun b s' => Seg M A R Y n s₀ c ((execs (if b then body else orelse) env).wrap K H gd lv) fs s') (fun x s' => Seg M A R Y n s₀ c (H x) fs s') s) :
  Seg M A R Y n s₀ c ((exec (.If test body orelse pos) env).wrap K H gd lv) fs s := by
 rw [exec_If]
 refine seg_bind_wrap (wpAny_standAt ?_)
 refine seg_bind_wrap (wpAny_mono h (fun b s₁ h₁ => ?_) fun _ _ e => e)
 cases b <;> exact h₁
end
section
variable {prog : Program} {w : World} {A : Around} {R : GenEnd} {Y : Protocol} {n : Nat} {s₀ : Shared} {fs : List Frame} {s : Shared} {env : Env}
theorem seg_forLoop {target : Expr} {it : Value} {body orelse : List Stmt}
  (h : wpAny (model prog w) (A.over (.forLoop target it body orelse env) fs) (pyNext it) (fun r s₁ => match r with
    | none => Seg (model prog w) A R Y n s₀ (.forLoop target it body orelse env) (.pure (.again (.block orelse env))) fs s₁
    | some v => wpAny (model prog w) (A.over (.forLoop target it body orelse env) fs) (letOwnedTupleGo target it v) (fun _ s₂ => wpAny (model prog w) (A.over (.forLoop target it body orelse env) fs) (assign target env v) (fun _ s₃ =>
      ∀ H, Seg (model prog w) A R Y n s₀ (.forLoop target it body orelse env) ((execs body env).wrap (fun f => match f with
       | .next | .cont => .pure (.again (.forLoop target it body orelse env))
       | .brk => .pure (.done .next)
       | .ret v => .pure (.done (.ret v))) H id id) fs s₃)
      (fun _ _ => False) s₂) (fun _ _ => False) s₁) (fun _ _ => False) s) :
  Seg (model prog w) A R Y n s₀ (.forLoop target it body orelse env) ((model prog w).den (.forLoop target it body orelse env)) fs s := by
 show Seg _ A R Y n s₀ _ ((forTurn target it body orelse env).onRaise (fun x => do noteFrame x env; theTreesLotGoes x)) fs s
 unfold forTurn
 rw [Sem.onRaise_eq_wrap]
 refine seg_bind_wrap (wpAny_standAt ?_)
 refine seg_bind_wrap (wpAny_onRaise (wpAny_mono h (fun r s₁ h₁ => ?_) fun _ _ e => e.elim))
 cases r with
 | none => exact h₁
 | some v =>
  refine seg_bind_wrap (wpAny_mono h₁ (fun _ s₂ h₂ => ?_) fun _ _ e => e.elim)
  refine seg_bind_wrap (wpAny_mono h₂ (fun _ s₃ h₃ => ?_) fun _ _ e => e.elim)
  rw [Sem.bind_eq_wrap', Sem.wrap_wrap]
  rw [Sem.wrap_congr (execs body env) _ _ (K' := fun f => match f with
       | .next | .cont => .pure (.again (.forLoop target it body orelse env))
       | .brk => .pure (.done .next)
       | .ret v => .pure (.done (.ret v))) (H' := (fun e => (do noteFrame e env; theTreesLotGoes e : Sem Unit).wrap (fun _ => .raise e) .raise id id))
    (fun f => by cases f <;> rfl)
    (fun e => by first | exact Sem.bind_eq_wrap _ _ | (show (do noteFrame e env; theTreesLotGoes e : Sem Unit).bind (fun _ => .raise e) = _; rw [Sem.bind_eq_wrap]))]
  exact h₃ _
end
end Mine
namespace Mine
open PySem PySem.Calls PyProof.Rows PySem.W
theorem execs_append_wrap {env : Env} {K : Flow → Sem Fin} {H : Value → Sem Fin} {gd : Bool → Bool} {lv : List Value → List Value} (rest : List Stmt) : ∀ (pre : List Stmt), (execs (pre ++ rest) env).wrap K H gd lv =
  (execs pre env).wrap (fun f => match f with | .next => (execs rest env).wrap K H gd lv | f => K f) H gd lv
 | [] => rfl
 | st :: pre => by
  rw [List.cons_append, execs_cons_wrap, execs_cons_wrap]
  refine Sem.wrap_congr _ _ _ (fun f => ?_) fun _ => rfl
  cases f <;> first | exact execs_append_wrap rest pre | rfl
def Ch (L S : Addr) (href : Heap) (s₀ s : Shared) : Prop := ∃ h' tk, s = { s₀ with heap := h', toks := tk } ∧ ∀ b o, (b = S ∨ (b ≠ L ∧ ∃ o', href.get? b = some o')) → s₀.heap.get? b = some o → h'.get? b = some o
theorem Ch.refl {L S href s} : Ch L S href s s := ⟨s.heap, s.toks, rfl, fun _ _ _ e => e⟩
theorem Ch.step {L S href s₀ s} (x : Ch L S href s₀ s) {h' : Heap} {tk : Nat} (k : ∀ b o, (b = S ∨ (b ≠ L ∧ ∃ o', href.get? b = some o')) → s.heap.get? b = some o → h'.get? b = some o) : Ch L S href s₀ { s with heap := h', toks := tk } := by
 obtain ⟨h₁, t₁, rfl, k₁⟩ := x
 exact ⟨h', tk, rfl, fun b o hb e => k b o hb (k₁ b o hb e)⟩
theorem Ch.trans {L S href s₀ s s'} (x : Ch L S href s₀ s) (y : Ch L S href s s') : Ch L S href s₀ s' := by
 obtain ⟨h', tk, rfl, k⟩ := y
 exact x.step k
def OnlyL (L : Addr) (s s' : Shared) : Prop := ∃ h' tk, s' = { s with heap := h', toks := tk } ∧ ∀ b o, b ≠ L → s.heap.get? b = some o → h'.get? b = some o
def Kept (L : Addr) (href : Heap) (s : Shared) : Prop := ∀ b o, b ≠ L → href.get? b = some o → s.heap.get? b = some o
abbrev gProto (L S : Addr) (href : Heap) (pz : Nat → Bool) (n₀ : Nat) (P : Nat → Value → Prop) : Protocol := fun m s₀ v s kap =>
 (∃ i, (passing pz n₀ 0)[(passing pz n₀ 0).length - 1 - m]? = some i ∧ P i v) ∧ Ch L S href s₀ s ∧ ∀ s'' : Shared, (∀ b o, b ≠ S → s.heap.get? b = some o → s''.heap.get? b = some o) → kap (.send .none) s''
abbrev gEnd (L S : Addr) (href : Heap) : GenEnd := fun n s₀ r s₁ => r = .ok (.ret .none) ∧ (n = 0 ∧ Ch L S href s₀ s₁)
structure SelBody (prog : Program) (w : World) (env : Env) (href : Heap) (x : Str) (P : Nat → Value → Prop) (pz : Nat → Bool) (pre : List Stmt) (test : Expr) (T : Nat → (Str → Option Value) → Prop) : Prop where
 pre : ∀ (A' : Around) E i v (s : Shared) m, A'.handled = none → P i v → Kept env.locals href s → s.heap.Ns env.locals m → m x = some v →
  wpAny (model prog w) A' (execs pre env) (fun f s' => f = .next ∧ OnlyL env.locals s s' ∧ ∃ m', s'.heap.Ns env.locals m' ∧ m' x = some v ∧ T i m') E s
 test : ∀ (A' : Around) E i v (s : Shared) m, A'.handled = none → P i v → Kept env.locals href s → s.heap.Ns env.locals m → m x = some v → T i m →
  wpAny (model prog w) A' (isTrue test env (eval test env)) (fun b s' => b = pz i ∧ Keeps s s') E s
section
variable {prog : Program} {w : World} {A : Around} {env : Env} {S : Addr} {href : Heap} {x : Str} {P : Nat → Value → Prop} {pz : Nat → Bool} {pre : List Stmt} {test : Expr} {T : Nat → (Str → Option Value) → Prop} {px p1 p2 p3 p4 p5 : Pos}
theorem block_nil {A : Around} {R : GenEnd} {Y : Protocol} {n : Nat} {s₀ : Shared} {fs : List Frame} {s : Shared} {k h g l c₁ p₁ kp} (hk : Seg (model prog w) A R Y n s₀ c₁ (k (.ok .next)) fs s) :
  Seg (model prog w) A R Y n s₀ (.block [] env) ((model prog w).den (.block [] env)) (.ret k h g l c₁ p₁ kp :: fs) s := by
 exact seg_leaf (.ok .next) hk
abbrev selBody (pre : List Stmt) (test : Expr) (x : Str) (p1 p2 p3 p4 : Pos) : List Stmt := pre ++ [.If test [.Expr (.Yield (some (.Name x p1)) p2) p3] [] p4]
set_option maxHeartbeats 1000000 in
theorem seg_selLoop (hh : A.handled = none) {I : Addr} {fp : List Addr} {n₀ : Nat} {St₀ : Nat → Heap → Prop} (W₀ : ∀ A' : Around, A'.handled = none → Walks prog w A' I fp [I] n₀ P St₀)
  (hx : env.kindOf x = some .local) (hk : env.scope.kind = .function) (hco : env.scope.isCoroutine = false) (hxd : (x == ("__debug__" : Str)) = false) (hLf : env.locals ∉ fp) (hI : href.get? I = none) (hIS : I ≠ S) (hIL : I ≠ env.locals) (hSL : S ≠ env.locals) (hSf : S ∉ fp) (hB : SelBody prog w env href x P pz pre test T) (hS : href.get? S = none)
  {K : Flow → Sem Fin} {H : Value → Sem Fin} {c : Code} {p : Pos} (hdone : ∀ s₀ s, Ch env.locals S href s₀ s → Seg (model prog w) A (gEnd env.locals S href) (gProto env.locals S href pz n₀ P) 0 s₀ c (K .next) [] s) :
  ∀ (k i : Nat) (s₀ s : Shared) (m : Str → Option Value), n₀ - i = k → i ≤ n₀ → St₀ i s.heap → s.heap.Ns env.locals m → Ch env.locals S href s₀ s → Kept env.locals href s →
   Seg (model prog w) A (gEnd env.locals S href) (gProto env.locals S href pz n₀ P) (passing pz n₀ i).length s₀
    (.forLoop (.Name x px) (.ref I) (selBody pre test x p1 p2 p3 p4) [] env) ((model prog w).den (.forLoop (.Name x px) (.ref I) (selBody pre test x p1 p2 p3 p4) [] env)) [forBack env K H id id c p] s := by
 have hh' : ∀ c fs0, fs0 = [forBack env K H id id c p] → (A.over (.forLoop (.Name x px) (.ref I) (selBody pre test x p1 p2 p3 p4) [] env) fs0).handled = none := by
  rintro c fs0 rfl; exact hh
 have hh1 : (A.over (.forLoop (.Name x px) (.ref I) (selBody pre test x p1 p2 p3 p4) [] env) [forBack env K H id id c p]).handled = none := hh
 have hp : (env.scope.kind == .class || (env.scope.kind == .module && env.locals != env.globals)) = false := by rw [hk]; rfl
 intro k
 induction k with
 | zero =>
  intro i s₀ s m hk' hi hst hn hch hkp
  have hin : i = n₀ := by omega
  subst hin
  refine seg_forLoop ((W₀ _ hh1).done s _ _ hst fun h' tk hk'' => ?_)
  refine seg_again rfl (block_nil ?_)
  rw [passing_end]
  show Seg _ _ _ _ 0 s₀ c (K .next) [] _
  refine hdone _ _ (hch.step fun b o hb e => hk'' b o (fun q => ?_) e)
  have := List.mem_singleton.mp q
  subst this
  rcases hb with hb | ⟨_, o', ho'⟩
  ·exact hIS hb
  ·rw [hI] at ho'; cases ho'
 | succ k ih =>
  intro i s₀ s m hk' hi hst hn hch hkp
  have hlt : i < n₀ := by omega
  refine seg_forLoop ((W₀ _ hh1).item i s _ _ hlt hst fun v h₁ tk₁ hPv hst₁ hk₁ => ?_)
  dsimp only
  refine wpAny_of_eq (a := ()) (rfl : letOwnedTupleGo (.Name x px) (.ref I) v = pure ()) ?_
  have up1 : ∀ b o, b ≠ I → s.heap.get? b = some o → h₁.get? b = some o := fun b o hb e => hk₁ b o (fun q => hb (List.mem_singleton.mp q)) e
  refine wpAny_assign_Name (wpAny_storeName_local hx (hn.at' fun o e => up1 _ o (Ne.symm hIL) e) (fun h₂ hn₂ hs₂ => ?_) hp)
  intro Hx
  have up2 : ∀ b o, b ≠ env.locals → b ≠ I → s.heap.get? b = some o → h₂.get? b = some o := fun b o hbL hbI e => hs₂.extBut b o hbL (up1 b o hbI e)
  have hst₂ : St₀ (i + 1) h₂ := (W₀ A hh).frame _ _ _ hst₁ fun b hb o e => hs₂.extBut b o (fun h => hLf (h ▸ hb)) e
  have chI : ∀ b, (b = S ∨ (b ≠ env.locals ∧ ∃ o', href.get? b = some o')) → b ≠ env.locals ∧ b ≠ I := fun b hb => by
   rcases hb with rfl | ⟨h1, o', ho'⟩
   ·exact ⟨hSL, Ne.symm hIS⟩
   ·exact ⟨h1, fun q => by rw [q, hI] at ho'; cases ho'⟩
  have kp2 : Kept env.locals href { s with heap := h₂, toks := tk₁ + 1 } := fun b o hb e => up2 b o hb (fun q => by rw [q, hI] at e; cases e) (hkp b o hb e)
  rw [execs_append_wrap]
  refine seg_wrap (wpAny_mono (hB.pre _ _ i v _ _ hh1 hPv kp2 hn₂ (by simp)) (fun f s₃ h₃ => ?_) fun _ _ e => e)
  obtain ⟨rfl, ⟨h3, tk3, rfl, hk3⟩, m', hn₃, hm', hT⟩ := h₃
  have kp3 : Kept env.locals href { s with heap := h3, toks := tk3 } := fun b o hb e => hk3 b o hb (kp2 b o hb e)
  refine seg_execs_cons (seg_If (wpAny_mono (hB.test _ _ i v _ _ hh1 hPv kp3 hn₃ hm' hT) (fun b s₄ h₄ => ?_) fun _ _ e => e))
  obtain ⟨rfl, h4, tk4, rfl, hk4⟩ := h₄
  have hst₄ : St₀ (i + 1) h4 := (W₀ A hh).frame _ _ _ hst₂ fun b hb o e => hk4 b o (hk3 b o (fun h => hLf (h ▸ hb)) e)
  have hn₄ := hn₃.keeps hk4
  have hch4 : Ch env.locals S href s₀ { s with heap := h4, toks := tk4 } := hch.step fun b o hb e => hk4 b o (hk3 b o (chI b hb).1 (up2 b o (chI b hb).1 (chI b hb).2 e))
  have kp4 : Kept env.locals href { s with heap := h4, toks := tk4 } := fun b o hb e => hk4 b o (kp3 b o hb e)
  cases hpz : pz i with
  | false =>
   rw [passing_false hlt hpz]
   simp only [Bool.false_eq_true, if_false]
   refine seg_execs_nil (seg_execs_nil ?_)
   exact seg_again rfl (ih (i + 1) s₀ _ _ (by omega) hlt hst₄ hn₄ hch4 kp4)
  | true =>
   rw [passing_true hlt hpz, List.length_cons]
   simp only [if_true]
   refine seg_execs_cons (seg_Expr_Yield rfl rfl rfl ?_ hco (by unfold interactive; rw [hk]; rfl))
   refine wpAny_Name (wpAny_loadName_local hk hx hn₄ hm' fun kap hkap => ?_) hxd
   refine ⟨⟨i, passing_here hlt hpz, hPv⟩, hch4, fun s'' hal => ?_⟩
   refine hkap _ _ ?_
   refine seg_execs_nil (seg_execs_nil ?_)
   refine seg_again rfl (ih (i + 1) s'' s'' _ (by omega) hlt ((W₀ A hh).frame _ _ _ hst₄ fun b hb o e => hal b o (fun h => hSf (h ▸ hb)) e) (hn₄.at' fun o e => hal _ o (Ne.symm hSL) e) Ch.refl fun b o hb e => hal b o (fun q => by rw [q, hS] at e; cases e) (kp4 b o hb e))
end
end Mine
namespace Mine
open PySem PySem.Calls PyProof.Rows PySem.W
structure Fills (prog : Program) (w : World) (A : Around) (a S : Addr) (n : Nat) (P : Nat → Value → Prop) (St : Nat → Shared → Prop) : Prop where
 gen : ∀ j s, St j s → s.TypeIs (.ref a) "generator"
 self : ∀ j s (Q : Value → Shared → Prop) (E : Value → Shared → Prop), St j s → Q (.ref a) s → wpAny (model prog w) A (pyIter (.ref a)) Q E s
 frame : ∀ j (s : Shared) h' tk, St j s → (∀ b o, b ≠ S → s.heap.get? b = some o → h'.get? b = some o) → (∃ oS, h'.get? S = some oS) → St j { s with heap := h', toks := tk }
 item : ∀ j (s : Shared) (Q : Option Value → Shared → Prop) (E : Value → Shared → Prop), j < n → St j s → (∀ v s', P j v → St (j + 1) s' → (∀ o, s.heap.get? S = some o → s'.heap.get? S = some o) → Q (some v) s') → wpAny (model prog w) A (pyNext (.ref a)) Q E s
 done : ∀ (s : Shared) (Q : Option Value → Shared → Prop) (E : Value → Shared → Prop), St n s → (∀ s', St (n + 1) s' → (∀ o, s.heap.get? S = some o → s'.heap.get? S = some o) → Q none s') → wpAny (model prog w) A (pyNext (.ref a)) Q E s
section
variable {prog : Program} {w : World} {A : Around} {a S : Addr} {n : Nat} {P : Nat → Value → Prop} {St : Nat → Shared → Prop} {R : Result → Shared → Prop}
theorem fill_loop (W : Fills prog w A.in1 a S n P St) (hn : n ≤ sizeLine) (res : Value) :
  ∀ (k j : Nat) (s : Shared) (acc : Array Value) (c : Nat), n - j = k → j ≤ n → St j s → s.heap.get? S = some { cls := .type "list", dict := none, data := .seq acc c, slots := #[] } → ItemsOf P acc j →
  (∀ s' acc' c', St (n + 1) s' → s'.heap.get? S = some { cls := .type "list", dict := none, data := .seq acc' c', slots := #[] } → ItemsOf P acc' n → R (.ok (.ret res)) s') →
  codeAny (model prog w) A (.builtin "list.extend.loop" ⟨[.ref S, .ref a, res], []⟩) R s := by
 intro k
 induction k with
 | zero =>
  intro j s acc c hk hj hst hS hacc hR
  have hin : j = n := by omega
  subst hin
  refine codeAny_builtin F.entry_extend_loop ?_
  rw [Around.under_plainId F.plain_extend_loop _]
  show wpAny _ A.in1 (pyNext (.ref a) >>= _) _ _ s
  refine wpAny_bind (W.done s _ _ hst fun s' hst' hS' => ?_)
  exact wpAny_pure (hR s' acc c hst' (hS' _ hS) hacc)
 | succ k ih =>
  intro j s acc c hk hj hst hS hacc hR
  have hlt : j < n := by omega
  refine codeAny_builtin F.entry_extend_loop ?_
  rw [Around.under_plainId F.plain_extend_loop _]
  show wpAny _ A.in1 (pyNext (.ref a) >>= _) _ _ s
  refine wpAny_bind (W.item j s _ _ hlt hst fun v s' hP hst' hS' => ?_)
  have hS₁ := hS' _ hS
  show wpAny _ A.in1 (updateSeq S (·.push v) >>= _) _ _ _
  refine wpAny_bind ?_
  have hS₂ := Heap.get?_update_self (Obj.mapSeq (·.push v)) hS₁ rfl
  refine wpAny_updateSeq hS₁ rfl (wpAny_pure ⟨plainId_quiet F.plain_extend_loop _, ih (j + 1) _ (acc.push v) _ (by omega) hlt (W.frame _ s' _ s'.toks hst' (fun b o hb e => ?_) ⟨_, hS₂⟩) hS₂ (hacc.push hP) hR⟩)
   (by rw [hacc.1]; omega) (by show (acc.push v).size ≤ sizeLine + 1; rw [Array.size_push, hacc.1]; omega)
  exact (Heap.get?_update_other _ _ (Ne.symm hb)).trans e
theorem fill_extend {s : Shared} (W : Fills prog w A.in1 a S n P St) (hn : n ≤ sizeLine) (res : Value) (c₀ : Nat) (hst : St 0 s) (hSa : S ≠ a)
  (hS : s.heap.get? S = some { cls := .type "list", data := .seq #[] c₀ })
  (hR : ∀ s' acc' c', St (n + 1) s' → s'.heap.get? S = some { cls := .type "list", dict := none, data := .seq acc' c', slots := #[] } → ItemsOf P acc' n → R (.ok (.ret res)) s') :
  wpAny (model prog w) A.in1 (Builtin.List.listExtendWith (.ref S) (.ref a) res)
   (fun fin s' => match fin with | .done f => R (.ok f) s' | .again c' => c'.quiet = true ∧ codeAny (model prog w) A c' R s') (fun e s' => R (.error e) s') s := by
 unfold Builtin.List.listExtendWith
 refine wpAny_bind (wpAny_typeOf (W.gen 0 _ hst) ?_)
 have h1 : Builtin.List.listSameRef (.ref S) (.ref a) = false := by simp [Builtin.List.listSameRef, hSa]
 have h2 : (Value.type "generator" == Value.type "list") = false := by decide
 have h3 : (Value.type "generator" == Value.type "tuple") = false := by decide
 simp only [h1, h2, h3, Bool.or_false, Bool.false_eq_true, if_false]
 refine wpAny_bind (W.self 0 _ _ _ hst ?_)
 refine wpAny_bind (wpAny_holding ?_)
 unfold Builtin.List.listLengthHint
 refine wpAny_bind (wpAny_specialOf (W.gen 0 _ hst) F.gen_no_len ?_)
 show wpAny _ A.in1 (specialOf (Value.ref a) (Str.ofString "__length_hint__") >>= _) _ _ _
 refine wpAny_bind (wpAny_specialOf (W.gen 0 _ hst) F.gen_no_hint ?_)
 refine wpAny_pure ?_
 show wpAny _ A.in1 (rule "list.extend.makes-room" >>= fun _ => Builtin.List.listTouch (.ref S) >>= fun _ =>
  again (.builtin "list.extend.loop" ⟨[.ref S, .ref a, res], []⟩)) _ _ _
 refine wpAny_bind (wpAny_rule ?_)
 refine wpAny_bind ?_
 show wpAny _ A.in1 (updateSeq S (·.push .none) >>= fun _ => updateSeq S (·.pop)) _ _ _
 refine wpAny_bind (wpAny_updateSeq hS rfl ?_)
 have hS₂ := Heap.get?_update_self (Obj.mapSeq (·.push Value.none)) hS rfl
 refine wpAny_updateSeq (hz := by seq_fits) hS₂ rfl ?_
 have hS₃ := Heap.get?_update_self (Obj.mapSeq (·.pop)) hS₂ rfl
 have oth : ∀ b o, b ≠ S → s.heap.get? b = some o → ((s.heap.update S (Obj.mapSeq (·.push Value.none))).update S (Obj.mapSeq (·.pop))).get? b = some o :=
  fun b o hb e => (Heap.get?_update_other _ _ (Ne.symm hb)).trans ((Heap.get?_update_other _ _ (Ne.symm hb)).trans e)
 exact wpAny_pure ⟨plainId_quiet F.plain_extend_loop _, fill_loop W hn _ n 0 _ _ _ rfl (Nat.zero_le _) (W.frame 0 s _ s.toks hst oth ⟨_, hS₃⟩) hS₃ (ItemsOf.nil P) hR⟩
theorem fill_init {s : Shared} (W : Fills prog w A.in1 a S n P St) (hn : n ≤ sizeLine) (hst : St 0 s) (hSa : S ≠ a)
  (hS : s.heap.get? S = some { cls := .type "list", data := .seq #[] })
  (hR : ∀ s' acc' c', St (n + 1) s' → s'.heap.get? S = some { cls := .type "list", dict := none, data := .seq acc' c', slots := #[] } → ItemsOf P acc' n → R (.ok (.ret .none)) s') :
  wpAny (model prog w) A.in1 (Builtin.«list.__init__» ⟨[.ref S, .ref a], []⟩)
   (fun fin s' => match fin with | .done f => R (.ok f) s' | .again c' => c'.quiet = true ∧ codeAny (model prog w) A c' R s') (fun e s' => R (.error e) s') s := by
 show wpAny _ A.in1 (do let old ← Builtin.List.listItems (.ref S); Builtin.List.listUpdate (.ref S) (fun _ => #[]); letGo old.toList.reverse; Builtin.List.listExtendWith (.ref S) (.ref a) .none) _ _ s
 refine wpAny_bind ?_
 unfold Builtin.List.listItems
 refine wpAny_bind (wpAny_seqItems hS rfl (wpAny_pure ?_))
 show wpAny _ A.in1 (updateSeq S (fun _ => #[]) >>= fun _ => letGo (#[] : Array Value).toList.reverse >>= fun _ => Builtin.List.listExtendWith (.ref S) (.ref a) .none) _ _ s
 refine wpAny_bind (wpAny_updateSeq hS rfl ?_)
 have hS₂ := Heap.get?_update_self (Obj.mapSeq (fun _ => (#[] : Array Value))) hS rfl
 have oth : ∀ b o, b ≠ S → s.heap.get? b = some o → (s.heap.update S (Obj.mapSeq (fun _ => (#[] : Array Value)))).get? b = some o :=
  fun b o hb e => (Heap.get?_update_other _ _ (Ne.symm hb)).trans e
 refine wpAny_bind (wpAny_letGo ?_)
 exact fill_extend W hn .none _ (W.frame 0 s _ s.toks hst oth ⟨_, hS₂⟩) hSa hS₂ hR
end
section
variable {prog : Program} {w : World} {A : Around} {E : Value → Shared → Prop} {s : Shared} {a : Addr} {n : Nat} {P : Nat → Value → Prop} {St : Nat → Shared → Prop}
theorem fill_list {Q : Value → Shared → Prop} (W : Fills prog w A.in1.in1 a s.heap.objs.size n P St) (hst : St 0 { s with heap := s.heap.push { cls := .type "list", data := .seq #[] } }) (ha : a < s.heap.objs.size)
  (hQ : ∀ s' acc' c', St (n + 1) s' → s'.heap.get? s.heap.objs.size = some { cls := .type "list", dict := none, data := .seq acc' c', slots := #[] } → ItemsOf P acc' n → Q (.ref s.heap.objs.size) s') (hn : n ≤ sizeLine) :
  wpAny (model prog w) A (call (.type "list") [.ref a]) Q E s := by
 refine callType_codes (Q₁ := fun obj s₁ => obj = .ref s.heap.objs.size ∧ s₁ = { s with heap := s.heap.push { cls := .type "list", data := .seq #[] } }) F.called_list (F.typeCall_list_1 _) F.entry_list_init
  (code_list_new _ ⟨rfl, rfl⟩) fun obj s₁ h₁ => ?_
 obtain ⟨rfl, rfl⟩ := h₁
 have hS : (s.heap.push { cls := .type "list", data := .seq #[] }).get? s.heap.objs.size = some { cls := .type "list", data := .seq #[] } := Heap.get?_push_size _ rfl
 refine ⟨⟨_, hS, rfl⟩, F.args_list_init_2 _ _, fill_init (s := { s with heap := s.heap.push { cls := .type "list", data := .seq #[] } }) W hn hst (Nat.ne_of_gt ha) hS fun s' acc' c' hm hS' hacc => ?_⟩
 exact ⟨rfl, hQ s' acc' c' hm hS' hacc⟩
end
end Mine
namespace Mine
open PySem PySem.Calls PyProof.Rows PySem.W
section
variable {prog : Program} {w : World} {A : Around} {env : Env} {S : Addr} {href : Heap} {x rs : Str} {vs : List Value} {pz : Nat → Bool} {pre : List Stmt} {test : Expr} {T : Nat → (Str → Option Value) → Prop} {px pr p1 p2 p3 p4 bpos : Pos}
abbrev selFn (x rs : Str) (px pr : Pos) (pre : List Stmt) (test : Expr) (p1 p2 p3 p4 bpos : Pos) : List Stmt := [.For (.Name x px) (.Name rs pr) (selBody pre test x p1 p2 p3 p4) [] bpos]
set_option maxHeartbeats 1000000 in
theorem seg_selStart (hh : A.handled = none) {l : Addr} {m : Str → Option Value} {s : Shared}
  (hx : env.kindOf x = some .local) (hrs : env.kindOf rs = some .local) (hk : env.scope.kind = .function) (hco : env.scope.isCoroutine = false) (hxd : (x == ("__debug__" : Str)) = false) (hrd : (rs == ("__debug__" : Str)) = false)
  (hSL : S ≠ env.locals) (hS : href.get? S = none) (hSs : ∃ oS, s.heap.get? S = some oS) (hl : href.IsList l vs.toArray) (hlL : l ≠ env.locals)
  (hB : SelBody prog w env href x (fun i v => vs.toArray[i]? = some v) pz pre test T) (hkp : Kept env.locals href s) (hn : s.heap.Ns env.locals m) (hm : m rs = some (.ref l)) :
  Seg (model prog w) A (gEnd env.locals S href) (gProto env.locals S href pz vs.toArray.size (fun i v => vs.toArray[i]? = some v)) (passing pz vs.toArray.size 0).length s
   (.func (selFn x rs px pr pre test p1 p2 p3 p4 bpos) env) ((model prog w).den (.func (selFn x rs px pr pre test p1 p2 p3 p4 bpos) env)) [] s := by
 have hls : s.heap.IsList l vs.toArray := by
  obtain ⟨o, h1, h2⟩ := hl
  exact ⟨o, hkp _ _ hlL h1, h2⟩
 refine seg_func (seg_execs_cons (seg_For (fun _ => rfl) ?_))
 refine wpAny_Name (wpAny_loadName_local hk hrs hn hm ?_) hrd
 refine wpAny_pyIter_list hls ?_
 intro p
 have lt := hn.lt
 have hIS : s.heap.objs.size ≠ S := fun q => by
  obtain ⟨oS, e⟩ := hSs
  rw [← q, (Heap.get?_none_of_le (Nat.le_refl _))] at e; cases e
 have hIL : s.heap.objs.size ≠ env.locals := Nat.ne_of_gt lt
 have hI : href.get? s.heap.objs.size = none := by
  cases q : href.get? s.heap.objs.size with
  | none => rfl
  | some o =>
   have := hkp _ _ hIL q
   rw [(Heap.get?_none_of_le (Nat.le_refl _))] at this; cases this
 have hlI : l ≠ s.heap.objs.size := fun q => by
  obtain ⟨o, e, _⟩ := hls
  rw [q, (Heap.get?_none_of_le (Nat.le_refl _))] at e; cases e
 have hlS : l ≠ S := fun q => by
  obtain ⟨o, e, _⟩ := hl
  rw [q, hS] at e; cases e
 refine seg_selLoop (fp := [s.heap.objs.size, l]) (n₀ := vs.toArray.size) hh (fun A' hA' => Walks.list hA' s.heap.objs.size l hlI vs.toArray) hx hk hco hxd ?_ hI hIS hIL hSL ?_ hB hS ?_ vs.toArray.size 0 s _ m (by simp) (Nat.zero_le _) ⟨⟨_, Heap.get?_push_size _ rfl, rfl, rfl⟩, ?_⟩ (hn.push _) ?_ ?_
 ·simp only [List.mem_cons, List.not_mem_nil, or_false, not_or]; exact ⟨Ne.symm hIL, Ne.symm hlL⟩
 ·simp only [List.mem_cons, List.not_mem_nil, or_false, not_or]; exact ⟨Ne.symm hIS, Ne.symm hlS⟩
 ·intro s₀ s₁ hc
  refine seg_end (.ok (.ret .none)) ⟨rfl, rfl, hc⟩
 ·obtain ⟨o, e, r⟩ := hls; exact ⟨o, Heap.get?_push_of_some _ e, r⟩
 ·exact Ch.refl.step (tk := s.toks) fun b o _ e => Heap.get?_push_of_some _ e
 ·exact fun b o hb e => Heap.get?_push_of_some _ (hkp b o hb e)
end
end Mine
namespace Mine
open PySem PySem.Calls PyProof.Rows PySem.W
section
variable {prog : Program} {w : World} {A : Around} {E : Value → Shared → Prop} {env : Env} {S : Addr} {x rs : Str} {vs : List Value} {pz : Nat → Bool} {pre : List Stmt} {test : Expr} {T : Nat → (Str → Option Value) → Prop} {px pr p1 p2 p3 p4 bpos : Pos}
structure SelAt (prog : Program) (w : World) (A : Around) (L S : Addr) (sr : Shared) (a : Addr) (g : Nat) (pz : Nat → Bool) (n₀ : Nat) (P : Nat → Value → Prop) (j : Nat) (s : Shared) : Prop where
 gen : s.heap.IsGen a g
 lim : s.heap.NoLimit
 list : ∃ oS, s.heap.get? S = some oS
 kept : Kept L sr.heap s
 os : s.os = sr.os
 only : GenOnly g sr.gens s.gens
 state : ∃ gs, s.gens[g]? = some gs ∧ (j = (passing pz n₀ 0).length + 1 → gs = .finished) ∧ (j ≤ (passing pz n₀ 0).length → ∀ s'' : Shared, (∀ b o, b ≠ S → s.heap.get? b = some o → s''.heap.get? b = some o) → (∃ oS, s''.heap.get? S = some oS) →
  gs.Goes (model prog w) A.in1 (gEnd L S sr.heap) (gProto L S sr.heap pz n₀ P) ((passing pz n₀ 0).length - j) (.send .none) s'')
theorem kept_lim {L : Addr} {href : Heap} {s : Shared} (hl : href.NoLimit) (hc : cStatics ≠ L) (hk : Kept L href s) : s.heap.NoLimit := by
 obtain ⟨mc, hn, hm⟩ := hl
 exact ⟨mc, hn.at' fun o e => hk _ o hc e, hm⟩
theorem kept_gen {L a : Addr} {g : Nat} {href : Heap} {s : Shared} (hl : href.IsGen a g) (hc : a ≠ L) (hk : Kept L href s) : s.heap.IsGen a g := by
 obtain ⟨o, nm, qn, e, r⟩ := hl
 exact ⟨o, nm, qn, hk _ o hc e, r⟩
set_option maxHeartbeats 1000000 in
theorem sel_fills {L a : Addr} {g : Nat} {sr : Shared} {n₀ : Nat} {P : Nat → Value → Prop} (hh : A.handled = none) (hroom : A.depth < recursionLimit) (hS : sr.heap.get? S = none) (hSL : S ≠ L) (haL : a ≠ L) (hcL : cStatics ≠ L) (hga : sr.heap.IsGen a g) (hlim : sr.heap.NoLimit) :
  Fills prog w A a S (passing pz n₀ 0).length (fun j y => ∃ i, (passing pz n₀ 0)[j]? = some i ∧ P i y) (SelAt prog w A L S sr a g pz n₀ P) where
 gen := fun j s st => st.gen.typeIs
 self := fun j s Q E st hQ => wpAny_pyIter_gen st.gen hQ
 frame := fun j s h' tk st hk hS' => by
  have kp : Kept L sr.heap { s with heap := h', toks := tk } := fun b o hb e => hk b o (fun q => by rw [q, hS] at e; cases e) (st.kept b o hb e)
  obtain ⟨gs, h1, h2, h3⟩ := st.state
  exact ⟨kept_gen hga haL kp, kept_lim hlim hcL kp, hS', kp, st.os, st.only, gs, h1, h2, fun hj s'' hal => h3 hj s'' fun b o hb e => hal b o hb (hk b o hb e)⟩
 item := fun j s Q E hj st hQ => by
  obtain ⟨gs, hgs, _, hgo⟩ := st.state
  obtain ⟨m, hm⟩ : ∃ m, (passing pz n₀ 0).length - j = m + 1 := ⟨(passing pz n₀ 0).length - j - 1, by omega⟩
  have hgo := hgo (Nat.le_of_lt hj)
  rw [hm] at hgo
  refine wpAny_pyNext_gen (P := fun n s₀ s₁ => n = 0 ∧ Ch L S sr.heap s₀ s₁) hh st.lim hroom st.gen hgs (hgo _ (fun _ _ _ e => e) st.list) (fun v s₁ gs' hv => ?_) (fun s₁ hp h' hk => ?_)
  ·obtain ⟨⟨i, hi, hP⟩, ⟨h₁, tk₁, rfl, hk₁⟩, hkap⟩ := hv
   have hidx : (passing pz n₀ 0).length - 1 - (m + 1 - 1) = j := by omega
   rw [hidx] at hi
   have kp : Kept L sr.heap ({ s.setGen g .running with heap := h₁, toks := tk₁ }.setGen g gs') := fun b o hb e => hk₁ b o (.inr ⟨hb, o, e⟩) (st.kept b o hb e)
   refine hQ v _ ⟨i, hi, hP⟩ ⟨kept_gen hga haL kp, kept_lim hlim hcL kp, ?_, kp, st.os, ?_, gs', setGen_self (gs := .running) (setGen_self hgs), fun q => by omega, fun hj' s'' hal hS'' => ?_⟩ fun o e => hk₁ S o (.inl rfl) e
   ·obtain ⟨oS, e⟩ := st.list; exact ⟨oS, hk₁ S oS (.inl rfl) e⟩
   ·exact (st.only.trans (GenOnly.setGen s g .running)).trans (GenOnly.setGen _ g gs')
   ·have e : (passing pz n₀ 0).length - (j + 1) = m := by omega
    rw [e]
    exact hkap s'' hal
  ·exact absurd hp.1 (Nat.succ_ne_zero m)
 done := fun s Q E st hQ => by
  obtain ⟨gs, hgs, _, hgo⟩ := st.state
  have hgo := hgo (Nat.le_refl _)
  rw [Nat.sub_self] at hgo
  refine wpAny_pyNext_gen (P := fun n s₀ s₁ => n = 0 ∧ Ch L S sr.heap s₀ s₁) hh st.lim hroom st.gen hgs (hgo _ (fun _ _ _ e => e) st.list) (fun v s₁ gs' hv => ?_) (fun s₁ hp h' hk => ?_)
  ·obtain ⟨_, _, hkap⟩ := hv
   exact False.elim (hkap s₁ fun _ _ _ e => e)
  ·obtain ⟨_, h₁, tk₁, rfl, hk₁⟩ := hp
   have up : ∀ b o, (b = S ∨ (b ≠ L ∧ ∃ o', sr.heap.get? b = some o')) → s.heap.get? b = some o → h'.get? b = some o := fun b o hb e => hk b o (hk₁ b o hb e)
   have kp : Kept L sr.heap ({ ({ s.setGen g .running with heap := h₁, toks := tk₁ }.setGen g .finished) with heap := h' }) := fun b o hb e => up b o (.inr ⟨hb, o, e⟩) (st.kept b o hb e)
   refine hQ _ ⟨kept_gen hga haL kp, kept_lim hlim hcL kp, ?_, kp, st.os, ?_, .finished, setGen_self (gs := .running) (setGen_self hgs), fun _ => rfl, fun q => by omega⟩ fun o e => up S o (.inl rfl) e
   ·obtain ⟨oS, e⟩ := st.list; exact ⟨oS, up S oS (.inl rfl) e⟩
   ·exact (st.only.trans (GenOnly.setGen s g .running)).trans (GenOnly.setGen _ g .finished)
theorem sel_list {l a : Addr} {g : Nat} {m : Str → Option Value} {s : Shared} {Q : Value → Shared → Prop} (hh : A.handled = none) (hroom : A.depth < recursionLimit)
  (hx : env.kindOf x = some .local) (hrs : env.kindOf rs = some .local) (hk : env.scope.kind = .function) (hco : env.scope.isCoroutine = false) (hxd : (x == ("__debug__" : Str)) = false) (hrd : (rs == ("__debug__" : Str)) = false)
  (hl : s.heap.IsList l vs.toArray) (hlL : l ≠ env.locals) (haL : a ≠ env.locals) (hcL : cStatics ≠ env.locals) (hlim : s.heap.NoLimit) (hga : s.heap.IsGen a g) (hgs : s.gens[g]? = some (.fresh (.func (selFn x rs px pr pre test p1 p2 p3 p4 bpos) env)))
  (hB : SelBody prog w env s.heap x (fun i v => vs.toArray[i]? = some v) pz pre test T) (hn : s.heap.Ns env.locals m) (hm : m rs = some (.ref l)) (hsz : (passing pz vs.toArray.size 0).length ≤ sizeLine)
  (hQ : ∀ s' acc c, Kept env.locals s.heap s' → s'.os = s.os → GenOnly g s.gens s'.gens → s'.gens[g]? = some .finished → s.heap.get? s.heap.objs.size = none → s'.heap.get? s.heap.objs.size = some { cls := .type "list", data := .seq acc c } →
   ItemsOf (fun j y => ∃ i, (passing pz vs.toArray.size 0)[j]? = some i ∧ vs.toArray[i]? = some y) acc (passing pz vs.toArray.size 0).length → Q (.ref s.heap.objs.size) s') :
  wpAny (model prog w) A (call (.type "list") [.ref a]) Q E s := by
 have hS : s.heap.get? s.heap.objs.size = none := Heap.get?_none_of_le (Nat.le_refl _)
 have lt := hn.lt
 have hSL : s.heap.objs.size ≠ env.locals := Nat.ne_of_gt lt
 have hga' := hga
 obtain ⟨o, nm, qn, e, _⟩ := hga'
 have W := sel_fills (prog := prog) (w := w) (A := A.in1.in1) (pz := pz) (n₀ := vs.toArray.size) (P := fun i v => vs.toArray[i]? = some v) (sr := s) hh hroom hS hSL haL hcL hga hlim
 have kp : Kept env.locals s.heap { s with heap := s.heap.push { cls := .type "list", data := .seq #[] } } := fun b o _ e => Heap.get?_push_of_some _ e
 refine fill_list W ⟨kept_gen hga haL kp, kept_lim hlim hcL kp, ⟨_, Heap.get?_push_size _ rfl⟩, kp, rfl, ⟨rfl, fun _ _ => rfl⟩, _, hgs, (fun q => by omega), fun _ s'' hal hSs => ⟨rfl, ?_⟩⟩ (Heap.lt_size e) (fun s' acc c st hS' hit => ?_) hsz
 ·exact seg_selStart (A := A.in1.in1.in1) hh hx hrs hk hco hxd hrd hSL hS hSs hl hlL hB (fun b o hb e => hal b o (fun q => by rw [q, hS] at e; cases e) (Heap.get?_push_of_some _ e)) ((hn.push _).at' fun o e => hal _ o (Ne.symm hSL) e) hm
 ·obtain ⟨gs, h1, h2, _⟩ := st.state
  have := h2 rfl
  subst this
  exact hQ s' acc c st.kept st.os st.only h1 hS hS' hit
end
end Mine
namespace Mine
open PySem PySem.Calls PyProof.Rows PySem.W PySem.Spec
theorem mro_slice : mroOf (.type "slice") = pure [.type "slice", .type "object"] := by rw [mroOf_type]; kernel_rfl
theorem lookup_slice_new : typeLookup (.type "slice") "__new__" = pure (some (.builtin "slice.__new__")) := by rw [typeLookup_type, builtinLookup_eq_fast]; kernel_rfl
theorem slot_slice_init : Slot "slice" "__init__" "object.__init__" :=
 .of (owner := "object") (n := "__init__") (by rw [typeLookup_type, builtinLookup_eq_fast]; kernel_rfl) (by decide +kernel) (by decide +kernel) (by decide +kernel)
  (by first | exact .inl (by decide +kernel) | exact .inr (by decide +kernel)) (by rw [isSubtype_type]; kernel_rfl)
theorem called_slice : TypeCalled "slice" "slice.__new__" "object.__init__" :=
 ⟨by decide +kernel, by decide +kernel, ⟨_, _, mro_slice⟩, madeBy_type mro_slice lookup_slice_new (by decide +kernel), by decide +kernel, by rw [isSubtype_type]; kernel_rfl, slot_slice_init⟩
theorem typeCall_slice_2 (a b : Value) : checkTypeCall "slice" ⟨[a, b], []⟩ = pure () := by kernel_rfl
theorem newCall_slice_2 (a b : Value) : checkBuiltinCall "slice.__new__" ⟨[.type "slice", a, b], []⟩ = pure () := by kernel_rfl
theorem entry_slice_new : entryFor table "slice.__new__" = some Builtin.«slice.__new__» := entryFor_of_tree (by kernel_rfl)
theorem slice_new_meets (a b : Value) : Meets (Builtin.«slice.__new__» ⟨[.type "slice", a, b], []⟩) (fun _ R s => R (.ok (.ret (.ref s.heap.objs.size))) { s with heap := s.heap.push { cls := .type "slice", data := .fields #[a, b, .none] } }) :=
 .of_wp fun prog w A R s h => by
  have hsub := called_slice.sub
  obtain ⟨hp, g, d, tk, os⟩ := s
  unfold Builtin.«slice.__new__»
  refine wpAny_bind (wpAny_of_eq (a := true) (by rfl) ?_)
  rw [if_neg (by decide)]
  refine wpAny_bind (wpAny_of_eq hsub ?_)
  rw [if_neg (by decide)]
  refine wpAny_bind (wpAny_of_eq (a := [a, b]) (by rfl) ?_)
  dsimp only
  refine wpAny_bind ?_
  show wpAny _ _ (newFields "slice" [a, b, .none]) _ _ _
  refine wpAny_newObj_type ?_
  exact wpAny_pure ⟨_, rfl, h⟩
section
variable {prog : Program} {w : World} {A : Around} {E : Value → Shared → Prop} {s : Shared}
theorem call_slice2 {a b : Value} {Q : Value → Shared → Prop} (h : Q (.ref s.heap.objs.size) { s with heap := s.heap.push { cls := .type "slice", data := .fields #[a, b, .none] } }) : wpAny (model prog w) A (call (.type "slice") [a, b]) Q E s :=
 callType_new called_slice (by decide) (typeCall_slice_2 _ _) (newCall_slice_2 _ _) (fun obj => by unfold argsOk; kernel_rfl) entry_slice_new (slice_new_meets a b) ⟨⟨_, Heap.get?_push_size _ rfl, rfl⟩, h⟩
theorem mro_object : mroOf (.type "object") = pure [.type "object"] := by rw [mroOf_type]; kernel_rfl
theorem lookup_object_new : typeLookup (.type "object") "__new__" = pure (some (.builtin "object.__new__")) := by rw [typeLookup_type, builtinLookup_eq_fast]; kernel_rfl
theorem slot_object_init : Slot "object" "__init__" "object.__init__" :=
 .of (owner := "object") (n := "__init__") (by rw [typeLookup_type, builtinLookup_eq_fast]; kernel_rfl) (by decide +kernel) (by decide +kernel) (by decide +kernel)
  (by first | exact .inl (by decide +kernel) | exact .inr (by decide +kernel)) (by rw [isSubtype_type]; kernel_rfl)
theorem called_object : TypeCalled "object" "object.__new__" "object.__init__" :=
 ⟨by decide +kernel, by decide +kernel, ⟨_, _, mro_object⟩, madeBy_type mro_object lookup_object_new (by decide +kernel), by decide +kernel, by rw [isSubtype_type]; kernel_rfl, slot_object_init⟩
theorem typeCall_object_0 : checkTypeCall "object" ⟨[], []⟩ = pure () := by kernel_rfl
theorem newCall_object_0 : checkBuiltinCall "object.__new__" ⟨[.type "object"], []⟩ = pure () := by kernel_rfl
theorem entry_object_new : entryFor table "object.__new__" = some Builtin.«object.__new__» := entryFor_of_tree (by kernel_rfl)
theorem plain_object_new : plainId "object.__new__" = true := by decide +kernel
theorem madeHere_object : Bind.madeHere "object.__new__" (.type "object") = pure () := by
 unfold Bind.madeHere
 have e : Bind.staticBase (.type "object") = pure (.type "object") := by first | rfl | kernel_rfl
 rw [e]
 simp only [pure_bind, called_object.made]
 first | rfl | kernel_rfl | (simp; rfl)
theorem code_object_new {Q : Value → Shared → Prop} (h : Q (.ref s.heap.objs.size) { s with heap := s.heap.push { cls := .type "object", data := .plain } }) :
  codeAny (model prog w) A (.call (.builtin "object.__new__") ⟨[.type "object"], []⟩) (wants Q E) s := by
 refine codeAny_of_tree ?_
 show wpAny _ A.in1 (do checkBuiltinCall "object.__new__" ⟨[.type "object"], []⟩; again (.builtin "object.__new__" ⟨[.type "object"], []⟩)) _ _ s
 refine wpAny_bind (wpAny_of_eq newCall_object_0 (wpAny_pure ⟨plainId_quiet plain_object_new _, codeAny_builtin entry_object_new ?_⟩))
 rw [Around.under_plainId plain_object_new _]
 unfold Builtin.«object.__new__»
 refine wpAny_bind (wpAny_of_eq (a := true) (by rfl) ?_)
 rw [if_neg (by decide)]
 rw [if_neg (by decide +kernel)]
 refine wpAny_bind (wpAny_of_eq madeHere_object ?_)
 rw [if_neg (by decide)]
 refine wpAny_bind (wpAny_of_eq (a := none) (by first | rfl | kernel_rfl) ?_)
 dsimp only
 refine wpAny_bind ?_
 refine wpAny_newObj_type ?_
 rw [if_neg (by decide +kernel)]
 exact wpAny_pure h
theorem call_object0 {Q : Value → Shared → Prop} (h : Q (.ref s.heap.objs.size) { s with heap := s.heap.push { cls := .type "object", data := .plain } }) : wpAny (model prog w) A (call (.type "object") []) Q E s := by
 refine callType_codes (Q₁ := fun obj s₁ => s₁.TypeIs obj "object" ∧ Q obj s₁) called_object typeCall_object_0 F.entry_object_init (code_object_new ⟨⟨_, Heap.get?_push_size _ rfl, rfl⟩, h⟩) fun obj s₁ h₁ => ?_
 refine ⟨h₁.1, PySem.W.oi_args obj, ?_⟩
 rw [PySem.W.oi_run]
 exact wpAny_pure ⟨rfl, h₁.2⟩
end
end Mine
namespace Mine
open PySem PySem.Calls PyProof.Rows PySem.W
theorem zE {cf : Cf} {n : Nat} {K : Kn} {ρ : Rho} {f : Str} {p pos : Pos} {a : Expr} {as : List Expr} {fd d : D} {ds : List D} (hl : ρ.lookup f = none) (hf : evD cf n K ρ (.Name f p) = some fd) (ha : evL cf n K ρ (a :: as) = some ds) (hok : ds.all (argOk fd) = true) (hd : callD cf fd ds = some d) :
  evD cf (n + 1) K ρ (.Call (.Name f p) (a :: as) [] pos) = some d := by
 unfold evD; dsimp only
 rw [hl]; dsimp only
 rw [hf]; dsimp only
 rw [ha]; dsimp only
 rw [hok]; dsimp only
 exact hd
theorem ExS.andThen {G : Gd} {k : Nat} {K : Kn} {ρ ρ' : Rho} {st : Stmt} {ss : List Stmt} {A Xc Y s env} {E : Value → Shared → Prop} {Q : Flow → Shared → Prop} (h : ExS G k K ρ st (.next ρ')) (c : StC G k A Xc Y s env K ρ)
  (hq : ∀ Y₁ s₁, Stp G Y s Y₁ s₁ → StC G k A Xc Y₁ s₁ env K ρ' → wpAny (model G.prog G.w) A (execs ss env) Q E s₁) : wpAny (model G.prog G.w) A (execs (st :: ss) env) Q E s := by
 refine wpAny_execs_cons (wpAny_mono (h A Xc Y s env c E) (fun f s₁ p => ?_) fun _ _ e => e)
 obtain ⟨Y₁, t, rfl, c₁⟩ := p
 exact hq Y₁ s₁ t c₁
theorem ExS.last {G : Gd} {k : Nat} {K : Kn} {ρ : Rho} {st : Stmt} {ss : List Stmt} {A Xc Y s env} {E : Value → Shared → Prop} {Y₀ s₀ d} (h : ExS G k K ρ st (.ret d)) (c : StC G k A Xc Y s env K ρ) (ti : G.TI s₀.heap) (t : Stp G Y₀ s₀ Y s) :
  wpAny (model G.prog G.w) A (execs (st :: ss) env) (PostX G k A Xc env K Y₀ s₀ (.ret d)) E s := by
 refine wpAny_execs_cons (wpAny_mono (h A Xc Y s env c E) (fun f s₁ p => ?_) fun _ _ e => e)
 obtain ⟨Y₁, t₁, v, rfl, r⟩ := p
 exact ⟨Y₁, t.trans ti t₁, v, rfl, r⟩
theorem b6 : ∃ p1 p2 p3 p4 p5 p6 p7 p8 p9 p10 p11 p12 p13 p14 p15 p16, pBody 6 = [.Assign [.Name "STAR" p1] (.Call (.Name "object" p2) [] [] p3) p4,
  .Assign [.Name "parts" p5] (.Call (.Name "_translate" p6) [.Name "pat" p7, .Name "STAR" p8, .Constant (.str ".") 0 p9] [] p10) p11,
  .Return (some (.Call (.Name "_join_translated_parts" p12) [.Name "parts" p13, .Name "STAR" p14] [] p15)) p16] :=
 ⟨_, _, _, _, _, _, _, _, _, _, _, _, _, _, _, _, rfl⟩
theorem ret1_call {cf : Cf} {n : Nat} {K : Kn} {ρ : Rho} {f : Expr} {as : List Expr} {ks : List Keyword} {p : Pos} {d : D} (h : evD cf n K ρ (.Call f as ks p) = some d) (hp : d.pure = true) : ret1 (evD cf n K ρ) ρ (.Call f as ks p) = some (.ret d) := by
 unfold ret1; dsimp only; rw [h]; dsimp only; rw [hp]
theorem translate_ok {G : Gd} {k : Nat} {cf : Cf} {o : Obj} {fd : FuncData} (ok : CfOk G cf k) (fr : FnRec G 71 o fd (pBody 6) (pNames 6) ["pat"])
  (h1 : cf.Γ "object" = some (.typ "object")) (h2 : cf.Γ "_translate" = some (.opq 90)) (h3 : cf.Γ "_join_translated_parts" = some (.opq 97)) {x y : Str} {ps : Addr → D} (h90 : ∀ S, cf.Φ 90 [.str x, .opq S, .str "."] = some (ps S)) (hp : ∀ S, (ps S).pure = true) (h97 : ∀ S, cf.Φ 97 [ps S, .opq S] = some (.str y)) :
  FnC G (k + 1) 71 [.str x] (.str y) := by
 refine fn_hand fr rfl fun A X Y s env c E => ?_
 obtain ⟨p1, p2, p3, p4, p5, p6, p7, p8, p9, p10, p11, p12, p13, p14, p15, p16, eb⟩ := b6
 rw [eb]
 generalize hρ : (rho0 (pNames 6) ["pat"] [D.str x] : Rho) = ρ at c
 have l4 : ρ = [(("pat" : Str), D.str x), (("STAR" : Str), D.unb), (("parts" : Str), D.unb)] := by rw [← hρ]; rfl
 have l1 : ρ.lookup ("object" : Str) = none := by rw [l4]; rfl
 have k1 : (pNames 6).lookup ("object" : Str) = some .globalImplicit := by decide
 have k2 : (pNames 6).lookup ("STAR" : Str) = some .local := by decide
 have k3 : (pNames 6).lookup ("_translate" : Str) = some .globalImplicit := by decide
 have k4 : (pNames 6).lookup ("_join_translated_parts" : Str) = some .globalImplicit := by decide
 have k5 : storable (pNames 6) ("parts" : Str) = true := by decide
 generalize pNames 6 = K at *
 refine wpAny_execs_cons (wpAny_Assign_Name (PyProof.Rows.Call_ ?_) (by rfl))
 refine ((sound ok 5).ev _ _ _ _ (zB (by decide) l1 k1 h1) _ _ s env c.cxt).post fun fv s₁ g₁ r => ?_
 have := r.typ; subst this
 have c₁ := c.gr g₁
 refine PyProof.Rows.callWith_type0 (call_object0 ?_)
 have g₂ : Gr G s₁ { s₁ with heap := s₁.heap.push { cls := .type "object", data := .plain } } := Gr.push'
 have c₂ := c₁.gr g₂
 generalize s₁.heap.objs.size = S at *
 refine store_ok c₂ (.inl k2) (d := .opq S) Rd.opq' fun s₃ t₃ c₃ => ?_
 have tk := (Stp.gr (g₁.trans g₂)).trans c.cx.ti t₃
 have eρ : setV (dropApp ρ "STAR") "STAR" (.opq S) = [(("pat" : Str), D.str x), (("STAR" : Str), D.opq S), (("parts" : Str), D.unb)] := by rw [l4]; rfl
 rw [eρ] at c₃
 refine ExS.andThen (x_assign (n := 6) ok k5 (zE (fd := .opq 90) (ds := [.str x, .opq S, .str "."]) rfl (zB (by decide) rfl k3 h2) (zC (zA (by decide) rfl rfl) (zC (zA (by decide) rfl rfl) (zC evD_str zD))) rfl (h90 S)) (hp S) (fun env _ => rfl)) c₃ fun Y₄ s₄ t₄ c₄ => ?_
 have eρ' : stD [(("pat" : Str), D.str x), (("STAR" : Str), D.opq S), (("parts" : Str), D.unb)] "parts" (ps S) = [(("pat" : Str), D.str x), (("STAR" : Str), D.opq S), (("parts" : Str), ps S)] := rfl
 rw [eρ'] at c₄
 have np : evD cf 4 K [(("pat" : Str), D.str x), (("STAR" : Str), D.opq S), (("parts" : Str), ps S)] (.Name "parts" p13) = some (ps S) := zA (by decide) rfl (hp S)
 refine ExS.last (x_ret (n := 6) ok (ret1_call (zE (fd := .opq 97) (ds := [ps S, .opq S]) rfl (zB (by decide) rfl k4 h3) (zC np (zC (zA (by decide) rfl rfl) zD)) ?_ (h97 S)) rfl)) c₄ c.cx.ti (tk.trans c.cx.ti t₄)
 have := hp S
 show ((ps S).pure && _) = true
 rw [this]; rfl
end Mine
namespace Mine
open PySem PySem.Calls PyProof.Rows PySem.W
def forZ (ex : Rho → Option Out) (x y : Str) : List D → List D → Rho → Option Out
 | d :: ds, e :: es, ρ => (match ex (stD (stD ρ x d) y e) with | some (.next ρ') => forZ ex x y ds es ρ' | some (.brk ρ') => some (.next ρ') | some (.ret r) => some (.ret r) | none => none)
 | _, _, ρ => some (.next ρ)
theorem Stp.more {G : Gd} {Y Y' wr : List Addr} {s s' : Shared} (t : Stp G Y s Y' s') : Stp G (wr ++ Y) s (wr ++ Y') s' :=
 ⟨fun a ha => (List.mem_append.mp ha).elim (fun q => List.mem_append_left _ q) fun q => List.mem_append_right _ (t.sub a q), fun a ha => (List.mem_append.mp ha).elim (fun q => .inl (List.mem_append_left _ q)) fun q => (t.new a q).elim (fun z => .inl (List.mem_append_right _ z)) .inr,
  t.grb.mono fun y hy => List.mem_append_right _ hy⟩
section
variable {G : Gd} {k n : Nat} {cf : Cf} {K : Kn} {ρ : Rho}
set_option maxHeartbeats 2000000 in
theorem x_forZip (ok : CfOk G cf k) {x y : Str} {px py tp zp cp pos : Pos} {kk : Nat} {e1 e2 : Expr} {b : List Stmt} {ds es : List D} {o : Out} (hx : K.lookup x = some .local) (hy : K.lookup y = some .local)
  (hz : evD cf n K ρ (.Name "zip" zp) = some (.typ "zip")) (ha : evL cf n K ρ [e1, e2] = some [.lst ds, .lst es]) (ex : Rho → Option Out) (hb : ∀ ρ o, ex ρ = some o → ExL G k K ρ b o)
  (h : forZ ex x y ds es ρ = some o) : ExS G k K ρ (.For (.Tuple [.Name x px, .Name y py] kk tp) (.Call (.Name "zip" zp) [e1, e2] [] cp) b [] pos) o := by
 intro A Xc Y s env c E
 refine wpAny_For (callN_typ ok c.cxt hz ha fun s₁ vs g₁ r => ?_) (fun _ => rfl)
 obtain - | ⟨r1, r⟩ := r
 obtain - | ⟨r2, r⟩ := r
 obtain - | _ := r
 obtain ⟨l1, xs, n1, rfl, hl1, rl1⟩ := r1.list rfl
 obtain ⟨l2, ys, n2, rfl, hl2, rl2⟩ := r2.list rfl
 have c₁ := c.gr g₁
 have r1x : l1 ∉ Y ++ Xc := by have q : Rd G.C (Y ++ Xc) s₁.heap (.lst ds) (.ref l1) := r1; unfold Rd at q; obtain ⟨a, _, _, e, h, _⟩ := q; cases e; exact h
 have r2x : l2 ∉ Y ++ Xc := by have q : Rd G.C (Y ++ Xc) s₁.heap (.lst es) (.ref l2) := r2; unfold Rd at q; obtain ⟨a, _, _, e, h, _⟩ := q; cases e; exact h
 have il1 : s₁.heap.IsList l1 xs.toArray := ⟨_, hl1, rfl, n1, rfl⟩
 have il2 : s₁.heap.IsList l2 ys.toArray := ⟨_, hl2, rfl, n2, rfl⟩
 refine call_zip_2 il1 il2 fun h2 zz zi zo z1 z2 zs up => ?_
 obtain ⟨z0, hz0⟩ : ∃ z : Nat, s₁.heap.objs.size = z := ⟨_, rfl⟩
 rw [hz0] at zz zi zo z1 z2 zs
 rw [hz0]
 have lt1 : l1 < z0 := hz0 ▸ Heap.lt_size hl1
 have lt2 : l2 < z0 := hz0 ▸ Heap.lt_size hl2
 have fr : ∀ b, z0 ≤ b → s₁.heap.get? b = none := fun b hb => zF (hz0 ▸ hb)
 refine wpAny_pyIter_zip zz ?_
 have DA : ZipApart (z0 + 4) (z0 + 2) (z0 + 3) z0 (z0 + 1) l1 l2 := by
  have l1' : @LT.lt Nat _ l1 z0 := lt1
  have l2' : @LT.lt Nat _ l2 z0 := lt2
  constructor <;> (intro q; have q' : (_ : Nat) = _ := q; omega)
 have kl : ∀ (l : Addr) (items : Array Value), s₁.heap.IsList l items → h2.IsList l items := fun l items ⟨o, e, q⟩ => ⟨o, up _ _ e, q⟩
 obtain ⟨St, hSt⟩ : ∃ St : Nat → Heap → Prop, St = fun (i : Nat) (h : Heap) => IsZip h (z0 + 4) (z0 + 2) (z0 + 3) .none ∧ IsPair h (z0 + 2) (.ref z0) (.ref (z0 + 1)) ∧ (∃ a b, IsPair h (z0 + 3) a b) ∧ h.IsListIter z0 l1 i ∧ h.IsListIter (z0 + 1) l2 i ∧ h.IsList l1 xs.toArray ∧ h.IsList l2 ys.toArray := ⟨_, rfl⟩
 obtain ⟨Mid, hMid⟩ : ∃ Mid : Nat → Addr → Heap → Prop, Mid = fun (i : Nat) (T : Addr) (h : Heap) => IsZip h (z0 + 4) (z0 + 2) (z0 + 3) (rawInt T) ∧ IsPair h (z0 + 2) (.ref z0) (.ref (z0 + 1)) ∧ (∃ a b, IsPair h (z0 + 3) a b) ∧ h.IsListIter z0 l1 (i + 1) ∧ h.IsListIter (z0 + 1) l2 (i + 1) ∧ h.IsList l1 xs.toArray ∧ h.IsList l2 ys.toArray ∧
    T ≠ z0 + 4 ∧ T ≠ z0 + 3 ∧ T ≠ z0 ∧ T ≠ z0 + 1 := ⟨_, rfl⟩
 have W : WalksT G.prog G.w A (z0 + 4) [z0 + 4, z0 + 2, z0 + 3, z0, z0 + 1, l1, l2] [z0 + 4, z0 + 3, z0, z0 + 1] (min xs.toArray.size ys.toArray.size) (fun i vals => ∃ x y, xs.toArray[i]? = some x ∧ ys.toArray[i]? = some y ∧ vals = #[x, y]) St Mid := by
  rw [hSt, hMid]
  exact WalksT.zip2 (prog := G.prog) (w := G.w) (A := A) c.room.hh (z0 + 4) (z0 + 2) (z0 + 3) z0 (z0 + 1) l1 l2 DA xs.toArray ys.toArray
 have hst0 : St 0 h2 := by rw [hSt]; exact ⟨zz, zi, ⟨_, _, zo⟩, z1, z2, kl _ _ il1, kl _ _ il2⟩
 have hNT : ∀ i h', St i h' → ∀ b ∈ [z0 + 4, z0 + 3, z0, z0 + 1], NT h' b := by
  rw [hSt]
  rintro i h' ⟨a1, a2, ⟨_, _, a3⟩, ⟨o4, a4, b4, c4⟩, ⟨o5, a5, b5, c5⟩, _⟩ b hb
  simp only [List.mem_cons, List.not_mem_nil, or_false] at hb
  rcases hb with rfl | rfl | rfl | rfl
  ·exact ⟨_, a1, fun ⟨us, q, t⟩ => by cases q; rcases t with t | ⟨_, _, t⟩ <;> cases t⟩
  ·exact ⟨_, a3, fun ⟨us, q, t⟩ => by cases q⟩
  ·exact ⟨_, a4, notIter b4 c4 (by simp) (by simp)⟩
  ·exact ⟨_, a5, notIter b5 c5 (by simp) (by simp)⟩
 have hNM : ∀ i T h', Mid i T h' → ∀ b ∈ [z0 + 4, z0 + 3, z0, z0 + 1], NT h' b := by
  rw [hMid]
  rintro i T h' ⟨a1, a2, ⟨_, _, a3⟩, ⟨o4, a4, b4, c4⟩, ⟨o5, a5, b5, c5⟩, _⟩ b hb
  simp only [List.mem_cons, List.not_mem_nil, or_false] at hb
  rcases hb with rfl | rfl | rfl | rfl
  ·exact ⟨_, a1, fun ⟨us, q, t⟩ => by cases q; rcases t with t | ⟨_, _, t⟩ <;> cases t⟩
  ·exact ⟨_, a3, fun ⟨us, q, t⟩ => by cases q⟩
  ·exact ⟨_, a4, notIter b4 c4 (by simp) (by simp)⟩
  ·exact ⟨_, a5, notIter b5 c5 (by simp) (by simp)⟩
 have hfp : ∀ b ∈ [z0 + 4, z0 + 2, z0 + 3, z0, z0 + 1, l1, l2], b ∉ Y ∧ (∃ o, h2.get? b = some o) ∧ b ∉ G.T := by
  have tabNo : ∀ b, s₁.heap.get? b = none → b ∉ G.T := fun b hb hT => by
   obtain ⟨vs, e⟩ := G.tabs _ c₁.cx.ti b hT
   rw [hb] at e; cases e
  have yNo : ∀ b, s₁.heap.get? b = none → b ∉ Y := fun b hb hY => by
   obtain ⟨o, e⟩ := c₁.xok.live b (List.mem_append_left _ hY)
   rw [hb] at e; cases e
  obtain ⟨_, o4, _⟩ := z1
  obtain ⟨_, o5, _⟩ := z2
  intro b hb
  simp only [List.mem_cons, List.not_mem_nil, or_false] at hb
  rcases hb with rfl | rfl | rfl | rfl | rfl | rfl | rfl
  ·exact ⟨yNo _ (fr _ (Nat.le_add_right _ _)), ⟨_, zz⟩, tabNo _ (fr _ (Nat.le_add_right _ _))⟩
  ·exact ⟨yNo _ (fr _ (Nat.le_add_right _ _)), ⟨_, zi⟩, tabNo _ (fr _ (Nat.le_add_right _ _))⟩
  ·exact ⟨yNo _ (fr _ (Nat.le_add_right _ _)), ⟨_, zo⟩, tabNo _ (fr _ (Nat.le_add_right _ _))⟩
  ·exact ⟨yNo _ (fr _ (Nat.le_refl _)), ⟨_, o4⟩, tabNo _ (fr _ (Nat.le_refl _))⟩
  ·exact ⟨yNo _ (fr _ (Nat.le_add_right _ _)), ⟨_, o5⟩, tabNo _ (fr _ (Nat.le_add_right _ _))⟩
  ·exact ⟨fun q => r1x (List.mem_append_left _ q), ⟨_, up _ _ hl1⟩, c₁.cx.notTab hl1 zI⟩
  ·exact ⟨fun q => r2x (List.mem_append_left _ q), ⟨_, up _ _ hl2⟩, c₁.cx.notTab hl2 zI⟩
 have hwr : ∀ b ∈ [z0 + 4, z0 + 3, z0, z0 + 1], s₁.heap.get? b = none := by
  intro b hb
  simp only [List.mem_cons, List.not_mem_nil, or_false] at hb
  rcases hb with rfl | rfl | rfl | rfl
  ·exact fr _ (Nat.le_add_right _ _)
  ·exact fr _ (Nat.le_add_right _ _)
  ·exact fr _ (Nat.le_refl _)
  ·exact fr _ (Nat.le_add_right _ _)
 generalize [z0 + 4, z0 + 3, z0, z0 + 1] = wr at *
 generalize [z0 + 4, z0 + 2, z0 + 3, z0, z0 + 1, l1, l2] = fp at *
 have hbw : ∀ b ∈ wr, G.hb.get? b = none := fun b q => by
  cases z : G.hb.get? b with
  | none => rfl
  | some o => have := c₁.cx.hb b o z; rw [hwr b q] at this; cases this
 have g₂ : Gr G s₁ { s₁ with heap := h2 } := Gr.of (tk := s₁.toks) up
 have c₂ := c₁.into g₂ up hwr (hNT 0 _ hst0)
 have lxs : xs.toArray.size = ds.length := by rw [size_arr, rl1.length]
 have lys : ys.toArray.size = es.length := by rw [size_arr, rl2.length]
 rw [lxs, lys] at W
 obtain ⟨s₂, hs₂⟩ : ∃ t : Shared, t = { s₁ with heap := h2 } := ⟨_, rfl⟩
 have h2s : s₂.heap = h2 := by rw [hs₂]
 rw [← hs₂] at g₂ c₂ ⊢
 rw [← h2s] at hst0 hfp up
 have rl1' : RdL G.C (Y ++ (wr ++ Xc)) s₂.heap ds xs := rl1.lift (fun b hb => by
  rcases List.mem_append.mp hb with q | q
  ·exact .inl (List.mem_append_left _ q)
  ·rcases List.mem_append.mp q with q | q
   ·exact .inr (hwr b q)
   ·exact .inl (List.mem_append_right _ q)) fun b o _ e => up b o e
 have rl2' : RdL G.C (Y ++ (wr ++ Xc)) s₂.heap es ys := rl2.lift (fun b hb => by
  rcases List.mem_append.mp hb with q | q
  ·exact .inl (List.mem_append_left _ q)
  ·rcases List.mem_append.mp q with q | q
   ·exact .inr (hwr b q)
   ·exact .inl (List.mem_append_right _ q)) fun b o _ e => up b o e
 have tk0 : Stp G Y s Y s₂ := (Stp.gr g₁).trans c.cx.ti (Stp.gr g₂)
 refine codeAny_forLoop_any (fun m s' => ∃ i Y' ρ', m = min ds.length es.length - i ∧ i ≤ min ds.length es.length ∧ Stp G Y s₁ Y' s' ∧ Stp G (wr ++ Y) s₂ (wr ++ Y') s' ∧ St i s'.heap ∧ StC G k A (wr ++ Xc) Y' s' env K ρ' ∧ forZ ex x y (ds.drop i) (es.drop i) ρ' = some o) ?_ (min ds.length es.length)
  ⟨0, Y, ρ, rfl, Nat.zero_le _, Stp.gr g₂, Stp.refl, hst0, c₂, by simpa using h⟩
 rintro m s' ⟨i, Y', ρ', rfl, hi, ta, tb, hst', c', hf⟩
 have ti₂ : G.TI s₂.heap := g₂.ti c₁.cx.ti
 have wrY : ∀ b ∈ wr, b ∉ Y' := fun b hb q => c'.dis b q (List.mem_append_left _ hb)
 have fpY : ∀ b ∈ fp, b ∉ Y' := fun b hb q => by
  obtain ⟨h1, ⟨o, e⟩, _⟩ := hfp b hb
  rcases tb.new b (List.mem_append_right _ q) with z | z
  ·rcases List.mem_append.mp z with z | z
   ·exact wrY b z q
   ·exact h1 z
  ·rw [z] at e; cases e
 have turn : ∀ (h' : Heap) (tk : Nat), (∀ b o, b ∉ wr → s'.heap.get? b = some o → h'.get? b = some o) → Stp G Y s₁ Y' { s' with heap := h', toks := tk } ∧ Stp G (wr ++ Y) s₂ (wr ++ Y') { s' with heap := h', toks := tk } := fun h' tk hk' => by
  have fr : ∀ (t : G.TI s'.heap), G.TI h' := fun t => G.frame _ _ t fun b o tk' e => hk' b o (fun q => by
   obtain ⟨o', ho', no⟩ := hNT i _ hst' b q
   rw [e] at ho'; cases ho'
   exact no tk') e
  exact ⟨⟨ta.sub, ta.new, ⟨fun b o hT hY e => hk' b o (fun q => by rw [hwr b q] at e; cases e) (ta.grb.heap b o hT hY e), fun t => fr (ta.grb.ti t), ta.grb.os, ta.grb.bare⟩⟩,
   ⟨tb.sub, tb.new, ⟨fun b o hT hY e => hk' b o (fun q => hY (List.mem_append_left _ q)) (tb.grb.heap b o hT hY e), fun t => fr (tb.grb.ti t), tb.grb.os, tb.grb.bare⟩⟩⟩
 by_cases hlt' : i < min ds.length es.length
 ·have hid : i < ds.length := Nat.lt_of_lt_of_le hlt' (Nat.min_le_left ..)
  have hie : i < es.length := Nat.lt_of_lt_of_le hlt' (Nat.min_le_right ..)
  have hdrop : ds.drop i = ds[i] :: ds.drop (i + 1) := by rw [List.drop_eq_getElem_cons hid]
  have hdrop' : es.drop i = es[i] :: es.drop (i + 1) := by rw [List.drop_eq_getElem_cons hie]
  rw [hdrop, hdrop'] at hf
  unfold forZ at hf
  refine W.item i _ _ _ hlt' hst' fun T vals h₁ tk₁ hPv hTs hTup hmid hk₁ => ?_
  obtain ⟨vx, vy, hvx, hvy, rfl⟩ := hPv
  dsimp only
  refine W.go _ _ _ i T _ _ _ hmid fun h₃ hst₃ hk₃ => ?_
  have hk13 : ∀ b o, b ∉ wr → s'.heap.get? b = some o → h₃.get? b = some o := fun b o hb e => hk₃ b o hb (hk₁ b o hb e)
  have c₃ := c'.turn (tk := tk₁) hk13 (hNT i _ hst') (hNT (i + 1) _ hst₃) hbw
  obtain ⟨ta3, tb3⟩ := turn h₃ tk₁ hk13
  have hTw : T ∉ wr := W.apart i T _ hmid
  have hTup3 : h₃.IsTuple T #[vx, vy] := by
   obtain ⟨o, e, r⟩ := hTup
   exact ⟨o, hk₃ _ _ hTw e, r⟩
  refine wpAny_assign_Tuple (s := { s' with heap := h₃, toks := tk₁ }) (items := #[vx, vy]) c.room.hh hTup3 rfl rfl fun h₄ he₄ => ?_
  have g₄ : Gr G { s' with heap := h₃, toks := tk₁ } { s' with heap := h₄, toks := tk₁ } := Gr.of (s := { s' with heap := h₃, toks := tk₁ }) (tk := tk₁) fun b o e => he₄ b o (fun q => by rw [q, zF (Nat.le_refl _)] at e; cases e) e
  have c₄ := c₃.gr g₄
  have ta4 := ta3.trans c₁.cx.ti (Stp.gr g₄)
  have tb4 := tb3.trans ti₂ (Stp.gr g₄)
  obtain ⟨ux, e1, q1⟩ := rl1'.get (i := i) (d := ds[i]) (List.getElem?_eq_getElem hid)
  obtain ⟨uy, e2, q2⟩ := rl2'.get (i := i) (d := es[i]) (List.getElem?_eq_getElem hie)
  have hux : ux = vx := by
   have : xs[i]? = some vx := by simpa using hvx
   rw [e1] at this; exact Option.some.inj this
  have huy : uy = vy := by
   have : ys[i]? = some vy := by simpa using hvy
   rw [e2] at this; exact Option.some.inj this
  subst hux huy
  have lift : ∀ {d : D} {v : Value} {s5 : Shared}, Stp G (wr ++ Y) s₂ (wr ++ Y') s5 → Rd G.C (Y ++ (wr ++ Xc)) s₂.heap d v → Rd G.C (Y' ++ (wr ++ Xc)) s5.heap d v := fun {d v s5} t5 r => by
   refine r.imp fun b o hb e => ⟨fun q => ?_, t5.grb.heap b o (fun q => hb (List.mem_append_right _ (List.mem_append_right _ (c.xc b q)))) (fun q => ?_) e⟩
   ·rcases List.mem_append.mp q with q | q
    ·rcases tb.new b (List.mem_append_right _ q) with z | z
     ·rcases List.mem_append.mp z with z | z
      ·exact hb (List.mem_append_right _ (List.mem_append_left _ z))
      ·exact hb (List.mem_append_left _ z)
     ·rw [z] at e; cases e
    ·exact hb (List.mem_append_right _ q)
   ·rcases List.mem_append.mp q with q | q
    ·exact hb (List.mem_append_right _ (List.mem_append_left _ q))
    ·exact hb (List.mem_append_left _ q)
  show wpAny _ _ (assignInOrder [fun v => assign (.Name x px) env v, fun v => assign (.Name y py) env v] [ux, uy]) _ _ _
  show wpAny _ _ (do holding [uy] (assign (.Name x px) env ux); assignInOrder [fun v => assign (.Name y py) env v] [uy]) _ _ _
  refine wpAny_bind (wpAny_holding (wpAny_assign_Name (store_ok c₄ (.inl hx) (lift tb4 q1) fun s₅ t₅ c₅ => ?_)))
  have tb5 := tb4.trans ti₂ t₅.more
  show wpAny _ _ (do holding [] (assign (.Name y py) env uy); assignInOrder [] []) _ _ _
  refine wpAny_bind (wpAny_holding (wpAny_assign_Name (store_ok c₅ (.inl hy) (lift tb5 q2) fun s₆ t₆ c₆ => wpAny_pure ?_)))
  have tb6 := tb5.trans ti₂ t₆.more
  have ta6 := (ta4.trans c₁.cx.ti t₅).trans c₁.cx.ti t₆
  have stAfter : ∀ {Ya Yb : List Addr} {sa sb : Shared}, St (i + 1) sa.heap → (∀ b ∈ fp, b ∉ Ya) → Stp G Ya sa Yb sb → St (i + 1) sb.heap := fun {Ya Yb sa sb} st hY t => W.frame _ _ _ st fun b hb' o e => t.grb.heap b o (hfp b hb').2.2 (hY b hb') e
  have hst₆ : St (i + 1) s₆.heap := stAfter (stAfter (stAfter (sb := { s' with heap := h₄, toks := tk₁ }) (sa := { s' with heap := h₃, toks := tk₁ }) hst₃ fpY (Stp.gr g₄)) fpY t₅) fpY t₆
  split at hf
  ·rename_i ρ₂ hρ
   refine wpAny_mono (hb _ _ hρ A (wr ++ Xc) Y' s₆ env c₆ _) (fun f s₇ p => ?_) fun _ _ e => e
   obtain ⟨Y₂, t₇, rfl, c₇⟩ := p
   exact ⟨min ds.length es.length - (i + 1), by omega, i + 1, Y₂, ρ₂, rfl, hlt', ta6.trans c₁.cx.ti t₇, tb6.trans ti₂ t₇.more, stAfter hst₆ fpY t₇, c₇, hf⟩
  ·rename_i ρ₂ hρ
   cases hf
   refine wpAny_mono (hb _ _ hρ A (wr ++ Xc) Y' s₆ env c₆ _) (fun f s₇ p => ?_) fun _ _ e => e
   obtain ⟨Y₂, t₇, rfl, c₇⟩ := p
   exact ⟨Y₂, (Stp.gr g₁).trans c.cx.ti (ta6.trans c₁.cx.ti t₇), rfl, c₇.out c.xc⟩
  ·rename_i dd hρ
   cases hf
   refine wpAny_mono (hb _ _ hρ A (wr ++ Xc) Y' s₆ env c₆ _) (fun f s₇ p => ?_) fun _ _ e => e
   obtain ⟨Y₂, t₇, u, rfl, ru⟩ := p
   exact ⟨Y₂, (Stp.gr g₁).trans c.cx.ti (ta6.trans c₁.cx.ti t₇), u, rfl, ru.less fun b hb => List.mem_append_right _ hb⟩
  ·cases hf
 ·have hin : i = min ds.length es.length := by omega
  subst hin
  refine W.done _ _ _ hst' fun h₁ tk₁ hk₁ => ?_
  have hf' : o = .next ρ' := by
   rcases Nat.le_total ds.length es.length with q | q
   ·rw [Nat.min_eq_left q, List.drop_length] at hf
    unfold forZ at hf
    exact (Option.some.inj hf).symm
   ·rw [Nat.min_eq_right q, List.drop_length] at hf
    cases hd : ds.drop es.length with
    | nil => rw [hd] at hf; unfold forZ at hf; exact (Option.some.inj hf).symm
    | cons _ _ => rw [hd] at hf; unfold forZ at hf; exact (Option.some.inj hf).symm
  subst hf'
  obtain ⟨ta3, tb3⟩ := turn h₁ tk₁ hk₁
  exact wpAny_execs_nil ⟨Y', (Stp.gr g₁).trans c.cx.ti ta3, rfl, c'.last hk₁ (hNT _ _ hst') hbw c.xc fun a ha q => by
   obtain ⟨o, ho⟩ := c₁.xok.live a (List.mem_append_right _ ha)
   rw [hwr a q] at ho; cases ho⟩
end
end Mine
namespace Mine
open PySem PySem.Calls PyProof.Rows PySem.W
def okOpt (a : Str) : Option Str → Bool
 | none => true
 | some z => z == a
def fits1 (nm : Nm) (s : Sp) : Bool := match nm with
 | none => false
 | some (a, b) => okOpt a s.1 && okOpt b s.2
def fitsL : List Nm → List Sp → Bool
 | nm :: r, s :: t => fits1 nm s && fitsL r t
 | _, _ => true
theorem b23 : ∃ p1 p2 p3 p4 p5 p6 p7 p8 p9 p10 t1 t2 t3 t4 t5 t6 t7 t8 t9 t10 t11 t12 t13 t14 t15 t16 t17 t18 t19 t20 t21 t22 t23 t24 t25 t26, pBody 23 = [.For (.Tuple [.Name "name" p1, .Name "step" p2] 0 p3) (.Call (.Name "zip" p4) [.Name "way" p5, .Name "steps" p6] [] p7)
  [.If (.BoolOp .Or [.Compare (.Name "name" t1) [.Is] [.Constant .none 0 t2] t3,
    .Compare (.Subscript (.Name "step" t4) (.Constant (.int 0) 0 t5) t6) [.NotIn] [.Tuple [.Constant .none 0 t7, .Subscript (.Name "name" t8) (.Constant (.int 0) 0 t9) t10] 0 t11] t12,
    .Compare (.Subscript (.Name "step" t13) (.Constant (.int 1) 0 t14) t15) [.NotIn] [.Tuple [.Constant .none 0 t16, .Subscript (.Name "name" t17) (.Constant (.int 1) 0 t18) t19] 0 t20] t21] t22) [.Return (some (.Constant (.bool false) 0 t23)) t24] [] t25] [] p8, .Return (some (.Constant (.bool true) 0 p9)) p10] ∧ t26 = t1 :=
 ⟨_, _, _, _, _, _, _, _, _, _, _, _, _, _, _, _, _, _, _, _, _, _, _, _, _, _, _, _, _, _, _, _, _, _, _, _, rfl, rfl⟩
theorem tsD_or {cf : Cf} {n : Nat} {K : Kn} {ρ : Rho} {es : List Expr} {p : Pos} : tsD cf (n + 1) K ρ (.BoolOp .Or es p) = anyD cf n K ρ es := rfl
theorem anyD_cons {cf : Cf} {n : Nat} {K : Kn} {ρ : Rho} {e : Expr} {es : List Expr} {b : Bool} (h : tsD cf n K ρ e = some b) : anyD cf (n + 1) K ρ (e :: es) = if b then some true else anyD cf n K ρ es := by
 show (match tsD cf n K ρ e with | some true => some true | some false => anyD cf n K ρ es | none => none) = _
 rw [h]; cases b <;> rfl
theorem anyD_nil {cf : Cf} {n : Nat} {K : Kn} {ρ : Rho} : anyD cf (n + 1) K ρ [] = some false := rfl
theorem evD_tup {cf : Cf} {n : Nat} {K : Kn} {ρ : Rho} {es : List Expr} {kk : Nat} {p : Pos} {ds : List D} (h : evL cf n K ρ es = some ds) (hp : (ds.all D.pure && Nat.ble ds.length bigD) = true) : evD cf (n + 1) K ρ (.Tuple es kk p) = some (.tup ds) := by
 unfold evD; dsimp only; rw [h]; dsimp only; rw [hp]
theorem notIn_opt (a : Str) (s : Option Str) : cmpD .NotIn (optD s) (.tup [.none, .str a]) = some (!(okOpt a s)) := by
 cases s with
 | none => rfl
 | some z =>
  show (match inD (.str z) (.tup [.none, .str a]) with | some c => some (!c) | none => none) = _
  have : inD (.str z) (.tup [.none, .str a]) = some (a == z) := by
   show anyEq (.str z) [.none, .str a] = _
   simp [anyEq, itemEq]
  rw [this]
  show some (!(a == z)) = some (!(z == a))
  rw [show (a == z) = (z == a) from BEq.comm]
section
variable {cf : Cf} {K : Kn} {ρ : Rho}
theorem fits_test {t1 t2 t3 t4 t5 t6 t7 t8 t9 t10 t11 t12 t13 t14 t15 t16 t17 t18 t19 t20 t21 t22 : Pos} {nm : Nm} {s : Sp} (h1 : ρ.lookup ("name" : Str) = some (nmD nm)) (h2 : ρ.lookup ("step" : Str) = some (zT s)) :
  tsD cf 12 K ρ (.BoolOp .Or [.Compare (.Name "name" t1) [.Is] [.Constant .none 0 t2] t3,
    .Compare (.Subscript (.Name "step" t4) (.Constant (.int 0) 0 t5) t6) [.NotIn] [.Tuple [.Constant .none 0 t7, .Subscript (.Name "name" t8) (.Constant (.int 0) 0 t9) t10] 0 t11] t12,
    .Compare (.Subscript (.Name "step" t13) (.Constant (.int 1) 0 t14) t15) [.NotIn] [.Tuple [.Constant .none 0 t16, .Subscript (.Name "name" t17) (.Constant (.int 1) 0 t18) t19] 0 t20] t21] t22) = some (!(fits1 nm s)) := by
 have np : (nmD nm).pure = true := by cases nm with | none => rfl | some p => rfl
 have ns : ∀ n p, evD cf (n + 1) K ρ (.Name "step" p) = some (zT s) := fun n p => zA (by decide) h2 rfl
 have nn : ∀ n p, evD cf (n + 1) K ρ (.Name "name" p) = some (nmD nm) := fun n p => zA (by decide) h1 np
 rw [tsD_or]
 cases nm with
 | none =>
  rw [anyD_cons (b := true) (tsD_cmp (nn _ _) evD_none rfl)]
  rfl
 | some ab =>
  obtain ⟨a, b⟩ := ab
  rw [anyD_cons (b := false) (tsD_cmp (nn _ _) evD_none rfl)]
  simp only [Bool.false_eq_true, if_false]
  rw [anyD_cons (b := !(okOpt a s.1)) (tsD_cmp (evD_sub (ns _ _) (d := optD s.1) rfl) (evD_tup (ds := [.none, .str a]) (zC evD_none (zC (evD_sub (nn _ _) rfl) zD)) rfl) (notIn_opt a s.1))]
  rw [anyD_cons (b := !(okOpt b s.2)) (tsD_cmp (evD_sub (ns _ _) (d := optD s.2) rfl) (evD_tup (ds := [.none, .str b]) (zC evD_none (zC (evD_sub (nn _ _) rfl) zD)) rfl) (notIn_opt b s.2))]
  rw [anyD_nil]
  unfold fits1
  dsimp only
  cases okOpt a s.1 <;> cases okOpt b s.2 <;> rfl
theorem fits_loop {t1 t2 t3 t4 t5 t6 t7 t8 t9 t10 t11 t12 t13 t14 t15 t16 t17 t18 t19 t20 t21 t22 t23 t24 t25 : Pos} (w st : D) (hw : ∀ z, w ≠ .app z) (hst : ∀ z, st ≠ .app z) : ∀ (l : List Nm) (ss : List Sp) (a b : D), (∀ z, a ≠ .app z) → (∀ z, b ≠ .app z) →
  ∃ a' b', forZ (fun ρ => exL cf [] 14 K ρ [.If (.BoolOp .Or [.Compare (.Name "name" t1) [.Is] [.Constant .none 0 t2] t3,
    .Compare (.Subscript (.Name "step" t4) (.Constant (.int 0) 0 t5) t6) [.NotIn] [.Tuple [.Constant .none 0 t7, .Subscript (.Name "name" t8) (.Constant (.int 0) 0 t9) t10] 0 t11] t12,
    .Compare (.Subscript (.Name "step" t13) (.Constant (.int 1) 0 t14) t15) [.NotIn] [.Tuple [.Constant .none 0 t16, .Subscript (.Name "name" t17) (.Constant (.int 1) 0 t18) t19] 0 t20] t21] t22) [.Return (some (.Constant (.bool false) 0 t23)) t24] [] t25]) "name" "step" (l.map nmD) (ss.map zT) [(("way" : Str), w), (("steps" : Str), st), (("name" : Str), a), (("step" : Str), b)] =
   (if fitsL l ss then some (.next [(("way" : Str), w), (("steps" : Str), st), (("name" : Str), a'), (("step" : Str), b')]) else some (.ret (.bool false)))
 | [], ss, a, b, _, _ => ⟨a, b, by cases ss <;> rfl⟩
 | nm :: l, [], a, b, _, _ => ⟨a, b, rfl⟩
 | nm :: l, s :: ss, a, b, ha, hb => by
  have np : ∀ z, nmD nm ≠ .app z := by cases nm with | none => intro z q; cases q | some p => intro z q; cases q
  have ns : ∀ z, zT s ≠ .app z := fun z q => by cases q
  have e : stD (stD [(("way" : Str), w), (("steps" : Str), st), (("name" : Str), a), (("step" : Str), b)] "name" (nmD nm)) "step" (zT s) = [(("way" : Str), w), (("steps" : Str), st), (("name" : Str), nmD nm), (("step" : Str), zT s)] := by
   unfold stD
   rw [zJ _ _ _ _ hw, zJ _ _ _ _ hst, zJ _ _ _ _ ha, zJ _ _ _ _ hb]
   simp only [dropApp_no]
   have : setV [(("way" : Str), w), (("steps" : Str), st), (("name" : Str), a), (("step" : Str), b)] "name" (nmD nm) = [(("way" : Str), w), (("steps" : Str), st), (("name" : Str), nmD nm), (("step" : Str), b)] := rfl
   rw [this, zJ _ _ _ _ hw, zJ _ _ _ _ hst, zJ _ _ _ _ np, zJ _ _ _ _ hb]
   rfl
  obtain ⟨a', b', ih⟩ := fits_loop w st hw hst l ss (nmD nm) (zT s) np ns
  refine ⟨a', b', ?_⟩
  rw [List.map_cons, List.map_cons, forZ, e]
  have tt := fits_test (cf := cf) (K := K) (ρ := [(("way" : Str), w), (("steps" : Str), st), (("name" : Str), nmD nm), (("step" : Str), zT s)]) (t1 := t1) (t2 := t2) (t3 := t3) (t4 := t4) (t5 := t5) (t6 := t6) (t7 := t7) (t8 := t8) (t9 := t9) (t10 := t10) (t11 := t11) (t12 := t12) (t13 := t13) (t14 := t14) (t15 := t15) (t16 := t16) (t17 := t17) (t18 := t18) (t19 := t19) (t20 := t20) (t21 := t21) (t22 := t22) (nm := nm) (s := s) rfl rfl
  rw [q_cons, q_sif, tt]
  cases hf : fits1 nm s with
  | false =>
   have : fitsL (nm :: l) (s :: ss) = false := by unfold fitsL; rw [hf]; rfl
   rw [this]
   rfl
  | true =>
   have : fitsL (nm :: l) (s :: ss) = fitsL l ss := by unfold fitsL; rw [hf]; cases l <;> cases ss <;> rfl
   rw [this]
   exact ih
end
theorem fits_ok {G : Gd} {k : Nat} {cf : Cf} {o : Obj} {fd : FuncData} (ok : CfOk G cf k) (fr : FnRec G 151 o fd (pBody 23) (pNames 23) ["way", "steps"]) (hz : cf.Γ "zip" = some (.typ "zip")) (l : List Nm) (ss : List Sp) :
  FnC G (k + 1) 151 [.lst (l.map nmD), .lst (ss.map zT)] (.bool (fitsL l ss)) := by
 refine fn_hand fr rfl fun A X Y s env c E => ?_
 obtain ⟨p1, p2, p3, p4, p5, p6, p7, p8, p9, p10, t1, t2, t3, t4, t5, t6, t7, t8, t9, t10, t11, t12, t13, t14, t15, t16, t17, t18, t19, t20, t21, t22, t23, t24, t25, t26, eb, _⟩ := b23
 rw [eb]
 generalize hρ : (rho0 (pNames 23) ["way", "steps"] [.lst (l.map nmD), .lst (ss.map zT)] : Rho) = ρ at c
 have l4 : ρ = [(("way" : Str), .lst (l.map nmD)), (("steps" : Str), .lst (ss.map zT)), (("name" : Str), D.unb), (("step" : Str), D.unb)] := by rw [← hρ]; rfl
 subst l4
 have k1 : (pNames 23).lookup ("zip" : Str) = some .globalImplicit := by decide
 have k2 : (pNames 23).lookup ("name" : Str) = some .local := by decide
 have k3 : (pNames 23).lookup ("step" : Str) = some .local := by decide
 generalize pNames 23 = K at *
 obtain ⟨a', b', hl⟩ := fits_loop (cf := cf) (K := K) (t1 := t1) (t2 := t2) (t3 := t3) (t4 := t4) (t5 := t5) (t6 := t6) (t7 := t7) (t8 := t8) (t9 := t9) (t10 := t10) (t11 := t11) (t12 := t12) (t13 := t13) (t14 := t14) (t15 := t15) (t16 := t16) (t17 := t17) (t18 := t18) (t19 := t19) (t20 := t20) (t21 := t21) (t22 := t22) (t23 := t23) (t24 := t24) (t25 := t25) (.lst (l.map nmD)) (.lst (ss.map zT)) (by simp) (by simp) l ss .unb .unb (by simp) (by simp)
 have ha : evL cf 9 K [(("way" : Str), .lst (l.map nmD)), (("steps" : Str), .lst (ss.map zT)), (("name" : Str), D.unb), (("step" : Str), D.unb)] [.Name "way" p5, .Name "steps" p6] = some [.lst (l.map nmD), .lst (ss.map zT)] :=
  zC (zA (by decide) rfl rfl) (zC (zA (by decide) rfl rfl) zD)
 have hzz : evD cf 9 K [(("way" : Str), .lst (l.map nmD)), (("steps" : Str), .lst (ss.map zT)), (("name" : Str), D.unb), (("step" : Str), D.unb)] (.Name "zip" p4) = some (.typ "zip") := zB (by decide) rfl k1 hz
 cases hf : fitsL l ss with
 | true =>
  rw [hf] at hl
  refine ExS.andThen (x_forZip ok k2 k3 hzz ha (fun ρ => exL cf [] 14 K ρ _) (fun ρ o h => (ex_sound ok [] 14).2 _ _ _ _ h) hl) c fun Y₄ s₄ t₄ c₄ => ?_
  exact ExS.last (x_ret (n := 6) ok (o := .ret (.bool true)) rfl) c₄ c.cx.ti t₄
 | false =>
  rw [hf] at hl
  exact ExS.last (x_forZip ok k2 k3 hzz ha (fun ρ => exL cf [] 14 K ρ _) (fun ρ o h => (ex_sound ok [] 14).2 _ _ _ _ h) hl) c c.cx.ti Stp.refl
end Mine
namespace Mine
open PySem PySem.Calls PyProof.Rows PySem.W
def IsTag (vt : Value) : Option Str → Prop
 | some y => ∃ tt, vt = .str y tt
 | none => vt = .none
def TagAt (C : Addr) (h : Heap) (v : Value) (t : Option Str) : Prop := ∃ a dx es n vt, v = .ref a ∧ h.get? a = some (instObj C dx) ∧ h.get? dx = some (dictOf es n) ∧ getL "tag" es = some (some vt) ∧ IsTag vt t
theorem handed_tag {vt : Value} {t : Option Str} (h : IsTag vt t) : handedIn vt = true := by
 cases t with
 | none => have h' : vt = .none := h; rw [h']; rfl
 | some y => obtain ⟨tt, rfl⟩ := h; rfl
section
variable {prog : Program} {w : World} {A : Around} {E : Value → Shared → Prop} {s : Shared} {Kf : Frag} {C fI : Addr}
theorem get_tag (X : Kf.In s.heap) (NC : NodeCls Kf C fI) {v : Value} {t : Option Str} (h : TagAt C s.heap v t) {Q : Value → Shared → Prop} (hq : ∀ vt, IsTag vt t → Q vt { s with toks := s.toks + 1 }) {ex : Bool} : wpAny (model prog w) A (getAttr v "tag" ex) Q E s := by
 obtain ⟨a, dx, es, n, vt, rfl, h1, h2, h3, h4⟩ := h
 exact get_value X (inst_at h1 h2) (plainGet_of NC.getT).1 (findObj_own NC.has' NC.noT rfl h3) (handed_tag h4) (hq vt h4)
theorem root_ok {G : Gd} (X₀ : Kf.In G.hb) (NC : NodeCls Kf C fI) (hC : G.C = C) : ∀ A X s a r t, NodeAt G.C X s.heap a r t → Cx G s.heap → XOk G X s.heap → ∀ E, wpAny (model G.prog G.w) A (getAttr (.ref a) "root" true) (fun v s' => Gr G s s' ∧ ∃ u, v = .int r u) E s := by
 rintro A X s a r t ⟨dx, es, n, tr, vt, _, _, h1, h2, h3, _⟩ cx _ E
 rw [hC] at h1
 exact get_value (X₀.keeps cx.hb) (inst_at h1 h2) (plainGet_of NC.getR).1 (findObj_own NC.has' NC.noR rfl h3) rfl ⟨Gr.tok, _, rfl⟩
def CellV (env : Env) (href : Heap) (y : Str) (v : Value) : Prop := env.kindOf y = some .free ∧ ∃ c, env.cells.lookup y = some c ∧ ∀ s₂ : Shared, Kept env.locals href s₂ → s₂.heap.IsCell c (some v)
theorem ld_free {env : Env} {href : Heap} {y : Str} {v : Value} {p : Pos} (hk : env.scope.kind = .function) (h : CellV env href y v) (kp : Kept env.locals href s) (h1 : (y == ("__debug__" : Str)) = false) (h2 : (y == ("__classdict__" : Str)) = false) {Q : Value → Shared → Prop} (hq : Q v s) :
  wpAny (model prog w) A (eval (.Name y p) env) Q E s := by
 obtain ⟨k, c, hc, hv⟩ := h
 exact wpAny_Name (wpAny_loadName_free hk k hc (hv s kp) hq h2) h1
theorem isi_call {env : Env} {href : Heap} {e : Expr} {p1 p2 p3 : Pos} (hk : env.scope.kind = .function) (h1 : CellV env href "_isinstance" (.builtin "isinstance")) (h2 : CellV env href "_str" (.type "str")) (kp : Kept env.locals href s) {t : Option Str} {Q : Value → Shared → Prop}
  (he : starEach [e, .Name "_str" p2] env = (false, eval e env) :: starEach [.Name "_str" p2] env) (hev : wpAny (model prog w) A (eval e env) (fun vt s₁ => IsTag vt t ∧ Keeps s s₁) E s) (hq : ∀ s₁, Keeps s s₁ → Q (.bool t.isSome) s₁) :
  wpAny (model prog w) A (eval (.Call (.Name "_isinstance" p1) [e, .Name "_str" p2] [] p3) env) Q E s := by
 refine PyProof.Rows.Call_ (ld_free hk h1 kp (by decide) (by decide) ?_)
 refine callWith_builtin1 ?_ he rfl
 rw [he]
 refine spliced_cons (wpAny_mono hev (fun vt s₁ h₁ => ?_) fun _ _ e => e)
 obtain ⟨ht, k1⟩ := h₁
 have kp1 : Kept env.locals href s₁ := by
  obtain ⟨h', tk, rfl, kk⟩ := k1
  exact fun b o hb e => kk b o (kp b o hb e)
 refine spliced_cons (ld_free hk h2 kp1 (by decide) (by decide) (spliced_nil ?_))
 cases t with
 | none =>
  have ht' : vt = .none := ht
  subst ht'
  refine IsiPair.NoneType_str (hq _ ?_)
  obtain ⟨h', tk, rfl, kk⟩ := k1
  exact ⟨h', tk + 1, rfl, kk⟩
 | some y =>
  obtain ⟨tt, rfl⟩ := ht
  exact IsiPair.str_str (hq _ k1)
theorem Keeps.refl' {s : Shared} : Keeps s s := ⟨s.heap, s.toks, rfl, fun _ _ e => e⟩
theorem Keeps.tok' {s : Shared} {tk : Nat} : Keeps s { s with toks := tk } := ⟨s.heap, tk, rfl, fun _ _ e => e⟩
theorem Keeps.trans' {s s₁ s₂ : Shared} (a : Keeps s s₁) (b : Keeps s₁ s₂) : Keeps s s₂ := by
 obtain ⟨h, t, rfl, k⟩ := a
 obtain ⟨h', t', rfl, k'⟩ := b
 exact ⟨h', t', rfl, fun b o e => k' b o (k b o e)⟩
theorem Kept.keeps {L : Addr} {href : Heap} {s s₁ : Shared} (kp : Kept L href s) (k : Keeps s s₁) : Kept L href s₁ := by
 obtain ⟨h', tk, rfl, kk⟩ := k
 exact fun b o hb e => kk b o (kp b o hb e)
theorem ev_tag {env : Env} {m : Str → Option Value} {x : Str} {v : Value} {p q : Pos} (X : Kf.In s.heap) (NC : NodeCls Kf C fI) (hk : env.scope.kind = .function) (hx : env.kindOf x = some .local) (hd : (x == ("__debug__" : Str)) = false) (hn : s.heap.Ns env.locals m) (hm : m x = some v) {t : Option Str} (h : TagAt C s.heap v t) :
  wpAny (model prog w) A (eval (.Attribute (.Name x p) "tag" q) env) (fun vt s₁ => IsTag vt t ∧ Keeps s s₁) E s := by
 rw [arm_eval_Attribute]
 refine wpAny_bind (wpAny_Name (wpAny_loadName_local hk hx hn hm (wpAny_bind (wpAny_standAt ?_))) hd)
 refine wpAny_bind (wpAny_holding (get_tag X NC h fun vt ht => ?_))
 exact wpAny_bind (wpAny_letTemporaryGo (wpAny_pure ⟨ht, Keeps.tok'⟩))
structure SelCtx (prog : Program) (w : World) (env : Env) (href : Heap) (Kf : Frag) (C : Addr) (vs : List Value) (tags : Nat → Option Str) : Prop where
 kind : env.scope.kind = .function
 elem : env.kindOf "elem" = some .local
 kf : ∀ s₂ : Shared, Kept env.locals href s₂ → Kf.In s₂.heap
 isin : CellV env href "_isinstance" (.builtin "isinstance")
 str : CellV env href "_str" (.type "str")
 node : ∀ s₂ : Shared, Kept env.locals href s₂ → ∀ (i : Nat) (v : Value), vs.toArray[i]? = some v → TagAt C s₂.heap v (tags i)
variable {env : Env} {href : Heap} {vs : List Value} {tags : Nat → Option Str}
theorem selA (SC : SelCtx prog w env href Kf C vs tags) (NC : NodeCls Kf C fI) {p1 p2 p3 p4 p5 : Pos} :
  SelBody prog w env href "elem" (fun i v => vs.toArray[i]? = some v) (fun i => (tags i).isSome) [] (.Call (.Name "_isinstance" p1) [.Attribute (.Name "elem" p2) "tag" p3, .Name "_str" p4] [] p5) (fun _ _ => True) where
 pre := fun A' E i v s m hh hP kp hn hm => wpAny_execs_nil ⟨rfl, ⟨s.heap, s.toks, rfl, fun _ _ _ e => e⟩, m, hn, hm, trivial⟩
 test := fun A' E i v s m hh hP kp hn hm _ => by
  refine isTrue_plain (isi_call SC.kind SC.isin SC.str kp rfl (ev_tag (SC.kf s kp) NC SC.kind SC.elem (by decide) hn hm (SC.node s kp i v hP)) fun s₁ k1 => ?_)
  exact wpAny_truthy_bool ⟨rfl, k1⟩
abbrev elT (tags : Nat → Option Str) (i : Nat) (m : Str → Option Value) : Prop := ∃ vt, m "el_tag" = some vt ∧ IsTag vt (tags i)
theorem pre_tag (SC : SelCtx prog w env href Kf C vs tags) (NC : NodeCls Kf C fI) (hel : env.kindOf "el_tag" = some .local) {q1 q2 q3 q4 : Pos} : ∀ (A' : Around) E (i : Nat) (v : Value) (s : Shared) m, A'.handled = none → vs.toArray[i]? = some v → Kept env.locals href s → s.heap.Ns env.locals m → m "elem" = some v →
  wpAny (model prog w) A' (execs [.Assign [.Name "el_tag" q1] (.Attribute (.Name "elem" q2) "tag" q3) q4] env) (fun f s' => f = .next ∧ OnlyL env.locals s s' ∧ ∃ m', s'.heap.Ns env.locals m' ∧ m' "elem" = some v ∧ elT tags i m') E s := by
 intro A' E i v s m hh hP kp hn hm
 refine wpAny_execs_cons (wpAny_Assign_Name (wpAny_mono (ev_tag (SC.kf s kp) NC SC.kind SC.elem (by decide) hn hm (SC.node s kp i v hP)) (fun vt s₁ h₁ => ?_) fun _ _ e => e) rfl)
 obtain ⟨ht, h1, tk1, rfl, k1⟩ := h₁
 refine wpAny_storeName_local hel (hn.keeps k1) (fun h' hn' hs => ?_) (by rw [SC.kind]; rfl)
 refine wpAny_execs_nil ⟨rfl, ⟨h', _, rfl, fun b o hb e => hs.extBut b o hb (k1 b o e)⟩, _, hn', ?_, vt, ?_, ht⟩
 ·show (if ("elem" : Str) = "el_tag" then some vt else m "elem") = _
  rw [if_neg (by decide)]; exact hm
 ·show (if ("el_tag" : Str) = "el_tag" then some vt else m "el_tag") = _
  rw [if_pos rfl]
theorem ld_el {s : Shared} {A : Around} {E : Value → Shared → Prop} {m : Str → Option Value} {p : Pos} {vt : Value} (hk : env.scope.kind = .function) (hel : env.kindOf "el_tag" = some .local) (hn : s.heap.Ns env.locals m) (hm : m "el_tag" = some vt) {Q : Value → Shared → Prop} (hq : Q vt s) :
  wpAny (model prog w) A (eval (.Name "el_tag" p) env) Q E s := wpAny_Name (wpAny_loadName_local hk hel hn hm hq) (by decide)
end
end Mine
namespace Mine
open PySem PySem.Calls PyProof.Rows PySem.W
def keepB (t : Option Str) : Bool := match t with | some y => Txt.item y 0 != ("{" : Str) | none => false
def keepC (tg sfx : Str) (t : Option Str) : Bool := match t with | some y => (y == tg) || (Txt.slice y (some (-(sfx.length : Int))) none == sfx) | none => false
def keepD (ns : Str) (t : Option Str) : Bool := match t with | some y => Txt.slice y none (some (ns.length : Int)) == ns | none => false
section
variable {prog : Program} {w : World} {Kf : Frag} {C fI : Addr} {env : Env} {href : Heap} {vs : List Value} {tags : Nat → Option Str}
theorem selB (SC : SelCtx prog w env href Kf C vs tags) (NC : NodeCls Kf C fI) (hel : env.kindOf "el_tag" = some .local) (hw : ∀ i y, tags i = some y → 1 ≤ y.length ∧ y.length ≤ 1000) {q1 q2 q3 q4 p1 p2 p3 p4 p5 p6 p7 p8 p9 p10 : Pos} :
  SelBody prog w env href "elem" (fun i v => vs.toArray[i]? = some v) (fun i => keepB (tags i)) [.Assign [.Name "el_tag" q1] (.Attribute (.Name "elem" q2) "tag" q3) q4]
   (.BoolOp .And [.Call (.Name "_isinstance" p1) [.Name "el_tag" p2, .Name "_str" p3] [] p4, .Compare (.Subscript (.Name "el_tag" p5) (.Constant (.int 0) 0 p6) p7) [.NotEq] [.Constant (.str "{") 0 p8] p9] p10) (elT tags) where
 pre := pre_tag SC NC hel
 test := fun A' E i v s m hh hP kp hn hm hT => by
  obtain ⟨vt, hvt, ht⟩ := hT
  refine wpAny_isTrue_BoolOp (wpAny_allTrue_And_cons (isTrue_plain (isi_call (t := tags i) SC.kind SC.isin SC.str kp rfl (ld_el SC.kind hel hn hvt ⟨ht, Keeps.refl'⟩) fun s₁ k1 => wpAny_truthy_bool ?_)))
  cases htg : tags i with
  | none =>
   simp only [Option.isSome_none, Bool.false_eq_true, if_false]
   exact ⟨rfl, k1⟩
  | some y =>
   rw [htg] at ht
   obtain ⟨tt, rfl⟩ := ht
   obtain ⟨hy1, hy2⟩ := hw i y htg
   simp only [Option.isSome_some, if_true]
   have hn1 : s₁.heap.Ns env.locals m := by obtain ⟨h', tk, rfl, kk⟩ := k1; exact hn.keeps kk
   refine wpAny_allTrue_And_cons (wpAny_isTrue_Compare1 (PyProof.Rows.Subscript_ (ld_el SC.kind hel hn1 hvt (wpAny_Constant_int ?_))))
   refine item_str ?_ ?_ ?_ (fun t' => ?_) rfl (fun r => rfl)
   ·rfl
   ·show -(y.length : Int) ≤ 0; omega
   ·show (0 : Int) < y.length; omega
   refine Calls.Constant_str (PyProof.Rows.ne_str (wpAny_truthy_bool ?_))
   have kk : Keeps s₁ { s₁ with toks := s₁.toks + 1 + 1 + 1 } := Keeps.tok'
   unfold keepB
   dsimp only
   cases hb : (Txt.item y 0 != ("{" : Str)) with
   | false =>
    simp only [Bool.false_eq_true, if_false]
    exact ⟨trivial, Keeps.trans' k1 Keeps.tok'⟩
   | true =>
    simp only [if_true]
    exact wpAny_allTrue_And_nil ⟨rfl, Keeps.trans' k1 Keeps.tok'⟩
def SliceV (href : Heap) (L : Addr) (a : Addr) (l u : Option Int) : Prop := ∃ pl pu : Option (Int × Tok), pl.map (·.1) = l ∧ pu.map (·.1) = u ∧ ∀ s₂ : Shared, Kept L href s₂ → s₂.heap.IsSlice a pl pu none
theorem sub_slice {A : Around} {E : Value → Shared → Prop} {s : Shared} {value : Expr} {p : Pos} {z : Str} {a : Addr} {y : Str} {tt : Tok} {l u : Option Int} {L : Addr} {Q : Value → Shared → Prop} (hs : SliceV href L a l u) (kp : Kept L href s) (hy : y.length ≤ 1000) (ht : ∀ r, letTemporaryGo value (.str y tt) r = pure ())
  (hq : ∀ t' tk, Q (.str (Txt.slice y l u) t') { s with toks := tk }) : wpAny (model prog w) A (subscriptTail value (.Name z p) (.str y tt) (.ref a)) Q E s := by
 obtain ⟨pl, pu, rfl, rfl, hh⟩ := hs
 refine subscriptTail_builtin (T := "str") (typeIs_str _ _ _) PySem.F.slot_str_getitem.lookup ?_ rfl ht
 refine wpAny_getItem_str_slice (hh s kp) rfl ?_
 refine post_val_or_str ⟨?_, fun t' k => hq t' k⟩
 exact Nat.le_trans (Txt.slice_le y _ _) (Nat.le_trans hy (by decide))
theorem selD (SC : SelCtx prog w env href Kf C vs tags) (NC : NodeCls Kf C fI) (hel : env.kindOf "el_tag" = some .local) (hw : ∀ i y, tags i = some y → 1 ≤ y.length ∧ y.length ≤ 1000) {ns : Str} {tn : Tok} {a : Addr} (hns : CellV env href "ns" (.str ns tn)) (hso : CellV env href "ns_only" (.ref a)) (hsl : SliceV href env.locals a none (some (ns.length : Int)))
  {q1 q2 q3 q4 p1 p2 p3 p4 p5 p6 p7 p8 p9 p10 : Pos} :
  SelBody prog w env href "elem" (fun i v => vs.toArray[i]? = some v) (fun i => keepD ns (tags i)) [.Assign [.Name "el_tag" q1] (.Attribute (.Name "elem" q2) "tag" q3) q4]
   (.BoolOp .And [.Call (.Name "_isinstance" p1) [.Name "el_tag" p2, .Name "_str" p3] [] p4, .Compare (.Subscript (.Name "el_tag" p5) (.Name "ns_only" p6) p7) [.Eq] [.Name "ns" p8] p9] p10) (elT tags) where
 pre := pre_tag SC NC hel
 test := fun A' E i v s m hh hP kp hn hm hT => by
  obtain ⟨vt, hvt, ht⟩ := hT
  refine wpAny_isTrue_BoolOp (wpAny_allTrue_And_cons (isTrue_plain (isi_call (t := tags i) SC.kind SC.isin SC.str kp rfl (ld_el SC.kind hel hn hvt ⟨ht, Keeps.refl'⟩) fun s₁ k1 => wpAny_truthy_bool ?_)))
  have kp1 := kp.keeps k1
  cases htg : tags i with
  | none =>
   simp only [Option.isSome_none, Bool.false_eq_true, if_false]
   exact ⟨rfl, k1⟩
  | some y =>
   rw [htg] at ht
   obtain ⟨tt, rfl⟩ := ht
   obtain ⟨hy1, hy2⟩ := hw i y htg
   simp only [Option.isSome_some, if_true]
   have hn1 : s₁.heap.Ns env.locals m := by obtain ⟨h', tk, rfl, kk⟩ := k1; exact hn.keeps kk
   refine wpAny_allTrue_And_cons (wpAny_isTrue_Compare1 (PyProof.Rows.Subscript_ (ld_el SC.kind hel hn1 hvt (ld_free SC.kind hso kp1 (by decide) (by decide) ?_))))
   refine sub_slice hsl kp1 hy2 (fun r => rfl) fun t' tk => ?_
   refine ld_free SC.kind hns (s := { s₁ with toks := tk }) kp1 (by decide) (by decide) ?_
   refine PyProof.Rows.eq_str (wpAny_truthy_bool ?_)
   unfold keepD
   dsimp only
   cases hb : (Txt.slice y none (some (ns.length : Int)) == ns) with
   | false =>
    simp only [Bool.false_eq_true, if_false]
    exact ⟨trivial, Keeps.trans' k1 Keeps.tok'⟩
   | true =>
    simp only [if_true]
    exact wpAny_allTrue_And_nil ⟨rfl, Keeps.trans' k1 Keeps.tok'⟩
theorem selC (SC : SelCtx prog w env href Kf C vs tags) (NC : NodeCls Kf C fI) (hel : env.kindOf "el_tag" = some .local) (hw : ∀ i y, tags i = some y → 1 ≤ y.length ∧ y.length ≤ 1000) {tg sfx : Str} {t1 t2 : Tok} {a : Addr} (htg' : CellV env href "tag" (.str tg t1)) (hsf : CellV env href "suffix" (.str sfx t2)) (hso : CellV env href "no_ns" (.ref a)) (hsl : SliceV href env.locals a (some (-(sfx.length : Int))) none)
  {q1 q2 q3 q4 p0 p00 p000 p1 p2 p3 p4 p5 p6 p7 p8 p9 p10 p11 : Pos} :
  SelBody prog w env href "elem" (fun i v => vs.toArray[i]? = some v) (fun i => keepC tg sfx (tags i)) [.Assign [.Name "el_tag" q1] (.Attribute (.Name "elem" q2) "tag" q3) q4]
   (.BoolOp .Or [.Compare (.Name "el_tag" p0) [.Eq] [.Name "tag" p00] p000, .BoolOp .And [.Call (.Name "_isinstance" p1) [.Name "el_tag" p2, .Name "_str" p3] [] p4, .Compare (.Subscript (.Name "el_tag" p5) (.Name "no_ns" p6) p7) [.Eq] [.Name "suffix" p8] p9] p10] p11) (elT tags) where
 pre := pre_tag SC NC hel
 test := fun A' E i v s m hh hP kp hn hm hT => by
  obtain ⟨vt, hvt, ht⟩ := hT
  refine wpAny_isTrue_BoolOp (wpAny_allTrue_Or_cons (wpAny_isTrue_Compare1 (ld_el SC.kind hel hn hvt (ld_free SC.kind htg' kp (by decide) (by decide) ?_))))
  have second : ∀ {Q : Bool → Shared → Prop}, (∀ b s', b = (match tags i with | some y => Txt.slice y (some (-(sfx.length : Int))) none == sfx | none => false) → Keeps s s' → Q b s') →
    wpAny (model prog w) A' (isTrue (.BoolOp .And [.Call (.Name "_isinstance" p1) [.Name "el_tag" p2, .Name "_str" p3] [] p4, .Compare (.Subscript (.Name "el_tag" p5) (.Name "no_ns" p6) p7) [.Eq] [.Name "suffix" p8] p9] p10) env (eval (.BoolOp .And [.Call (.Name "_isinstance" p1) [.Name "el_tag" p2, .Name "_str" p3] [] p4, .Compare (.Subscript (.Name "el_tag" p5) (.Name "no_ns" p6) p7) [.Eq] [.Name "suffix" p8] p9] p10) env)) Q E s := by
   intro Q hQ
   refine wpAny_isTrue_BoolOp (wpAny_allTrue_And_cons (isTrue_plain (isi_call (t := tags i) SC.kind SC.isin SC.str kp rfl (ld_el SC.kind hel hn hvt ⟨ht, Keeps.refl'⟩) fun s₁ k1 => wpAny_truthy_bool ?_)))
   have kp1 := kp.keeps k1
   cases htg : tags i with
   | none =>
    simp only [Option.isSome_none, Bool.false_eq_true, if_false]
    exact hQ _ _ (by rw [htg]) k1
   | some y =>
    rw [htg] at ht
    obtain ⟨tt, rfl⟩ := ht
    obtain ⟨hy1, hy2⟩ := hw i y htg
    simp only [Option.isSome_some, if_true]
    have hn1 : s₁.heap.Ns env.locals m := by obtain ⟨h', tk, rfl, kk⟩ := k1; exact hn.keeps kk
    refine wpAny_allTrue_And_cons (wpAny_isTrue_Compare1 (PyProof.Rows.Subscript_ (ld_el SC.kind hel hn1 hvt (ld_free SC.kind hso kp1 (by decide) (by decide) ?_))))
    refine sub_slice hsl kp1 hy2 (fun r => rfl) fun t' tk => ?_
    refine ld_free SC.kind hsf (s := { s₁ with toks := tk }) kp1 (by decide) (by decide) ?_
    refine PyProof.Rows.eq_str (wpAny_truthy_bool ?_)
    cases hb : (Txt.slice y (some (-(sfx.length : Int))) none == sfx) with
    | false =>
     simp only [Bool.false_eq_true, if_false]
     exact hQ _ _ (by rw [htg]; exact hb.symm) (Keeps.trans' k1 Keeps.tok')
    | true =>
     simp only [if_true]
     exact wpAny_allTrue_And_nil (hQ _ _ (by rw [htg]; exact hb.symm) (Keeps.trans' k1 Keeps.tok'))
  have last : ∀ {s₀ : Shared}, s₀ = s → ∀ b1, (b1 = (match tags i with | some y => y == tg | none => false)) → wpAny (model prog w) A' (truthy (.bool b1)) (fun b s' => if b = true then (fun b s' => b = keepC tg sfx (tags i) ∧ Keeps s s') true s' else wpAny (model prog w) A' (allTrue .Or [.BoolOp .And [.Call (.Name "_isinstance" p1) [.Name "el_tag" p2, .Name "_str" p3] [] p4, .Compare (.Subscript (.Name "el_tag" p5) (.Name "no_ns" p6) p7) [.Eq] [.Name "suffix" p8] p9] p10] env) (fun b s' => b = keepC tg sfx (tags i) ∧ Keeps s s') E s') E s₀ := by
   rintro s₀ rfl b1 hb1
   refine wpAny_truthy_bool ?_
   cases b1 with
   | true =>
    simp only [if_true]
    refine ⟨?_, Keeps.refl'⟩
    unfold keepC
    cases htg : tags i with
    | none => rw [htg] at hb1; cases hb1
    | some y => rw [htg] at hb1; dsimp only at hb1 ⊢; rw [← hb1]; rfl
   | false =>
    simp only [Bool.false_eq_true, if_false]
    refine wpAny_allTrue_Or_cons (second fun b s' hb k => ?_)
    have fin : b = keepC tg sfx (tags i) := by
     unfold keepC
     cases htg : tags i with
     | none => rw [htg] at hb; exact hb
     | some y => rw [htg] at hb hb1; dsimp only at hb hb1 ⊢; rw [hb, ← hb1]; rfl
    cases b with
    | true => simp only [if_true]; exact ⟨fin, k⟩
    | false => simp only [Bool.false_eq_true, if_false]; exact wpAny_allTrue_Or_nil ⟨fin, k⟩
  cases htg : tags i with
  | none =>
   rw [htg] at ht
   have ht' : vt = .none := ht
   subst ht'
   exact PySem.EqNone.eq_none_str (by rw [← htg]; exact last rfl false (by rw [htg]))
  | some y =>
   rw [htg] at ht
   obtain ⟨tt, rfl⟩ := ht
   exact PyProof.Rows.eq_str (by rw [← htg]; exact last rfl (y == tg) (by rw [htg]))
end
end Mine
namespace Mine
open PySem PySem.Calls PyProof.Rows PySem.W
theorem pick_filter {C : Addr} {X : List Addr} {h : Heap} (keep : D → Bool) : ∀ {ds : List D} {vs : List Value}, RdL C X h ds vs →
  RdL C X h (ds.filter keep) (((List.range ds.length).filter fun i => keep (ds.getD i .none)).map fun i => vs.getD i .none)
 | [], vs, r => by simp; exact .nil
 | d :: ds, vs, r => by
  obtain ⟨v, vs', rfl, hr, l⟩ := r.cons_inv
  have ih := pick_filter keep l
  rw [List.length_cons, List.range_succ_eq_map, List.filter_cons]
  have e : (List.filter (fun i => keep ((d :: ds).getD i .none)) (List.map Nat.succ (List.range ds.length))).map (fun i => (v :: vs').getD i .none) = ((List.range ds.length).filter fun i => keep (ds.getD i .none)).map fun i => vs'.getD i .none := by
   rw [List.filter_map, List.map_map]
   rfl
  by_cases hk : keep d = true
  ·rw [if_pos hk, List.filter_cons_of_pos (by simpa using hk), List.map_cons]
   refine .cons hr ?_
   rw [e]; exact ih
  ·rw [if_neg hk, List.filter_cons_of_neg (by simpa using hk), e]
   exact ih
theorem items_pick {vs : List Value} {pz : Nat → Bool} {acc : Array Value} (h : ItemsOf (fun j y => ∃ i, (passing pz vs.toArray.size 0)[j]? = some i ∧ vs.toArray[i]? = some y) acc (passing pz vs.toArray.size 0).length) :
  acc.toList = ((List.range vs.length).filter pz).map fun i => vs.getD i .none := by
 have ep : passing pz vs.toArray.size 0 = (List.range vs.length).filter pz := by unfold passing; simp
 rw [ep] at h
 obtain ⟨h1, h2⟩ := h
 refine List.ext_getElem? fun j => ?_
 rw [List.getElem?_map]
 by_cases hj : j < acc.size
 ·have e : acc.toList[j]? = some acc[j] := by simp [hj]
  obtain ⟨i, hi, hv⟩ := h2 j acc[j] (by simp [hj])
  rw [e, hi]
  simp only [Option.map_some, Option.some.injEq]
  have hv' : vs[i]? = some acc[j] := by simpa using hv
  rw [List.getD_eq_getElem?_getD, hv']; rfl
 ·have e : acc.toList[j]? = none := by simp; omega
  rw [e]
  have : ((List.range vs.length).filter pz)[j]? = none := by simp only [List.getElem?_eq_none_iff]; omega
  rw [this]; rfl
theorem gens_bare {a b : Array GenState} {g : Nat} {c : Code} (ha : AllBare a) (hg : g = a.size) (ho : GenOnly g (a.push (.fresh c)) b) (hf : b[g]? = some .finished) : AllBare b := by
 intro x hx
 obtain ⟨i, hi, rfl⟩ := Array.mem_iff_getElem.mp hx
 by_cases e : i = g
 ·subst e
  rw [Array.getElem?_eq_getElem hi] at hf
  rw [Option.some.inj hf]; rfl
 ·have h1 := ho.2 i e
  rw [Array.getElem?_eq_getElem hi] at h1
  have hlt : i < a.size := by
   have := ho.1
   rw [Array.size_push] at this
   omega
  rw [Array.getElem?_push, if_neg (by omega), Array.getElem?_eq_getElem hlt] at h1
  rw [Option.some.inj h1]
  exact ha _ (Array.getElem_mem hlt)
section
variable {G : Gd} {A : Around} {X : List Addr} {E : Value → Shared → Prop} {s : Shared} {f : Addr} {name qual : Str} {params : Arguments} {scope : Scope} {clos : List (Str × Addr)} {doc pm cv ctv : Value} {pre : List Stmt} {test : Expr} {px pr p1 p2 p3 p4 bpos : Pos}
set_option maxHeartbeats 1000000 in
theorem sel_call (hh : A.handled = none) (hroom : A.depth + 1 < recursionLimit) (cx : Cx G s.heap) (hf : s.heap.get? f = some (fnObj (fnX name qual params (selFn "elem" "result" px pr pre test p1 p2 p3 p4 bpos) scope clos .none .none doc pm none cv ctv))) (hcv : s.heap.CodeRec cv qual)
  (hco : scope.isCoroutine = false) (hgen : scope.isGenerator = true) (hk : scope.kind = .function) (hcell : ∀ y ∈ scope.names, y.2 ≠ .cell) (hc : scope.names.lookup ("context" : Str) = some .local) (hr : scope.names.lookup ("result" : Str) = some .local) (he : scope.names.lookup ("elem" : Str) = some .local)
  (hbind : ∀ a b, bindArgs (fnX name qual params (selFn "elem" "result" px pr pre test p1 p2 p3 p4 bpos) scope clos .none .none doc pm none cv ctv) ⟨[a, b], []⟩ = pure [(("context" : Str), a), (("result" : Str), b)])
  {l : Addr} {vs : List Value} {j : Nat} {ds : List D} (hl : s.heap.get? l = some (lstObj vs j)) (hX : XOk G X s.heap) (hlX : l ∉ X) (rl : RdL G.C X s.heap ds vs) (hsz : ds.length ≤ 1000) {keep : D → Bool} {T : Nat → (Str → Option Value) → Prop}
  (hB : ∀ (env : Env) (s' : Shared), env.scope = scope → env.cells = clos → env.locals = s.heap.objs.size → (∀ b o, s.heap.get? b = some o → s'.heap.get? b = some o) → SelBody G.prog G.w env s'.heap "elem" (fun i v => vs.toArray[i]? = some v) (fun i => keep (ds.getD i .none)) pre test T)
  {Q : Value → Shared → Prop} (hQ : ∀ v s₁, Gr G s s₁ → (∀ {A' : Around} {E' : Value → Shared → Prop} {Q' : Value → Shared → Prop}, A'.handled = none → A'.depth + 1 < recursionLimit → (∀ u s₂, Gr G s s₂ → Rd G.C X s₂.heap (.lst (ds.filter keep)) u → Q' u s₂) → wpAny (model G.prog G.w) A' (call (.type "list") [v]) Q' E' s₁) → Q v s₁) :
  wpAny (model G.prog G.w) A (call (.ref f) [.none, .ref l]) Q E s := by
 have hlim : s.heap.NoLimit := G.nolim.keeps cx.hb
 refine wpAny_call (codeAny_call_generator (Nat.lt_of_succ_lt hroom) hf rfl hco hgen rfl hcv ?_)
 rw [hbind]
 refine wpAny_pure (wpAny_newFunctionEnv hcell (by
  intro y hy
  simp only [List.mem_cons, List.not_mem_nil, or_false] at hy
  rcases hy with rfl | rfl
  ·exact hc
  ·exact hr) (fun h' hns hsb => ?_) hk)
 have eL : ∀ {e : Env}, e = newEnv scope s.heap.objs.size mainGlobals clos (qual ++ ".<locals>.") (some f) cv none builtinsNs → e.locals = s.heap.objs.size ∧ e.scope = scope ∧ e.cells = clos := by
  rintro e rfl; exact ⟨rfl, rfl, rfl⟩
 show Heap.NoLimit h' ∧ _
 have old : ∀ b o, s.heap.get? b = some o → h'.get? b = some o := fun b o e => hsb.extBut b o (Nat.ne_of_lt (Heap.lt_size e)) (Heap.get?_push_of_some _ e)
 refine ⟨hlim.keeps old, ?_⟩
 generalize henv : newEnv scope s.heap.objs.size mainGlobals clos (qual ++ ".<locals>.") (some f) cv none builtinsNs = env
 obtain ⟨e1, e2, e3⟩ := eL henv.symm
 have lt : s.heap.objs.size < h'.objs.size := hns.lt
 generalize hs1 : ({ s with heap := h'.push { cls := .type "generator", data := .fields #[.int s.gens.size 0, .str name (s.toks + 2), .str qual (s.toks + 2 + 1)] }, gens := s.gens.push (.fresh (.func (selFn "elem" "result" px pr pre test p1 p2 p3 p4 bpos) env)), toks := s.toks + 2 + 1 + 1 } : Shared) = s₁
 have eqS : s₁.heap = h'.push { cls := .type "generator", data := .fields #[.int s.gens.size 0, .str name (s.toks + 2), .str qual (s.toks + 2 + 1)] } := by rw [← hs1]
 have eqG : s₁.gens = s.gens.push (.fresh (.func (selFn "elem" "result" px pr pre test p1 p2 p3 p4 bpos) env)) := by rw [← hs1]
 have eqO : s₁.os = s.os := by rw [← hs1]
 have up1 : ∀ b o, s.heap.get? b = some o → s₁.heap.get? b = some o := fun b o e => by rw [eqS]; exact Heap.get?_push_of_some _ (old b o e)
 have g1 : Gr G s s₁ := ⟨fun b o _ e => up1 b o e, fun t => G.frame _ _ t fun b o _ e => up1 b o e, eqO, fun hb => by rw [eqG]; exact hb.push rfl⟩
 refine (fun goal => hs1 ▸ goal : Q (.ref h'.objs.size) s₁ → Q (.ref h'.objs.size) _) ?_
 refine hQ _ _ g1 fun {A' E' Q'} hh' hroom' hQ' => ?_
 have hga : s₁.heap.IsGen h'.objs.size s.gens.size := by
  refine ⟨_, _, _, by rw [eqS]; exact Heap.get?_push_size _ rfl, rfl, rfl, rfl⟩
 have hgs : s₁.gens[s.gens.size]? = some (.fresh (.func (selFn "elem" "result" px pr pre test p1 p2 p3 p4 bpos) env)) := by rw [eqG]; exact Array.getElem?_push_size ..
 have hll : s₁.heap.IsList l vs.toArray := ⟨_, up1 _ _ hl, rfl, j, rfl⟩
 have hlL : l ≠ env.locals := by rw [e1]; exact Nat.ne_of_lt (Heap.lt_size hl)
 have haL : h'.objs.size ≠ env.locals := by rw [e1]; exact Nat.ne_of_gt lt
 have hcL : cStatics ≠ env.locals := by
  rw [e1]
  obtain ⟨mc, hn, _⟩ := hlim
  exact Nat.ne_of_lt hn.lt
 have hns1 : s₁.heap.Ns env.locals (fun x => [(("context" : Str), Value.none), (("result" : Str), .ref l)].reverse.lookup x) := by
  rw [eqS, e1]; exact hns.push _
 have kof : ∀ x, env.kindOf x = scope.names.lookup x := fun x => by unfold Env.kindOf; rw [e2]
 have hsize : (passing (fun i => keep (ds.getD i .none)) vs.toArray.size 0).length ≤ sizeLine := by
  have ep : (passing (fun i => keep (ds.getD i .none)) vs.toArray.size 0).length ≤ vs.length := by
   unfold passing
   refine Nat.le_trans (List.length_filter_le _ _) ?_
   simp
  rw [rl.length] at ep
  exact Nat.le_trans ep (Nat.le_trans hsz (by decide))
 refine sel_list (s := s₁) (m := fun x => [(("context" : Str), Value.none), (("result" : Str), .ref l)].reverse.lookup x) hh' (Nat.lt_of_succ_lt hroom') ((kof _).trans he) ((kof _).trans hr) (by rw [e2]; exact hk) (by rw [e2]; exact hco) (by decide) (by decide) hll hlL haL hcL (hlim.keeps up1) hga hgs
  (hB env s₁ e2 e3 e1 up1) hns1 rfl hsize fun s₂ acc c kp hos hgo hfin hnew hS hit => ?_
 have eacc := items_pick hit
 have up2 : ∀ b o, s.heap.get? b = some o → s₂.heap.get? b = some o := fun b o e => kp b o (by rw [e1]; exact Nat.ne_of_lt (Heap.lt_size e)) (up1 b o e)
 have g2 : Gr G s s₂ := by
  refine ⟨fun b o _ e => up2 b o e, fun t => G.frame _ _ t fun b o _ e => up2 b o e, hos.trans eqO, fun hb => ?_⟩
  rw [eqG] at hgo
  exact gens_bare hb rfl hgo hfin
 refine hQ' _ _ g2 ?_
 have fresh : s₁.heap.objs.size ∉ X := fun q => by
  obtain ⟨o, e⟩ := hX.live _ q
  rw [up1 _ _ e] at hnew; cases hnew
 have epz : ((List.range vs.length).filter fun i => keep (ds.getD i .none)) = (List.range ds.length).filter fun i => keep (ds.getD i .none) := by rw [rl.length]
 have rp := pick_filter keep rl
 refine Rd.lst' (vs := acc.toList) (n := c) fresh ?_ ?_
 ·rw [hS]
 ·rw [eacc, epz]
  exact rp.imp fun b o hb e => ⟨hb, up2 b o e⟩
end
end Mine
namespace Mine
open PySem PySem.Calls PyProof.Rows PySem.W
structure IsSel (d : Stmt) (params : Arguments) (scope : Scope) (pre : List Stmt) (test : Expr) (px pr p1 p2 p3 p4 bpos pos : Pos) : Prop where
 eq : d = .FunctionDef "select" params (selFn "elem" "result" px pr pre test p1 p2 p3 p4 bpos) [] none [] scope none "select" pos
 d0 : params.defaults = []
 k0 : params.kw_defaults = []
 ann : ∀ env, annTrees params none env = []
 co : scope.isCoroutine = false
 gen : scope.isGenerator = true
 kind : scope.kind = .function
 cell : scope.names.all (fun p => p.2 != .cell) = true
 ctx : scope.names.lookup ("context" : Str) = some .local
 res : scope.names.lookup ("result" : Str) = some .local
 elem : scope.names.lookup ("elem" : Str) = some .local
 isin : scope.names.lookup ("_isinstance" : Str) = some .free
 str : scope.names.lookup ("_str" : Str) = some .free
 free : scope.names.all (fun p => p.2 != .free || (pNames 2).lookup p.1 == some .cell) = true
 bind : ∀ qual clos doc pm cv ctv a b, bindArgs (fnX "select" qual params (selFn "elem" "result" px pr pre test p1 p2 p3 p4 bpos) scope clos .none .none doc pm none cv ctv) ⟨[a, b], []⟩ = pure [(("context" : Str), a), (("result" : Str), b)]
abbrev slLo (k : Int) (v : Str) (p1 p2 p3 p4 : Pos) : Expr := .Subscript (.Name v p1) (.Slice (some (.Constant (.int k) 0 p2)) none none p3) p4
abbrev slLoN (k : Int) (v : Str) (p1 p2 p3 p4 p5 : Pos) : Expr := .Subscript (.Name v p1) (.Slice (some (.UnaryOp .USub (.Constant (.int k) 0 p2) p3)) none none p4) p5
abbrev slHi (k : Int) (v : Str) (p1 p2 p3 p4 : Pos) : Expr := .Subscript (.Name v p1) (.Slice none (some (.Constant (.int k) 0 p2)) none p3) p4
abbrev slHiN (k : Int) (v : Str) (p1 p2 p3 p4 p5 : Pos) : Expr := .Subscript (.Name v p1) (.Slice none (some (.UnaryOp .USub (.Constant (.int k) 0 p2) p3)) none p4) p5
abbrev eqStr (l : Expr) (x : Str) (p q : Pos) : Expr := .Compare l [.Eq] [.Constant (.str x) 0 p] q
abbrev elAsg (q1 q2 q3 q4 : Pos) : List Stmt := [.Assign [.Name "el_tag" q1] (.Attribute (.Name "elem" q2) "tag" q3) q4]
abbrev isiEl (p1 p2 p3 p4 : Pos) : Expr := .Call (.Name "_isinstance" p1) [.Name "el_tag" p2, .Name "_str" p3] [] p4
theorem b2 : ∃ (a1 a2 a3 a4 a5 a6 a7 r1 r2 u1 u2 u3 u4 : Pos) (t1 t2 t3 t4 : Expr) (dA dB dC dD c1 c2 c3 d1 d2 : Stmt) (els : List Stmt),
  pBody 2 = [.Assign [.Tuple [.Name "_isinstance" a1, .Name "_str" a2] 0 a3] (.Tuple [.Name "isinstance" a4, .Name "str" a5] 0 a6) a7, .If t1 [dA] [.If t2 [dB] [.If t3 [c1, c2, c3, dC] [.If t4 [d1, d2, dD] els u4] u3] u2] u1, .Return (some (.Name "select" r1)) r2] ∧
  (∃ p q r, t1 = eqStr (.Name "tag" p) "{*}*" q r) ∧ (∃ p q r, t2 = eqStr (.Name "tag" p) "{}*" q r) ∧ (∃ p q r a b c, t3 = eqStr (slHi 3 "tag" p q r a) "{*}" b c) ∧ (∃ p q r a b c d, t4 = eqStr (slLoN 2 "tag" p q r a b) "}*" c d) ∧
  (∃ a b c d e f, c1 = .Assign [.Name "suffix" a] (slLo 2 "tag" b c d e) f) ∧ (∃ a b c d e f g h i, c2 = .Assign [.Name "no_ns" a] (.Call (.Name "slice" b) [.UnaryOp .USub (.Call (.Name "len" c) [.Name "suffix" d] [] e) f, .Constant .none 0 g] [] h) i) ∧ (∃ a b c d e f, c3 = .Assign [.Name "tag" a] (slLo 3 "tag" b c d e) f) ∧
  (∃ a b c d e f g, d1 = .Assign [.Name "ns" a] (slHiN 1 "tag" b c d e f) g) ∧ (∃ a b c d e f g h, d2 = .Assign [.Name "ns_only" a] (.Call (.Name "slice" b) [.Constant .none 0 c, .Call (.Name "len" d) [.Name "ns" e] [] f] [] g) h) ∧
  (∃ params scope px pr p1 p2 p3 p4 bpos pos q1 q2 q3 q4 q5, IsSel dA params scope [] (.Call (.Name "_isinstance" q1) [.Attribute (.Name "elem" q2) "tag" q3, .Name "_str" q4] [] q5) px pr p1 p2 p3 p4 bpos pos) ∧
  (∃ params scope px pr p1 p2 p3 p4 bpos pos e1 e2 e3 e4 q1 q2 q3 q4 q5 q6 q7 q8 q9 q10, IsSel dB params scope (elAsg e1 e2 e3 e4) (.BoolOp .And [isiEl q1 q2 q3 q4, .Compare (.Subscript (.Name "el_tag" q5) (.Constant (.int 0) 0 q6) q7) [.NotEq] [.Constant (.str "{") 0 q8] q9] q10) px pr p1 p2 p3 p4 bpos pos ∧ scope.names.lookup ("el_tag" : Str) = some .local) ∧
  (∃ params scope px pr p1 p2 p3 p4 bpos pos e1 e2 e3 e4 q0 q00 q000 q1 q2 q3 q4 q5 q6 q7 q8 q9 q10 q11, IsSel dC params scope (elAsg e1 e2 e3 e4) (.BoolOp .Or [.Compare (.Name "el_tag" q0) [.Eq] [.Name "tag" q00] q000, .BoolOp .And [isiEl q1 q2 q3 q4, .Compare (.Subscript (.Name "el_tag" q5) (.Name "no_ns" q6) q7) [.Eq] [.Name "suffix" q8] q9] q10] q11) px pr p1 p2 p3 p4 bpos pos ∧ scope.names.lookup ("el_tag" : Str) = some .local ∧ scope.names.lookup ("tag" : Str) = some .free ∧ scope.names.lookup ("no_ns" : Str) = some .free ∧ scope.names.lookup ("suffix" : Str) = some .free) ∧
  (∃ params scope px pr p1 p2 p3 p4 bpos pos e1 e2 e3 e4 q1 q2 q3 q4 q5 q6 q7 q8 q9 q10, IsSel dD params scope (elAsg e1 e2 e3 e4) (.BoolOp .And [isiEl q1 q2 q3 q4, .Compare (.Subscript (.Name "el_tag" q5) (.Name "ns_only" q6) q7) [.Eq] [.Name "ns" q8] q9] q10) px pr p1 p2 p3 p4 bpos pos ∧ scope.names.lookup ("el_tag" : Str) = some .local ∧ scope.names.lookup ("ns" : Str) = some .free ∧ scope.names.lookup ("ns_only" : Str) = some .free) := by
 refine ⟨_, _, _, _, _, _, _, _, _, _, _, _, _, _, _, _, _, _, _, _, _, _, _, _, _, _, _, rfl, ?_, ?_, ?_, ?_, ?_, ?_, ?_, ?_, ?_, ?_, ?_, ?_, ?_⟩
 ·exact ⟨_, _, _, rfl⟩
 ·exact ⟨_, _, _, rfl⟩
 ·exact ⟨_, _, _, _, _, _, rfl⟩
 ·exact ⟨_, _, _, _, _, _, _, rfl⟩
 ·exact ⟨_, _, _, _, _, _, rfl⟩
 ·exact ⟨_, _, _, _, _, _, _, _, _, rfl⟩
 ·exact ⟨_, _, _, _, _, _, rfl⟩
 ·exact ⟨_, _, _, _, _, _, _, rfl⟩
 ·exact ⟨_, _, _, _, _, _, _, _, rfl⟩
 ·refine ⟨_, _, _, _, _, _, _, _, _, _, _, _, _, _, _, ⟨rfl, rfl, rfl, fun _ => rfl, rfl, rfl, rfl, by decide, by decide, by decide, by decide, by decide, by decide, by decide, fun _ _ _ _ _ _ _ _ => rfl⟩⟩
 ·refine ⟨_, _, _, _, _, _, _, _, _, _, _, _, _, _, _, _, _, _, _, _, _, _, _, _, ⟨rfl, rfl, rfl, fun _ => rfl, rfl, rfl, rfl, by decide, by decide, by decide, by decide, by decide, by decide, by decide, fun _ _ _ _ _ _ _ _ => rfl⟩, by decide⟩
 ·refine ⟨_, _, _, _, _, _, _, _, _, _, _, _, _, _, _, _, _, _, _, _, _, _, _, _, _, _, _, _, ⟨rfl, rfl, rfl, fun _ => rfl, rfl, rfl, rfl, by decide, by decide, by decide, by decide, by decide, by decide, by decide, fun _ _ _ _ _ _ _ _ => rfl⟩, by decide, by decide, by decide, by decide⟩
 ·refine ⟨_, _, _, _, _, _, _, _, _, _, _, _, _, _, _, _, _, _, _, _, _, _, _, _, ⟨rfl, rfl, rfl, fun _ => rfl, rfl, rfl, rfl, by decide, by decide, by decide, by decide, by decide, by decide, by decide, fun _ _ _ _ _ _ _ _ => rfl⟩, by decide, by decide, by decide⟩
end Mine
namespace Mine
open PySem PySem.Calls PyProof.Rows PySem.W
section
variable {G : Gd} {k n : Nat} {cf : Cf} {K : Kn} {ρ : Rho}
theorem swapped_cells {env : Env} {x y : Str} {px py : Pos} {a b : Expr} {kk k2 : Nat} {tp vp : Pos} (ek : EnvK env K) (h1 : K.lookup x = some .cell) (h2 : K.lookup y = some .cell) (ha : ∀ e p, a ≠ .Starred e p) (hb : ∀ e p, b ≠ .Starred e p) :
  swappedStores [.Tuple [.Name x px, .Name y py] kk tp] (.Tuple [a, b] k2 vp) env = pure none := by
 have k1 : env.kindOf x = some .cell := by unfold Env.kindOf; rw [ek.names]; exact h1
 have k2' : env.kindOf y = some .cell := by unfold Env.kindOf; rw [ek.names]; exact h2
 have hbk : env.blockKind = .function := by unfold Env.blockKind; rw [ek.kind]; rfl
 have hs : ([a, b].any fun | .Starred .. => true | _ => false) = false := by
  rw [List.any_cons, List.any_cons]
  refine Bool.or_eq_false_iff.mpr ⟨?_, Bool.or_eq_false_iff.mpr ⟨?_, rfl⟩⟩
  ·cases a <;> first | rfl | exact absurd rfl (ha _ _)
  ·cases b <;> first | rfl | exact absurd rfl (hb _ _)
 have hn : ([Expr.Name x px, Expr.Name y py].filterMap fun
  | .Name id pos => if env.kindOf id == some .local && pos.line == px.line then some id else none
  | _ => none) = [] := by
  simp [List.filterMap_cons, k1, k2']
 unfold swappedStores
 dsimp only
 refine (if_neg (by rw [hbk]; simp)).trans ?_
 refine (if_neg (fun q => Bool.noConfusion (hs.symm.trans q))).trans ?_
 generalize hN : List.filterMap _ _ = names
 have hN' : names = [] := hN.symm.trans hn
 subst hN'
 exact if_pos rfl
theorem x_cells (ok : CfOk G cf k) {x y : Str} {px py tp vp pos : Pos} {a b : Expr} {kk k2 : Nat} {da db : D} (h1 : K.lookup x = some .cell) (h2 : K.lookup y = some .cell)
  (ha : evD cf n K ρ a = some da) (hb : evD cf n K ρ b = some db) (hp : (da.pure && db.pure) = true) (hsw : ∀ env : Env, swapsWithSole [.Tuple [.Name x px, .Name y py] kk tp] (.Tuple [a, b] k2 vp) pos.line env = pure false) :
  ExS G k K ρ (.Assign [.Tuple [.Name x px, .Name y py] kk tp] (.Tuple [a, b] k2 vp) pos) (.next (stD (stD ρ x da) y db)) := by
 intro A Xc Y s env c E
 rw [Bool.and_eq_true] at hp
 have star : ∀ {e : Expr} {d : D}, evD cf n K ρ e = some d → ∀ e' p, e ≠ .Starred e' p := fun he e' p q => by
  subst q
  cases n with
  | zero => unfold evD at he; cases he
  | succ n => unfold evD at he; cases he
 refine Assign_Tuple (Tuple_ ?_) (hsw env) (swapped_cells c.cxt.env.k h1 h2 (star ha) (star hb))
 refine args_cons (((sound ok n).ev _ _ _ _ ha A _ s env c.cxt).post fun va s₁ g₁ r₁ => ?_) (evD_star ha _ env)
 have c₁ := c.gr g₁
 refine args_cons (((sound ok n).ev _ _ _ _ hb A _ s₁ env c₁.cxt).post fun vb s₂ g₂ r₂ => ?_) (evD_star hb _ env)
 refine args_nil ?_
 have c₂ := c₁.gr g₂
 refine wpAny_newObj_type ?_ (by show 2 ≤ sizeLine; decide)
 have g₃ : Gr G s₂ { s₂ with heap := s₂.heap.push (tupObj [va, vb] 0) } := Gr.push'
 have c₃ := c₂.gr g₃
 have hh : A.handled = none := c.room.hh
 refine wpAny_assign_Tuple (s := { s₂ with heap := s₂.heap.push (tupObj [va, vb] 0) }) (items := #[va, vb]) hh ⟨_, Heap.get?_push_size _ rfl, rfl, 0, rfl⟩ rfl rfl fun h' he => ?_
 have g₄ : Gr G { s₂ with heap := s₂.heap.push (tupObj [va, vb] 0) } { s₂ with heap := h' } := Gr.of (s := { s₂ with heap := s₂.heap.push (tupObj [va, vb] 0) }) (tk := s₂.toks) fun b o e => he b o (fun q => by rw [q, zL (o := tupObj [va, vb] 0)] at e; cases e) e
 have c₄ := c₃.gr g₄
 have ra : Rd G.C (Y ++ Xc) h' da va := Rd.gr c₃.xok.tabs g₄ (Rd.gr c₂.xok.tabs g₃ (Rd.gr c₁.xok.tabs g₂ (r₁.rd hp.1)))
 have rb : Rd G.C (Y ++ Xc) h' db vb := Rd.gr c₃.xok.tabs g₄ (Rd.gr c₂.xok.tabs g₃ (r₂.rd hp.2))
 show wpAny _ _ (do holding [vb] (assign (.Name x px) env va); assignInOrder [fun v => assign (.Name y py) env v] [vb]) _ _ _
 refine wpAny_bind (wpAny_holding (wpAny_assign_Name (store_ok c₄ (.inr h1) ra fun s₅ t₅ c₅ => ?_)))
 show wpAny _ _ (do holding [] (assign (.Name y py) env vb); assignInOrder [] []) _ _ _
 have rb₅ : Rd G.C (Y ++ Xc) s₅.heap db vb := rb.imp fun b o hb e => ⟨hb, t₅.grb.heap b o (fun q => hb (List.mem_append_right _ (c.xc b q))) (fun q => hb (List.mem_append_left _ q)) e⟩
 refine wpAny_bind (wpAny_holding (wpAny_assign_Name (store_ok c₅ (.inr h2) rb₅ fun s₆ t₆ c₆ => wpAny_pure ?_)))
 have t : Stp G Y s Y { s₂ with heap := h' } := Stp.gr (((g₁.trans g₂).trans g₃).trans g₄)
 exact ⟨Y, (t.trans c.cx.ti t₅).trans c.cx.ti t₆, rfl, c₆⟩
theorem def_sel {A : Around} {Xc Y : List Addr} {s : Shared} {env : Env} (c : StC G k A Xc Y s env (pNames 2) ρ) {cc P : Addr} {qual : Str} (TG : TabG G cc P (qual ++ ("select" : Str))) (hK : codeOf (pNames 2) = some (.ref cc, qual))
  {d : Stmt} {params : Arguments} {scope : Scope} {pre : List Stmt} {test : Expr} {px pr p1 p2 p3 p4 bpos pos : Pos} (IS : IsSel d params scope pre test px pr p1 p2 p3 p4 bpos pos) {E : Value → Shared → Prop} {Q : Flow → Shared → Prop}
  (hQ : ∀ s' f clos doc cv ctv, Stp G Y s Y s' → StC G k A Xc Y s' env (pNames 2) (stD ρ "select" (.opq f)) → f ∉ G.T → s'.heap.get? f = some (fnObj (fnX "select" (qual ++ ("select" : Str)) params (selFn "elem" "result" px pr pre test p1 p2 p3 p4 bpos) scope clos .none .none doc ((G.mg "__name__").getD .none) none cv ctv)) → s'.heap.CodeRec cv (qual ++ ("select" : Str)) →
   (∀ y, scope.names.lookup y = some .free → clos.lookup y = env.cells.lookup y) → Q .next s') : wpAny (model G.prog G.w) A (exec d env) Q E s := by
 rw [IS.eq]
 have k2 : (pNames 2).lookup ("select" : Str) = some .local := by decide
 have hcell : ∀ p ∈ scope.names, p.2 = .free → ∃ c, env.cells.lookup p.1 = some c := fun p hp hf => by
  have := List.all_eq_true.mp IS.free p hp
  rw [hf] at this
  have : (pNames 2).lookup p.1 = some .cell := by simpa using this
  exact c.celX _ this
 obtain ⟨cl, e, h1, h2⟩ := closure_ok env scope.names [] hcell
 have hclos : closureFor scope env = pure cl := by
  unfold closureFor
  exact (congrArg (fun t => t >>= fun r => (pure r : Sem (List (Str × Addr)))) e).trans (pure_bind _ _)
 obtain ⟨hcode, hqual⟩ := c.cxt.env.k.code _ hK
 have hkq : qualnameIn env "select" "select" = qual ++ ("select" : Str) := by
  unfold qualnameIn
  have : env.kindOf "select" = some .local := by unfold Env.kindOf; rw [c.cxt.env.k.names]; exact k2
  rw [this, if_neg (by decide), hqual]
 refine nestDef_K IS.d0 IS.k0 (IS.ann env) ?_
 rw [hkq]
 refine mk_def TG c.cx hclos hcode c.cxt.env.k.glob fun f s₁ cv ctv doc g nf nT hf hcv => ?_
 have c₁ := c.gr g
 refine store_loc c₁ k2 Rd.opq' fun s₂ t₂ sb c₂ => ?_
 have fl : f ≠ env.locals := fun q => by
  obtain ⟨o, ho⟩ := c.xok.live _ (List.mem_append_left _ c.loc)
  rw [← q, nf] at ho; cases ho
 refine hQ s₂ f cl doc cv ctv ((Stp.gr g).trans c.cx.ti t₂) c₂ nT (SameBut.up sb fl hf) ?_ fun y hy => h1 y ⟨(y, .free), mem_of_lookup hy, rfl, rfl⟩
 obtain ⟨a, oc, vs, tq, rfl, hoc, hd, hq⟩ := hcv
 refine ⟨a, oc, vs, tq, rfl, SameBut.up sb (fun q => ?_) hoc, hd, hq⟩
 subst q
 obtain ⟨m, W, ea, _⟩ := c₁.ex
 obtain ⟨o, es, ep, e1, e2, _⟩ := ea.ns
 rw [hoc] at e1; cases e1
 rw [hd] at e2; cases e2
end
end Mine
namespace Mine
open PySem PySem.Calls PyProof.Rows PySem.W
def NdAt (C L : Addr) (h : Heap) (v : Value) (t : Option Str) : Prop := ∃ a dx es n vt, v = .ref a ∧ a ≠ L ∧ dx ≠ L ∧ h.get? a = some (instObj C dx) ∧ h.get? dx = some (dictOf es n) ∧ getL "tag" es = some (some vt) ∧ IsTag vt t
def SelReady (G : Gd) (C : Addr) (h : Heap) (f : Addr) (keep : Option Str → Bool) : Prop := ∃ (qual : Str) (params : Arguments) (scope : Scope) (clos : List (Str × Addr)) (doc pm cv ctv : Value) (pre : List Stmt) (test : Expr) (px pr p1 p2 p3 p4 bpos pos : Pos) (d : Stmt) (T : (Nat → Option Str) → Nat → (Str → Option Value) → Prop),
 f ∉ G.T ∧ h.get? f = some (fnObj (fnX "select" qual params (selFn "elem" "result" px pr pre test p1 p2 p3 p4 bpos) scope clos .none .none doc pm none cv ctv)) ∧ h.CodeRec cv qual ∧ (∀ a, cv = .ref a → a ∉ G.T) ∧ IsSel d params scope pre test px pr p1 p2 p3 p4 bpos pos ∧
 ∀ (s' : Shared) (env : Env) (vs : List Value) (tags : Nat → Option Str), env.scope = scope → env.cells = clos → h.get? env.locals = none → G.hb.get? env.locals = none → (∀ b o, b ∉ G.T → h.get? b = some o → s'.heap.get? b = some o) → Cx G s'.heap →
  (∀ i v, vs.toArray[i]? = some v → NdAt C env.locals s'.heap v (tags i)) → (∀ i y, tags i = some y → 1 ≤ y.length ∧ y.length ≤ 1000) → SelBody G.prog G.w env s'.heap "elem" (fun i v => vs.toArray[i]? = some v) (fun i => keep (tags i)) pre test (T tags)
theorem SelReady.gr {G : Gd} {C : Addr} {s s' : Shared} {f : Addr} {keep : Option Str → Bool} (x : SelReady G C s.heap f keep) (ti : G.TI s.heap) (g : Gr G s s') : SelReady G C s'.heap f keep := by
 obtain ⟨qual, params, scope, clos, doc, pm, cv, ctv, pre, test, px, pr, p1, p2, p3, p4, bpos, pos, d, T, h1, h2, h3, h4, h5, h6⟩ := x
 refine ⟨qual, params, scope, clos, doc, pm, cv, ctv, pre, test, px, pr, p1, p2, p3, p4, bpos, pos, d, T, h1, g.heap _ _ h1 h2, ?_, h4, h5, fun s₂ env vs tags e1 e2 e3 e4 e5 e6 e7 e8 => h6 s₂ env vs tags e1 e2 ?_ e4 (fun b o hb e => e5 b o hb (g.heap b o hb e)) e6 e7 e8⟩
 ·obtain ⟨c, oc, vs, tq, rfl, hoc, r⟩ := h3
  exact ⟨c, oc, vs, tq, rfl, g.heap _ _ (h4 c rfl) hoc, r⟩
 ·cases q : s.heap.get? env.locals with
  | none => rfl
  | some o =>
   by_cases hT : env.locals ∈ G.T
   ·obtain ⟨us, e⟩ := G.tabs _ (g.ti ti) _ hT
    rw [e] at e3; cases e3
   ·rw [g.heap _ _ hT q] at e3; cases e3
section
variable {G : Gd} {k n : Nat} {cf : Cf} {K : Kn} {ρ : Rho} {A : Around} {Xc Y : List Addr} {s : Shared} {env : Env} {Kf : Frag} {C fI : Addr}
theorem cell_of (c : StC G k A Xc Y s env K ρ) {y : Str} {d : D} (hk : K.lookup y = some .cell) (hl : ρ.lookup y = some d) (hp : d.pure = true) : ∃ cc v, env.cells.lookup y = some cc ∧ s.heap.IsCell cc (some v) ∧ cc ∉ G.T ∧ Rd G.C (Y ++ Xc) s.heap d v := by
 obtain ⟨m, W, e, _⟩ := c.ex
 rcases e.vars y d hl with q | ⟨v, q, b⟩
 ·subst q; cases hp
 ·rcases q with ⟨q, _⟩ | ⟨_, cc, q2, q3⟩
  ·unfold Env.kindOf at q
   rw [e.k.names, hk] at q; cases q
  ·refine ⟨cc, v, q2, q3, (NT.cell q3).notTab c.cx.ti, ?_⟩
   cases d <;> first | exact b | cases hp
theorem cellV_of {h : Heap} {s' : Shared} {env' : Env} {scope : Scope} {y : Str} {cc : Addr} {v : Value} (e1 : env'.scope = scope) (hy : scope.names.lookup y = some .free) (hc : env'.cells.lookup y = some cc) (hcell : h.IsCell cc (some v)) (hT : cc ∉ G.T) (hL : h.get? env'.locals = none) (hk : ∀ b o, b ∉ G.T → h.get? b = some o → s'.heap.get? b = some o) : CellV env' s'.heap y v := by
 refine ⟨by unfold Env.kindOf; rw [e1]; exact hy, cc, hc, fun s₂ kp => ?_⟩
 have ne : cc ≠ env'.locals := fun q => by
  obtain ⟨o, ho, _⟩ := hcell
  rw [q, hL] at ho; cases ho
 exact IsCell.at' hcell fun o e => kp _ o ne (hk _ o hT e)
theorem sliceV_of {h : Heap} {s' : Shared} {L a : Addr} {pl pu : Option (Int × Tok)} (ha : h.get? a = some { cls := .type "slice", data := .fields #[partValue pl, partValue pu, .none] }) (hT : a ∉ G.T) (hL : h.get? L = none) (hk : ∀ b o, b ∉ G.T → h.get? b = some o → s'.heap.get? b = some o) : SliceV s'.heap L a (pl.map (·.1)) (pu.map (·.1)) := by
 refine ⟨pl, pu, rfl, rfl, fun s₂ kp => ⟨_, kp _ _ (fun q => ?_) (hk _ _ hT ha), rfl, rfl⟩⟩
 rw [q, hL] at ha; cases ha
theorem selCtx_of (X₀ : Kf.In G.hb) {h : Heap} {s' : Shared} {env' : Env} {scope : Scope} {vs : List Value} {tags : Nat → Option Str} {c1 c2 : Addr} (e1 : env'.scope = scope) (hk : scope.kind = .function) (hel : scope.names.lookup ("elem" : Str) = some .local)
  (hi : scope.names.lookup ("_isinstance" : Str) = some .free) (hst : scope.names.lookup ("_str" : Str) = some .free) (hc1 : env'.cells.lookup ("_isinstance" : Str) = some c1) (hc2 : env'.cells.lookup ("_str" : Str) = some c2)
  (i1 : h.IsCell c1 (some (.builtin "isinstance"))) (i2 : h.IsCell c2 (some (.type "str"))) (n1 : c1 ∉ G.T) (n2 : c2 ∉ G.T) (hL : h.get? env'.locals = none) (hbL : G.hb.get? env'.locals = none) (hkk : ∀ b o, b ∉ G.T → h.get? b = some o → s'.heap.get? b = some o) (cx : Cx G s'.heap)
  (hn : ∀ i v, vs.toArray[i]? = some v → NdAt C env'.locals s'.heap v (tags i)) : SelCtx G.prog G.w env' s'.heap Kf C vs tags where
 kind := by rw [e1]; exact hk
 elem := by unfold Env.kindOf; rw [e1]; exact hel
 kf := fun s₂ kp a o e => by
  have h1 := X₀ a o e
  exact kp _ _ (fun q => by rw [q, hbL] at h1; cases h1) (cx.hb _ _ h1)
 isin := cellV_of e1 hi hc1 i1 n1 hL hkk
 str := cellV_of e1 hst hc2 i2 n2 hL hkk
 node := fun s₂ kp i v hv => by
  obtain ⟨a, dx, es, n, vt, rfl, h1, h2, h3, h4, h5, h6⟩ := hn i v hv
  exact ⟨a, dx, es, n, vt, rfl, kp _ _ h1 h3, kp _ _ h2 h4, h5, h6⟩
end
end Mine
namespace Mine
open PySem PySem.Calls PyProof.Rows PySem.W
abbrev rhoP (t se i st nn ns no sf : D) : Rho := [(("tag" : Str), t), (("select" : Str), se), (("_isinstance" : Str), i), (("_str" : Str), st), (("no_ns" : Str), nn), (("ns" : Str), ns), (("ns_only" : Str), no), (("suffix" : Str), sf)]
structure PrepCf (G : Gd) (k : Nat) (cf : Cf) (Kf : Frag) (C fI : Addr) (P : Addr) : Prop where
 ok : CfOk G cf k
 X₀ : Kf.In G.hb
 NC : NodeCls Kf C fI
 TG : TabG G 37 P (("_prepare_tag.<locals>." : Str) ++ ("select" : Str))
 isin : cf.Γ "isinstance" = some (.blt "isinstance")
 str : cf.Γ "str" = some (.typ "str")
 slice : cf.Γ "slice" = some (.typ "slice")
 len : cf.Γ "len" = some (.blt "len")
section
variable {G : Gd} {k n : Nat} {cf : Cf} {A : Around} {Xc Y Y₀ : List Addr} {s s₀ : Shared} {env : Env} {Kf : Frag} {C fI P : Addr} {ρ : Rho} {keep : Option Str → Bool}
def PrepPost (G : Gd) (C : Addr) (Y₀ : List Addr) (s₀ : Shared) (keep : Option Str → Bool) (fl : Flow) (s' : Shared) : Prop := ∃ f Y', fl = .ret (.ref f) ∧ Stp G Y₀ s₀ Y' s' ∧ SelReady G C s'.heap f keep
theorem prep_end (ok : CfOk G cf k) {f : Addr} (c : StC G k A Xc Y s env (pNames 2) ρ) (hsel : ρ.lookup ("select" : Str) = some (.opq f)) (R : SelReady G C s.heap f keep) (ti : G.TI s₀.heap) (t : Stp G Y₀ s₀ Y s) {r1 r2 : Pos} {E : Value → Shared → Prop} :
  wpAny (model G.prog G.w) A (execs [.Return (some (.Name "select" r1)) r2] env) (PrepPost G C Y₀ s₀ keep) E s := by
 refine execs_ret (((sound ok 5).ev _ _ _ _ (zA (by decide) hsel rfl) _ _ s env c.cxt).post fun v s₁ g r => ?_)
 have := r.opq; subst this
 exact ⟨f, Y, rfl, t.trans ti (Stp.gr g), R.gr c.cx.ti g⟩
theorem prep_start (PC : PrepCf G k cf Kf C fI P) {p : Str} (c : StC G k A Xc Y s env (pNames 2) (rho0 (pNames 2) ["tag"] [.str p])) {a1 a2 a3 a4 a5 a6 a7 : Pos} {ss : List Stmt} {E : Value → Shared → Prop} {Q : Flow → Shared → Prop}
  (hq : ∀ Y₁ s₁, Stp G Y s Y₁ s₁ → StC G k A Xc Y₁ s₁ env (pNames 2) (rhoP (.str p) .unb (.blt "isinstance") (.typ "str") .unb .unb .unb .unb) → wpAny (model G.prog G.w) A (execs ss env) Q E s₁) :
  wpAny (model G.prog G.w) A (execs (.Assign [.Tuple [.Name "_isinstance" a1, .Name "_str" a2] 0 a3] (.Tuple [.Name "isinstance" a4, .Name "str" a5] 0 a6) a7 :: ss) env) Q E s := by
 have e0 : (rho0 (pNames 2) ["tag"] [.str p] : Rho) = rhoP (.str p) .unb .unb .unb .unb .unb .unb .unb := by rfl
 rw [e0] at c
 refine ExS.andThen (x_cells (n := 5) PC.ok (by decide) (by decide) (zB (by decide) rfl (by decide) PC.isin) (zB (by decide) rfl (by decide) PC.str) rfl (fun _ => rfl)) c fun Y₁ s₁ t c₁ => ?_
 exact hq Y₁ s₁ t c₁
theorem two_cells {i : D} (c : StC G k A Xc Y s env (pNames 2) ρ) (h1 : ρ.lookup ("_isinstance" : Str) = some (.blt "isinstance")) (h2 : ρ.lookup ("_str" : Str) = some (.typ "str")) :
  ∃ c1 c2, env.cells.lookup ("_isinstance" : Str) = some c1 ∧ env.cells.lookup ("_str" : Str) = some c2 ∧ s.heap.IsCell c1 (some (.builtin "isinstance")) ∧ s.heap.IsCell c2 (some (.type "str")) ∧ c1 ∉ G.T ∧ c2 ∉ G.T := by
 obtain ⟨c1, v1, a1, b1, d1, r1⟩ := cell_of c (by decide) h1 rfl
 obtain ⟨c2, v2, a2, b2, d2, r2⟩ := cell_of c (by decide) h2 rfl
 have e1 := (Rd.rv r1).blt
 have e2 := (Rd.rv r2).typ
 subst e1 e2
 exact ⟨c1, c2, a1, a2, b1, b2, d1, d2⟩
theorem tag_eq (p : Str) {x : Str} {b : Bool} {a b' c' : Pos} (hl : ρ.lookup ("tag" : Str) = some (.str p)) (h : (p == x) = b) : tsD cf 8 (pNames 2) ρ (eqStr (.Name "tag" a) x b' c') = some b := by
 rw [← h]; exact tsD_cmp (zA (by decide) hl rfl) evD_str rfl
theorem ifT {t : Expr} {b o : List Stmt} {p : Pos} {ss : List Stmt} {E : Value → Shared → Prop} {Q : Flow → Shared → Prop} (ok : CfOk G cf k) (ht : tsD cf n (pNames 2) ρ t = some true) (c : StC G k A Xc Y s env (pNames 2) ρ) (ti : G.TI s₀.heap) (tk : Stp G Y₀ s₀ Y s)
  (h : ∀ s₁, Stp G Y₀ s₀ Y s₁ → StC G k A Xc Y s₁ env (pNames 2) ρ → wpAny (model G.prog G.w) A (execs b env) (fun f s' => match f with | .next => wpAny (model G.prog G.w) A (execs ss env) Q E s' | f => Q f s') E s₁) :
  wpAny (model G.prog G.w) A (execs (.If t b o p :: ss) env) Q E s := by
 refine wpAny_execs_cons (wpAny_If (((sound ok n).ts _ _ _ _ ht).post c.cxt fun s₁ g => ?_))
 simp only [if_true]
 refine wpAny_mono (h s₁ (tk.trans ti (Stp.gr g)) (c.gr g)) (fun f s' hf => ?_) fun _ _ e => e
 cases f <;> exact hf
theorem ifF {t : Expr} {b o : List Stmt} {p : Pos} {ss : List Stmt} {E : Value → Shared → Prop} {Q : Flow → Shared → Prop} (ok : CfOk G cf k) (ht : tsD cf n (pNames 2) ρ t = some false) (c : StC G k A Xc Y s env (pNames 2) ρ) (ti : G.TI s₀.heap) (tk : Stp G Y₀ s₀ Y s)
  (h : ∀ s₁, Stp G Y₀ s₀ Y s₁ → StC G k A Xc Y s₁ env (pNames 2) ρ → wpAny (model G.prog G.w) A (execs o env) (fun f s' => match f with | .next => wpAny (model G.prog G.w) A (execs ss env) Q E s' | f => Q f s') E s₁) :
  wpAny (model G.prog G.w) A (execs (.If t b o p :: ss) env) Q E s := by
 refine wpAny_execs_cons (wpAny_If (((sound ok n).ts _ _ _ _ ht).post c.cxt fun s₁ g => ?_))
 simp only [Bool.false_eq_true, if_false]
 refine wpAny_mono (h s₁ (tk.trans ti (Stp.gr g)) (c.gr g)) (fun f s' hf => ?_) fun _ _ e => e
 cases f <;> exact hf
theorem K37 : codeOf (pNames 2) = some ((Value.ref 37, ("_prepare_tag.<locals>." : Str)) : Value × Str) := by decide
set_option maxHeartbeats 1000000 in
theorem prep_A (PC : PrepCf G k cf Kf C fI P) (c : StC G k A Xc Y s env (pNames 2) (rho0 (pNames 2) ["tag"] [.str "{*}*"])) {E : Value → Shared → Prop} :
  wpAny (model G.prog G.w) A (execs (pBody 2) env) (PrepPost G C Y s (·.isSome)) E s := by
 obtain ⟨a1, a2, a3, a4, a5, a6, a7, r1, r2, u1, u2, u3, u4, t1, t2, t3, t4, dA, dB, dC, dD, c1, c2, c3, d1, d2, els, eb, ⟨_, _, _, rfl⟩, ⟨_, _, _, rfl⟩, ⟨_, _, _, _, _, _, rfl⟩, ⟨_, _, _, _, _, _, _, rfl⟩, ⟨_, _, _, _, _, _, rfl⟩, ⟨_, _, _, _, _, _, _, _, _, rfl⟩, ⟨_, _, _, _, _, _, rfl⟩, ⟨_, _, _, _, _, _, _, rfl⟩, ⟨_, _, _, _, _, _, _, _, rfl⟩, hA, hB, hC, hD⟩ := b2
 rw [eb]
 refine prep_start PC c fun Y₁ s₁ tk₁ cc₁ => ?_
 refine ifT PC.ok (tag_eq "{*}*" rfl (by decide)) cc₁ c.cx.ti tk₁ fun s₂ tk₂ cc₂ => ?_
 obtain ⟨params, scope, px, pr, p1, p2, p3, p4, bpos, pos, q1, q2, q3, q4, q5, IS⟩ := hA
 refine wpAny_execs_cons (def_sel cc₂ PC.TG K37 IS fun s₃ f clos doc cv ctv tk₃ cc₃ nT hf hcv hclos => wpAny_execs_nil ?_)
 obtain ⟨k1, k2, l1, l2, i1, i2, n1, n2⟩ := two_cells (i := .none) cc₃ rfl rfl
 refine prep_end PC.ok cc₃ rfl ⟨_, params, scope, clos, doc, _, cv, ctv, _, _, px, pr, p1, p2, p3, p4, bpos, pos, dA, (fun _ _ _ => True), nT, hf, hcv, fun a e => PC.TG.notT _ _ _ cc₃.cx.ti (e ▸ hcv), IS, fun s' env' vs tags e1 e2 hL hbL hkk cx hn hw => ?_⟩ c.cx.ti (tk₂.trans c.cx.ti tk₃)
 have lk : ∀ y, scope.names.lookup y = some .free → env'.cells.lookup y = env.cells.lookup y := fun y hy => by rw [e2]; exact hclos y hy
 have SC := selCtx_of PC.X₀ e1 IS.kind IS.elem IS.isin IS.str ((lk _ IS.isin).trans l1) ((lk _ IS.str).trans l2) i1 i2 n1 n2 hL hbL hkk cx hn
 exact selA SC PC.NC
end
end Mine
namespace Mine
open PySem PySem.Calls PyProof.Rows PySem.W
def PartS (cf : Cf) (n : Nat) (K : Kn) (ρ : Rho) (o : Option Expr) (l : Option Int) : Prop := (o = none ∧ l = none) ∨ ∃ e i, o = some e ∧ l = some i ∧ evD cf n K ρ e = some (.int i)
theorem PartS.no {cf : Cf} {n : Nat} {K : Kn} {ρ : Rho} : PartS cf n K ρ none none := .inl ⟨rfl, rfl⟩
theorem PartS.yes {cf : Cf} {n : Nat} {K : Kn} {ρ : Rho} {e : Expr} {i : Int} (h : evD cf n K ρ e = some (.int i)) : PartS cf n K ρ (some e) (some i) := .inr ⟨e, i, rfl, rfl, h⟩
theorem evD_slice {cf : Cf} {n : Nat} {K : Kn} {ρ : Rho} {v : Expr} {lo hi : Option Expr} {p q : Pos} {x : Str} {l h : Option Int} (hv : evD cf n K ρ v = some (.str x)) (hl : PartS cf n K ρ lo l) (hh : PartS cf n K ρ hi h) (hb : x.length ≤ bigD) :
  evD cf (n + 1) K ρ (.Subscript v (.Slice lo hi none p) q) = some (.str (Txt.slice x l h)) := by
 have e : sliceD (.str x) l h = some (.str (Txt.slice x l h)) := by unfold sliceD; dsimp only; rw [Nat.ble_eq_true_of_le hb]
 rcases hl with ⟨rfl, rfl⟩ | ⟨el, il, rfl, rfl, hl⟩ <;> rcases hh with ⟨rfl, rfl⟩ | ⟨eh, ih, rfl, rfl, hh⟩
 ·unfold evD; dsimp only; rw [hv]; exact e
 ·unfold evD; dsimp only; rw [hv]; dsimp only; rw [hh]; exact e
 ·unfold evD; dsimp only; rw [hv]; dsimp only; rw [hl]; exact e
 ·unfold evD; dsimp only; rw [hv]; dsimp only; rw [hl]; dsimp only; rw [hh]; exact e
theorem evD_int {cf : Cf} {n : Nat} {K : Kn} {ρ : Rho} {i : Int} {k : Nat} {p : Pos} : evD cf (n + 1) K ρ (.Constant (.int i) k p) = some (.int i) := rfl
theorem evD_neg {cf : Cf} {n : Nat} {K : Kn} {ρ : Rho} {e : Expr} {p : Pos} {i : Int} (h : evD cf n K ρ e = some (.int i)) : evD cf (n + 1) K ρ (.UnaryOp .USub e p) = some (.int (-i)) := by
 unfold evD; dsimp only; rw [h]; rfl
theorem callD_lenS {cf : Cf} {x : Str} (h : x.length ≤ bigD) : callD cf (.blt "len") [.str x] = some (.int x.length) := by
 show lenD (.str x) = _
 unfold lenD; dsimp only
 rw [Nat.ble_eq_true_of_le h]
section
variable {G : Gd} {k n : Nat} {cf : Cf} {A : Around} {Xc Y Y₀ : List Addr} {s s₀ : Shared} {env : Env} {Kf : Frag} {C fI P : Addr} {ρ : Rho} {keep : Option Str → Bool}
set_option maxHeartbeats 1000000 in
theorem prep_B (PC : PrepCf G k cf Kf C fI P) (c : StC G k A Xc Y s env (pNames 2) (rho0 (pNames 2) ["tag"] [.str "{}*"])) {E : Value → Shared → Prop} :
  wpAny (model G.prog G.w) A (execs (pBody 2) env) (PrepPost G C Y s keepB) E s := by
 obtain ⟨a1, a2, a3, a4, a5, a6, a7, r1, r2, u1, u2, u3, u4, t1, t2, t3, t4, dA, dB, dC, dD, c1, c2, c3, d1, d2, els, eb, ⟨_, _, _, rfl⟩, ⟨_, _, _, rfl⟩, ⟨_, _, _, _, _, _, rfl⟩, ⟨_, _, _, _, _, _, _, rfl⟩, ⟨_, _, _, _, _, _, rfl⟩, ⟨_, _, _, _, _, _, _, _, _, rfl⟩, ⟨_, _, _, _, _, _, rfl⟩, ⟨_, _, _, _, _, _, _, rfl⟩, ⟨_, _, _, _, _, _, _, _, rfl⟩, hA, hB, hC, hD⟩ := b2
 rw [eb]
 refine prep_start PC c fun Y₁ s₁ tk₁ cc₁ => ?_
 refine ifF PC.ok (tag_eq "{}*" rfl (by decide)) cc₁ c.cx.ti tk₁ fun s₂ tk₂ cc₂ => ?_
 refine ifT PC.ok (tag_eq "{}*" rfl (by decide)) cc₂ c.cx.ti tk₂ fun s₂ tk₂ cc₂ => ?_
 obtain ⟨params, scope, px, pr, p1, p2, p3, p4, bpos, pos, e1, e2, e3, e4, q1, q2, q3, q4, q5, q6, q7, q8, q9, q10, IS, hel⟩ := hB
 refine wpAny_execs_cons (def_sel cc₂ PC.TG K37 IS fun s₃ f clos doc cv ctv tk₃ cc₃ nT hf hcv hclos => wpAny_execs_nil (wpAny_execs_nil ?_))
 obtain ⟨k1, k2, l1, l2, i1, i2, n1, n2⟩ := two_cells (i := .none) cc₃ rfl rfl
 refine prep_end PC.ok cc₃ rfl ⟨_, params, scope, clos, doc, _, cv, ctv, _, _, px, pr, p1, p2, p3, p4, bpos, pos, dB, elT, nT, hf, hcv, fun a e => PC.TG.notT _ _ _ cc₃.cx.ti (e ▸ hcv), IS, fun s' env' vs tags e1 e2 hL hbL hkk cx hn hw => ?_⟩ c.cx.ti (tk₂.trans c.cx.ti tk₃)
 have lk : ∀ y, scope.names.lookup y = some .free → env'.cells.lookup y = env.cells.lookup y := fun y hy => by rw [e2]; exact hclos y hy
 have SC := selCtx_of PC.X₀ e1 IS.kind IS.elem IS.isin IS.str ((lk _ IS.isin).trans l1) ((lk _ IS.str).trans l2) i1 i2 n1 n2 hL hbL hkk cx hn
 exact selB SC PC.NC (by unfold Env.kindOf; rw [e1]; exact hel) hw
theorem keepS {S : Addr} {o : Obj} {Y' : List Addr} {s' : Shared} (t : Stp G Y s Y' s') (hS : s.heap.get? S = some o) (hT : S ∉ G.T) (hY : S ∉ Y) : s'.heap.get? S = some o ∧ S ∉ Y' :=
 ⟨t.grb.heap S o hT hY hS, fun q => (t.new S q).elim hY fun z => by rw [hS] at z; cases z⟩
theorem asg_slice (PC : PrepCf G k cf Kf C fI P) (c : StC G k A Xc Y s env (pNames 2) ρ) {y : Str} (hk : (pNames 2).lookup y = some .cell) (hl : ρ.lookup ("slice" : Str) = none) {e1 e2 : Expr} {d1 d2 : D} {lo hi : Option Int} (ha : evL cf 8 (pNames 2) ρ [e1, e2] = some [d1, d2])
  (h1 : (d1 = .none ∧ lo = none) ∨ ∃ i, d1 = .int i ∧ lo = some i) (h2 : (d2 = .none ∧ hi = none) ∨ ∃ i, d2 = .int i ∧ hi = some i) {a b h i : Pos} {ss : List Stmt} {E : Value → Shared → Prop} {Q : Flow → Shared → Prop}
  (hq : ∀ S s₁ pl pu, pl.map (·.1) = lo → pu.map (·.1) = hi → Stp G Y s Y s₁ → StC G k A Xc Y s₁ env (pNames 2) (stD ρ y (.opq S)) → s₁.heap.get? S = some { cls := .type "slice", data := .fields #[partValue pl, partValue pu, .none] } → S ∉ G.T → S ∉ Y → wpAny (model G.prog G.w) A (execs ss env) Q E s₁) :
  wpAny (model G.prog G.w) A (execs (.Assign [.Name y a] (.Call (.Name "slice" b) [e1, e2] [] h) i :: ss) env) Q E s := by
 refine wpAny_execs_cons (wpAny_Assign_Name (callN_typ PC.ok c.cxt (zB (by decide) hl (by decide) PC.slice) ha fun s₁ vs g₁ r => ?_) rfl)
 obtain - | ⟨r1, r⟩ := r
 obtain - | ⟨r2, r⟩ := r
 obtain - | _ := r
 have p1 : ∀ {d : D} {v : Value} {o : Option Int}, Rv G.C (Y ++ Xc) s₁.heap d v → ((d = .none ∧ o = none) ∨ ∃ i, d = .int i ∧ o = some i) → ∃ pl : Option (Int × Tok), pl.map (·.1) = o ∧ v = partValue pl := by
  rintro d v o r (⟨rfl, rfl⟩ | ⟨i, rfl, rfl⟩)
  ·exact ⟨none, rfl, r.none⟩
  ·obtain ⟨t, rfl⟩ := r.int; exact ⟨some (i, t), rfl, rfl⟩
 obtain ⟨pl, f1, rfl⟩ := p1 r1 h1
 obtain ⟨pu, f2, rfl⟩ := p1 r2 h2
 have c₁ := c.gr g₁
 refine call_slice2 ?_
 have g₂ : Gr G s₁ { s₁ with heap := s₁.heap.push { cls := .type "slice", data := .fields #[partValue pl, partValue pu, .none] } } := Gr.push'
 have c₂ := c₁.gr g₂
 have nf : s₁.heap.get? s₁.heap.objs.size = none := zF (Nat.le_refl _)
 have hT : s₁.heap.objs.size ∉ G.T := fun hT => by
  obtain ⟨vs, e⟩ := G.tabs _ c₁.cx.ti _ hT
  rw [nf] at e; cases e
 have hY : s₁.heap.objs.size ∉ Y := fun hY => by
  obtain ⟨o, e⟩ := c₁.xok.live _ (List.mem_append_left _ hY)
  rw [nf] at e; cases e
 refine store_ok c₂ (.inr hk) Rd.opq' fun s₃ t₃ c₃ => ?_
 obtain ⟨w1, w2⟩ := keepS t₃ (Heap.get?_push_size _ rfl) hT hY
 exact hq _ s₃ pl pu f1 f2 ((Stp.gr (g₁.trans g₂)).trans c.cx.ti t₃) c₃ w1 hT hY
set_option maxHeartbeats 1000000 in
theorem prep_C (PC : PrepCf G k cf Kf C fI P) {p : Str} (hp1 : (p == ("{*}*" : Str)) = false) (hp2 : (p == ("{}*" : Str)) = false) (hp3 : (Txt.slice p none (some 3) == ("{*}" : Str)) = true) (hlen : p.length ≤ 1000)
  (c : StC G k A Xc Y s env (pNames 2) (rho0 (pNames 2) ["tag"] [.str p])) {E : Value → Shared → Prop} :
  wpAny (model G.prog G.w) A (execs (pBody 2) env) (PrepPost G C Y s (keepC (Txt.slice p (some 3) none) (Txt.slice p (some 2) none))) E s := by
 obtain ⟨a1, a2, a3, a4, a5, a6, a7, r1, r2, u1, u2, u3, u4, t1, t2, t3, t4, dA, dB, dC, dD, c1, c2, c3, d1, d2, els, eb, ⟨_, _, _, rfl⟩, ⟨_, _, _, rfl⟩, ⟨_, _, _, _, _, _, rfl⟩, ⟨_, _, _, _, _, _, _, rfl⟩, ⟨_, _, _, _, _, _, rfl⟩, ⟨_, _, _, _, _, _, _, _, _, rfl⟩, ⟨_, _, _, _, _, _, rfl⟩, ⟨_, _, _, _, _, _, _, rfl⟩, ⟨_, _, _, _, _, _, _, _, rfl⟩, hA, hB, hC, hD⟩ := b2
 rw [eb]
 have hb : p.length ≤ bigD := Nat.le_trans hlen (by decide)
 have hb2 : (Txt.slice p (some 2) none).length ≤ bigD := Nat.le_trans (Txt.slice_le p _ _) hb
 refine prep_start PC c fun Y₁ s₁ tk₁ cc₁ => ?_
 refine ifF PC.ok (tag_eq p rfl hp1) cc₁ c.cx.ti tk₁ fun s₂ tk₂ cc₂ => ?_
 refine ifF PC.ok (tag_eq p rfl hp2) cc₂ c.cx.ti tk₂ fun s₂ tk₂ cc₂ => ?_
 refine ifT PC.ok (n := 8) (by rw [← hp3]; exact tsD_cmp (evD_slice (zA (by decide) rfl rfl) .no (.yes evD_int) hb) evD_str rfl) cc₂ c.cx.ti tk₂ fun s₂ tk₂ cc₂ => ?_
 obtain ⟨params, scope, px, pr, p1, p2, p3, p4, bpos, pos, e1, e2, e3, e4, q0, q00, q000, q1, q2, q3, q4, q5, q6, q7, q8, q9, q10, q11, IS, hel, htg, hnn, hsf⟩ := hC
 refine ExS.andThen (x_assign (n := 8) PC.ok (by decide) (evD_slice (zA (by decide) rfl rfl) (.yes evD_int) .no hb) rfl (fun _ _ => rfl)) cc₂ fun Y₃ s₃ tk₃ cc₃ => ?_
 have es1 : stD (rhoP (.str p) .unb (.blt "isinstance") (.typ "str") .unb .unb .unb .unb) "suffix" (.str (Txt.slice p (some 2) none)) = rhoP (.str p) .unb (.blt "isinstance") (.typ "str") .unb .unb .unb (.str (Txt.slice p (some 2) none)) := rfl
 rw [es1] at cc₃
 refine asg_slice PC cc₃ (by decide) rfl (d1 := .int (-((Txt.slice p (some 2) none).length : Int))) (d2 := .none) (lo := some (-((Txt.slice p (some 2) none).length : Int))) (hi := none)
  (zC (evD_neg (zE rfl (zB (by decide) rfl (by decide) PC.len) (zC (zA (by decide) rfl rfl) zD) rfl (callD_lenS hb2))) (zC evD_none zD)) (.inr ⟨_, rfl, rfl⟩) (.inl ⟨rfl, rfl⟩) fun S s₄ pl pu f1 f2 tk₄ cc₄ hS hST hSY => ?_
 have es2 : stD (rhoP (.str p) .unb (.blt "isinstance") (.typ "str") .unb .unb .unb (.str (Txt.slice p (some 2) none))) "no_ns" (.opq S) = rhoP (.str p) .unb (.blt "isinstance") (.typ "str") (.opq S) .unb .unb (.str (Txt.slice p (some 2) none)) := rfl
 rw [es2] at cc₄
 refine ExS.andThen (x_assign (n := 8) PC.ok (by decide) (evD_slice (zA (by decide) rfl rfl) (.yes evD_int) .no hb) rfl (fun _ _ => rfl)) cc₄ fun Y₅ s₅ tk₅ cc₅ => ?_
 have es3 : stD (rhoP (.str p) .unb (.blt "isinstance") (.typ "str") (.opq S) .unb .unb (.str (Txt.slice p (some 2) none))) "tag" (.str (Txt.slice p (some 3) none)) = rhoP (.str (Txt.slice p (some 3) none)) .unb (.blt "isinstance") (.typ "str") (.opq S) .unb .unb (.str (Txt.slice p (some 2) none)) := rfl
 rw [es3] at cc₅
 obtain ⟨hS5, hY5⟩ := keepS tk₅ hS hST hSY
 have tkA := ((tk₂.trans c.cx.ti tk₃).trans c.cx.ti tk₄).trans c.cx.ti tk₅
 refine wpAny_execs_cons (def_sel cc₅ PC.TG K37 IS fun s₆ f clos doc cv ctv tk₆ cc₆ nT hf hcv hclos => wpAny_execs_nil (wpAny_execs_nil (wpAny_execs_nil ?_)))
 obtain ⟨hS6, hY6⟩ := keepS tk₆ hS5 hST hY5
 obtain ⟨k1, k2, l1, l2, i1, i2, n1, n2⟩ := two_cells (i := .none) cc₆ rfl rfl
 obtain ⟨g1, v1, b1, m1, o1, w1⟩ := cell_of (y := "tag") cc₆ (by decide) rfl rfl
 obtain ⟨g2, v2, b2, m2, o2, w2⟩ := cell_of (y := "suffix") cc₆ (by decide) rfl rfl
 obtain ⟨g3, v3, b3, m3, o3, w3⟩ := cell_of (y := "no_ns") cc₆ (by decide) rfl rfl
 obtain ⟨y1, rfl⟩ := (Rd.rv w1).str
 obtain ⟨y2, rfl⟩ := (Rd.rv w2).str
 have y3 := (Rd.rv w3).opq
 subst y3
 refine prep_end PC.ok cc₆ rfl ⟨_, params, scope, clos, doc, _, cv, ctv, _, _, px, pr, p1, p2, p3, p4, bpos, pos, dC, elT, nT, hf, hcv, fun a e => PC.TG.notT _ _ _ cc₆.cx.ti (e ▸ hcv), IS, fun s' env' vs tags e1 e2 hL hbL hkk cx hn hw => ?_⟩ c.cx.ti (tkA.trans c.cx.ti tk₆)
 have lk : ∀ y, scope.names.lookup y = some .free → env'.cells.lookup y = env.cells.lookup y := fun y hy => by rw [e2]; exact hclos y hy
 have SC := selCtx_of PC.X₀ e1 IS.kind IS.elem IS.isin IS.str ((lk _ IS.isin).trans l1) ((lk _ IS.str).trans l2) i1 i2 n1 n2 hL hbL hkk cx hn
 have SV := sliceV_of (G := G) (s' := s') (L := env'.locals) hS6 hST hL hkk
 rw [f1, f2] at SV
 exact selC SC PC.NC (by unfold Env.kindOf; rw [e1]; exact hel) hw (cellV_of e1 htg ((lk _ htg).trans b1) m1 o1 hL hkk) (cellV_of e1 hsf ((lk _ hsf).trans b2) m2 o2 hL hkk) (cellV_of e1 hnn ((lk _ hnn).trans b3) m3 o3 hL hkk) SV
end
end Mine
namespace Mine
open PySem PySem.Calls PyProof.Rows PySem.W
section
variable {G : Gd} {k n : Nat} {cf : Cf} {A : Around} {Xc Y Y₀ : List Addr} {s s₀ : Shared} {env : Env} {Kf : Frag} {C fI P : Addr} {ρ : Rho} {keep : Option Str → Bool}
set_option maxHeartbeats 1000000 in
theorem prep_D (PC : PrepCf G k cf Kf C fI P) {p : Str} (hp1 : (p == ("{*}*" : Str)) = false) (hp2 : (p == ("{}*" : Str)) = false) (hp3 : (Txt.slice p none (some 3) == ("{*}" : Str)) = false) (hp4 : (Txt.slice p (some (-2)) none == ("}*" : Str)) = true) (hlen : p.length ≤ 1000)
  (c : StC G k A Xc Y s env (pNames 2) (rho0 (pNames 2) ["tag"] [.str p])) {E : Value → Shared → Prop} :
  wpAny (model G.prog G.w) A (execs (pBody 2) env) (PrepPost G C Y s (keepD (Txt.slice p none (some (-1))))) E s := by
 obtain ⟨a1, a2, a3, a4, a5, a6, a7, r1, r2, u1, u2, u3, u4, t1, t2, t3, t4, dA, dB, dC, dD, c1, c2, c3, d1, d2, els, eb, ⟨_, _, _, rfl⟩, ⟨_, _, _, rfl⟩, ⟨_, _, _, _, _, _, rfl⟩, ⟨_, _, _, _, _, _, _, rfl⟩, ⟨_, _, _, _, _, _, rfl⟩, ⟨_, _, _, _, _, _, _, _, _, rfl⟩, ⟨_, _, _, _, _, _, rfl⟩, ⟨_, _, _, _, _, _, _, rfl⟩, ⟨_, _, _, _, _, _, _, _, rfl⟩, hA, hB, hC, hD⟩ := b2
 rw [eb]
 have hb : p.length ≤ bigD := Nat.le_trans hlen (by decide)
 have hb2 : (Txt.slice p none (some (-1))).length ≤ bigD := Nat.le_trans (Txt.slice_le p _ _) hb
 refine prep_start PC c fun Y₁ s₁ tk₁ cc₁ => ?_
 refine ifF PC.ok (tag_eq p rfl hp1) cc₁ c.cx.ti tk₁ fun s₂ tk₂ cc₂ => ?_
 refine ifF PC.ok (tag_eq p rfl hp2) cc₂ c.cx.ti tk₂ fun s₂ tk₂ cc₂ => ?_
 refine ifF PC.ok (n := 8) (by rw [← hp3]; exact tsD_cmp (evD_slice (zA (by decide) rfl rfl) .no (.yes evD_int) hb) evD_str rfl) cc₂ c.cx.ti tk₂ fun s₂ tk₂ cc₂ => ?_
 refine ifT PC.ok (n := 8) (by rw [← hp4]; exact tsD_cmp (evD_slice (zA (by decide) rfl rfl) (.yes (evD_neg evD_int)) .no hb) evD_str rfl) cc₂ c.cx.ti tk₂ fun s₂ tk₂ cc₂ => ?_
 obtain ⟨params, scope, px, pr, p1, p2, p3, p4, bpos, pos, e1, e2, e3, e4, q1, q2, q3, q4, q5, q6, q7, q8, q9, q10, IS, hel, hns, hno⟩ := hD
 refine ExS.andThen (x_assign (n := 8) PC.ok (by decide) (evD_slice (zA (by decide) rfl rfl) .no (.yes (evD_neg evD_int)) hb) rfl (fun _ _ => rfl)) cc₂ fun Y₃ s₃ tk₃ cc₃ => ?_
 have es1 : stD (rhoP (.str p) .unb (.blt "isinstance") (.typ "str") .unb .unb .unb .unb) "ns" (.str (Txt.slice p none (some (-1)))) = rhoP (.str p) .unb (.blt "isinstance") (.typ "str") .unb (.str (Txt.slice p none (some (-1)))) .unb .unb := rfl
 rw [es1] at cc₃
 refine asg_slice PC cc₃ (by decide) rfl (d1 := .none) (d2 := .int ((Txt.slice p none (some (-1))).length : Int)) (lo := none) (hi := some ((Txt.slice p none (some (-1))).length : Int))
  (zC evD_none (zC (zE rfl (zB (by decide) rfl (by decide) PC.len) (zC (zA (by decide) rfl rfl) zD) rfl (callD_lenS hb2)) zD)) (.inl ⟨rfl, rfl⟩) (.inr ⟨_, rfl, rfl⟩) fun S s₄ pl pu f1 f2 tk₄ cc₄ hS hST hSY => ?_
 have es2 : stD (rhoP (.str p) .unb (.blt "isinstance") (.typ "str") .unb (.str (Txt.slice p none (some (-1)))) .unb .unb) "ns_only" (.opq S) = rhoP (.str p) .unb (.blt "isinstance") (.typ "str") .unb (.str (Txt.slice p none (some (-1)))) (.opq S) .unb := rfl
 rw [es2] at cc₄
 have tkA := (tk₂.trans c.cx.ti tk₃).trans c.cx.ti tk₄
 refine wpAny_execs_cons (def_sel cc₄ PC.TG K37 IS fun s₆ f clos doc cv ctv tk₆ cc₆ nT hf hcv hclos => wpAny_execs_nil (wpAny_execs_nil (wpAny_execs_nil (wpAny_execs_nil ?_))))
 obtain ⟨hS6, hY6⟩ := keepS tk₆ hS hST hSY
 obtain ⟨k1, k2, l1, l2, i1, i2, n1, n2⟩ := two_cells (i := .none) cc₆ rfl rfl
 obtain ⟨g1, v1, b1, m1, o1, w1⟩ := cell_of (y := "ns") cc₆ (by decide) rfl rfl
 obtain ⟨g3, v3, b3, m3, o3, w3⟩ := cell_of (y := "ns_only") cc₆ (by decide) rfl rfl
 obtain ⟨y1, rfl⟩ := (Rd.rv w1).str
 have y3 := (Rd.rv w3).opq
 subst y3
 refine prep_end PC.ok cc₆ rfl ⟨_, params, scope, clos, doc, _, cv, ctv, _, _, px, pr, p1, p2, p3, p4, bpos, pos, dD, elT, nT, hf, hcv, fun a e => PC.TG.notT _ _ _ cc₆.cx.ti (e ▸ hcv), IS, fun s' env' vs tags e1 e2 hL hbL hkk cx hn hw => ?_⟩ c.cx.ti (tkA.trans c.cx.ti tk₆)
 have lk : ∀ y, scope.names.lookup y = some .free → env'.cells.lookup y = env.cells.lookup y := fun y hy => by rw [e2]; exact hclos y hy
 have SC := selCtx_of PC.X₀ e1 IS.kind IS.elem IS.isin IS.str ((lk _ IS.isin).trans l1) ((lk _ IS.str).trans l2) i1 i2 n1 n2 hL hbL hkk cx hn
 have SV := sliceV_of (G := G) (s' := s') (L := env'.locals) hS6 hST hL hkk
 rw [f1, f2] at SV
 exact selD SC PC.NC (by unfold Env.kindOf; rw [e1]; exact hel) hw (cellV_of e1 hns ((lk _ hns).trans b1) m1 o1 hL hkk) (cellV_of e1 hno ((lk _ hno).trans b3) m3 o3 hL hkk) SV
def keepOf (p : Str) : Option (Option Str → Bool) :=
 if p = ("{*}*" : Str) then some (·.isSome)
 else if p = ("{}*" : Str) then some keepB
 else if Txt.slice p none (some 3) = ("{*}" : Str) then some (keepC (Txt.slice p (some 3) none) (Txt.slice p (some 2) none))
 else if Txt.slice p (some (-2)) none = ("}*" : Str) then some (keepD (Txt.slice p none (some (-1))))
 else none
theorem prep_any (PC : PrepCf G k cf Kf C fI P) {p : Str} (hk : keepOf p = some keep) (hlen : p.length ≤ 1000) (c : StC G k A Xc Y s env (pNames 2) (rho0 (pNames 2) ["tag"] [.str p])) {E : Value → Shared → Prop} :
  wpAny (model G.prog G.w) A (execs (pBody 2) env) (PrepPost G C Y s keep) E s := by
 unfold keepOf at hk
 split at hk
 ·rename_i h; subst h; cases hk; exact prep_A PC c
 ·rename_i h1
  split at hk
  ·rename_i h; subst h; cases hk; exact prep_B PC c
  ·rename_i h2
   split at hk
   ·rename_i h3; cases hk; exact prep_C PC (by simpa using h1) (by simpa using h2) (by simpa using h3) hlen c
   ·rename_i h3
    split at hk
    ·rename_i h4; cases hk; exact prep_D PC (by simpa using h1) (by simpa using h2) (by simpa using h3) (by simpa using h4) hlen c
    ·cases hk
theorem prep_call (PC : PrepCf G k cf Kf C fI P) {o : Obj} {fd : FuncData} (fr : FnRec G 38 o fd (pBody 2) (pNames 2) ["tag"]) {p : Str} (hk : keepOf p = some keep) (hlen : p.length ≤ 1000) {X : List Addr} {v : Value} (room : Room (k + 1) A) (cx : Cx G s.heap) (xok : XOk G X s.heap) (r : Rd G.C X s.heap (.str p) v) {E : Value → Shared → Prop} :
  wpAny (model G.prog G.w) A (call (.ref 38) [v]) (fun u s' => ∃ f, u = .ref f ∧ Gr G s s' ∧ SelReady G C s'.heap f keep) E s := by
 refine wpAny_call (enter fr room cx xok (.cons r .nil) rfl fun env Y s₁ g fresh c => ?_)
 refine wpAny_mono (prep_any PC hk hlen c) (fun fl s' p => ?_) fun _ _ e => e
 obtain ⟨f, Y', rfl, t, R⟩ := p
 exact ⟨f, rfl, ⟨fun b o hT e => t.grb.heap b o hT (fun q => by rw [fresh b q] at e; cases e) (g.heap b o hT e), fun z => t.grb.ti (g.ti z), t.grb.os.trans g.os, fun z => t.grb.bare (g.bare z)⟩, R⟩
end
end Mine
namespace Mine
open PySem PySem.Calls PyProof.Rows PySem.W
abbrev Nd := Int × Option Str
def ndD (p : Nd) : D := .node p.1 p.2
def tagD : D → Option Str
 | .node _ t => t
 | _ => none
theorem filter_nd (keep : Option Str → Bool) (ns : List Nd) : (ns.map ndD).filter (fun d => keep (tagD d)) = (ns.filter fun p => keep p.2).map ndD := by
 rw [List.filter_map]; rfl
section
variable {G : Gd} {A : Around} {X : List Addr} {E : Value → Shared → Prop} {s : Shared} {C f : Addr} {keep : Option Str → Bool}
theorem sel_use (hC : G.C = C) (R : SelReady G C s.heap f keep) (hh : A.handled = none) (hroom : A.depth + 1 < recursionLimit) (cx : Cx G s.heap) (xok : XOk G X s.heap) {ns : List Nd} {v : Value} (rl : Rd G.C X s.heap (.lst (ns.map ndD)) v) (hsz : ns.length ≤ 1000)
  (hw : ∀ p ∈ ns, ∀ y, p.2 = some y → 1 ≤ y.length ∧ y.length ≤ 1000)
  {Q : Value → Shared → Prop} (hQ : ∀ gv s₁, Gr G s s₁ → (∀ {A' : Around} {E' : Value → Shared → Prop} {Q' : Value → Shared → Prop}, A'.handled = none → A'.depth + 1 < recursionLimit → (∀ u s₂, Gr G s s₂ → Rd G.C X s₂.heap (.lst ((ns.filter fun p => keep p.2).map ndD)) u → Q' u s₂) → wpAny (model G.prog G.w) A' (call (.type "list") [gv]) Q' E' s₁) → Q gv s₁) :
  wpAny (model G.prog G.w) A (call (.ref f) [.none, v]) Q E s := by
 obtain ⟨qual, params, scope, clos, doc, pm, cv, ctv, pre, test, px, pr, p1, p2, p3, p4, bpos, pos, d, T, h1, h2, h3, h4, IS, h6⟩ := R
 unfold Rd at rl
 obtain ⟨l, vs, j, rfl, hlX, hl, rl⟩ := rl
 have nfL : s.heap.get? s.heap.objs.size = none := zF (Nat.le_refl _)
 refine sel_call (keep := fun d => keep (tagD d)) (T := T fun i => tagD ((ns.map ndD).getD i .none)) hh hroom cx h2 h3 IS.co IS.gen IS.kind (fun y hy q => by have := List.all_eq_true.mp IS.cell y hy; rw [q] at this; cases this) IS.ctx IS.res IS.elem (fun a b => IS.bind _ _ _ _ _ _ a b) hl xok hlX rl (by simpa using hsz) (fun env s' e1 e2 e3 up => ?_) fun gv s₁ g hl' => ?_
 ·refine h6 s' env vs (fun i => tagD ((ns.map ndD).getD i .none)) e1 e2 (by rw [e3]; exact nfL) ?_ (fun b o _ e => up b o e) ⟨fun b o e => up b o (cx.hb b o e), G.frame _ _ cx.ti fun b o _ e => up b o e⟩ (fun i v hv => ?_) fun i y hy => ?_
  ·cases q : G.hb.get? env.locals with
   | none => rfl
   | some o => have := cx.hb _ _ q; rw [e3, nfL] at this; cases this
  ·have hv' : vs[i]? = some v := by simpa using hv
   have hlt : i < (ns.map ndD).length := by
    rw [← rl.length]
    exact (List.getElem?_eq_some_iff.mp hv').1
   obtain ⟨u, hu, hr⟩ := rl.get (i := i) (d := (ns.map ndD)[i]) (List.getElem?_eq_getElem hlt)
   rw [hu] at hv'; cases hv'
   have eD : (ns.map ndD)[i] = ndD (ns[i]'(by simpa using hlt)) := by simp
   have eG : (ns.map ndD).getD i .none = ndD (ns[i]'(by simpa using hlt)) := by rw [List.getD_eq_getElem?_getD, List.getElem?_eq_getElem hlt, eD]; rfl
   rw [eD] at hr
   show NdAt C env.locals s'.heap _ (tagD ((ns.map ndD).getD i .none))
   rw [eG]
   generalize ns[i]'(by simpa using hlt) = nd at hr ⊢
   obtain ⟨r, t⟩ := nd
   show NdAt C env.locals s'.heap _ t
   unfold ndD Rd at hr
   obtain ⟨a, rfl, dx, es, n, tr, vt, _, _, q1, q2, _, q4, q5⟩ := hr
   rw [hC] at q1
   refine ⟨a, dx, es, n, vt, rfl, ?_, ?_, up _ _ q1, up _ _ q2, q4, ?_⟩
   ·rw [e3]; exact Nat.ne_of_lt (Heap.lt_size q1)
   ·rw [e3]; exact Nat.ne_of_lt (Heap.lt_size q2)
   ·cases t with
    | none => exact q5
    | some y => exact q5
  ·rw [List.getD_eq_getElem?_getD] at hy
   cases hg : (ns.map ndD)[i]? with
   | none => rw [hg] at hy; cases hy
   | some z =>
    rw [hg] at hy
    obtain ⟨p, hp, rfl⟩ := List.mem_map.mp (List.mem_of_getElem? hg)
    exact hw p hp y hy
 ·refine hQ gv s₁ g fun {A' E' Q'} a1 a2 a3 => hl' a1 a2 fun u s₂ g2 r => a3 u s₂ g2 ?_
  rw [filter_nd] at r
  exact r
end
end Mine
namespace Mine
open PySem PySem.Calls PyProof.Rows PySem.W
def catD (els : D → Option (List D)) : List D → Option (List D)
 | [] => some []
 | d :: ds => (match els d with | some q => (match catD els ds with | some r => some (q ++ r) | none => none) | none => none)
section
variable {G : Gd} {A : Around} {s : Shared} {R : Result → Shared → Prop}
set_option maxHeartbeats 1000000 in
theorem lvl_loop {elt : Expr} {gens : List Comprehension} {csc : Scope} {cpos : Pos} {dep : Nat} {I Dd : Addr} {fp wr Xf : List Addr} {ds pre0 all : List D} {x : Str} {px ps : Pos} {env : Env} {m : Str → Option Value} {ys0 : List Value} {n0 : Nat} {St : Nat → Heap → Prop} {P : Nat → Value → Prop} (body : Sem Unit) (Kp : (Str → Option Value) → Prop) (els : D → Option (List D))
  (heq : compTurn (.ListComp elt gens csc cpos) dep (.ref I) (.ref Dd) env = (standAt ps >>= fun _ => pyNext (.ref I) >>= fun r => match r with
   | none => pure (.done .next)
   | some v => assign (.Name x px) env v >>= fun _ => body >>= fun _ => again (.compLoop (.ListComp elt gens csc cpos) dep (.ref I) (.ref Dd) env)))
  (W : Walks G.prog G.w A I fp wr ds.length P St) (hst : St 0 s.heap) (hNT : ∀ i h', St i h' → ∀ b ∈ wr, NT h' b) (hfpT : ∀ b ∈ fp, b ∉ G.T) (hCf : env.locals ∉ fp) (hDf : Dd ∉ fp) (hDC : Dd ≠ env.locals)
  (hC : env.locals ∈ Xf) (hD : Dd ∈ Xf) (hw : ∀ b ∈ wr, b ∈ Xf) (hX : XOk G Xf s.heap) (ti : G.TI s.heap) (hx : env.kindOf x = some .local) (hk : env.scope.kind = .function)
  (hrd : ∀ i v, i < ds.length → P i v → ∃ d, ds[i]? = some d ∧ ∀ s', GrB G (env.locals :: Dd :: wr) s s' → Rd G.C Xf s'.heap d v)
  (hn : s.heap.Ns env.locals m) (hKp : Kp m) (hKx : ∀ m v, Kp m → Kp fun y => if y = x then some v else m y) (hacc : s.heap.get? Dd = some (lstObj ys0 n0)) (hl : RdL G.C Xf s.heap pre0 ys0) (hall : catD els ds = some all)
  (step : ∀ (i : Nat) d v s₃ m₃ pre ys n qs E', ds[i]? = some d → els d = some qs → GrB G (env.locals :: Dd :: wr) s s₃ → G.TI s₃.heap → XOk G Xf s₃.heap → s₃.heap.Ns env.locals m₃ → m₃ x = some v → Kp m₃ → Rd G.C Xf s₃.heap d v → s₃.heap.get? Dd = some (lstObj ys n) → RdL G.C Xf s₃.heap pre ys → (pre ++ qs).length ≤ (pre0 ++ all).length →
   wpAny (model G.prog G.w) A body (fun _ s₄ => ∃ m₄ ys' n', GrB G [env.locals, Dd] s₃ s₄ ∧ s₄.heap.Ns env.locals m₄ ∧ Kp m₄ ∧ s₄.heap.get? Dd = some (lstObj ys' n') ∧ RdL G.C Xf s₄.heap (pre ++ qs) ys') E' s₃)
  (hR : ∀ s' m' ys n, GrB G (env.locals :: Dd :: wr) s s' → s'.heap.Ns env.locals m' → Kp m' → s'.heap.get? Dd = some (lstObj ys n) → RdL G.C Xf s'.heap (pre0 ++ all) ys → R (.ok .next) s') :
  codeAny (model G.prog G.w) A (.compLoop (.ListComp elt gens csc cpos) dep (.ref I) (.ref Dd) env) R s := by
 have hCw : env.locals ∉ wr := fun h => hCf (W.sub _ h)
 have hDw : Dd ∉ wr := fun h => hDf (W.sub _ h)
 have hp : (env.scope.kind == .class || (env.scope.kind == .module && env.locals != env.globals)) = false := by rw [hk]; rfl
 have ok : ∀ s' i m' n ys, GrB G (env.locals :: Dd :: wr) s s' → G.TI s'.heap → St i s'.heap → s'.heap.Ns env.locals m' → s'.heap.get? Dd = some (lstObj ys n) → XOk G Xf s'.heap := by
  intro s' i m' n ys g ti' hst' hn' hg
  refine ⟨hX.tabs, fun a ha => ?_⟩
  by_cases hT : a ∈ G.T
  ·obtain ⟨vs, e⟩ := G.tabs _ ti' a hT; exact ⟨_, e⟩
  by_cases h1 : a = env.locals
  ·subst h1; obtain ⟨o, _, _, ho, _⟩ := hn'; exact ⟨o, ho⟩
  by_cases h2 : a = Dd
  ·subst h2; exact ⟨_, hg⟩
  by_cases h3 : a ∈ wr
  ·obtain ⟨o, ho, _⟩ := hNT i _ hst' a h3; exact ⟨o, ho⟩
  obtain ⟨o, ho⟩ := hX.live a ha
  exact ⟨o, g.heap a o hT (by simp [h1, h2, h3]) ho⟩
 have liftX : ∀ (s₁ s₂ : Shared) (l : List D) (us : List Value), GrB G (env.locals :: Dd :: wr) s₁ s₂ → RdL G.C Xf s₁.heap l us → RdL G.C Xf s₂.heap l us := fun s₁ s₂ l us g r => r.imp fun b o hb e => ⟨hb, g.heap b o (fun q => hb (hX.tabs b q)) (fun q => by
  rcases List.mem_cons.mp q with q | q
  ·exact hb (q ▸ hC)
  ·rcases List.mem_cons.mp q with q | q
   ·exact hb (q ▸ hD)
   ·exact hb (hw b q)) e⟩
 refine codeAny_loop rfl (fun k s' => ∃ (i : Nat) (m' : Str → Option Value) (ys : List Value) (n : Nat) (pre rest : List D), i ≤ ds.length ∧ k = ds.length + 1 - i ∧ GrB G (env.locals :: Dd :: wr) s s' ∧ G.TI s'.heap ∧ St i s'.heap ∧ s'.heap.Ns env.locals m' ∧ Kp m' ∧
   s'.heap.get? Dd = some (lstObj ys n) ∧ catD els (ds.drop i) = some rest ∧ pre0 ++ all = pre ++ rest ∧ RdL G.C Xf s'.heap pre ys) (fun k s' hI => ?_) (ds.length + 1) ⟨0, m, ys0, n0, pre0, all, Nat.zero_le _, rfl, GrB.refl s, ti, hst, hn, hKp, hacc, by simpa using hall, rfl, hl⟩
 obtain ⟨i, m', ys, n, pre, rest, hi, rfl, g, ti', hst', hn', hKp', hg, hrest, hpre, hl'⟩ := hI
 show wpAny _ A ((compTurn (.ListComp elt gens csc cpos) dep (.ref I) (.ref Dd) env).onRaise (fun x => do noteFrame x env; theTreesLotGoes x)) _ _ s'
 refine wpAny_noted ?_
 rw [heq]
 refine wpAny_bind (wpAny_standAt (wpAny_bind ?_))
 by_cases hlt : i < ds.length
 ·refine W.item i _ _ _ hlt hst' fun v h₁ tk₁ hPv hst₁ hk₁ => ?_
  have g₁ : GrB G wr s' { s' with heap := h₁, toks := tk₁ } := GrB.change (Y := wr) (fun b o hb e => hk₁ b o hb e) (fun b hb => hNT i _ hst' b hb)
  have hn₁ : h₁.Ns env.locals m' := hn'.at' fun o e => hk₁ _ o hCw e
  refine wpAny_bind (wpAny_assign_Name (wpAny_storeName_local hx hn₁ (fun h₂ hn₂ hs₂ => ?_) hp))
  have g₂ : GrB G [env.locals] { s' with heap := h₁, toks := tk₁ } { s' with heap := h₂, toks := tk₁ + 1 } := GrB.same (s := { s' with heap := h₁, toks := tk₁ }) hs₂ (.dict hn₁)
  have gg : GrB G (env.locals :: Dd :: wr) s' { s' with heap := h₂, toks := tk₁ + 1 } :=
   (g₁.mono fun y hy => List.mem_cons_of_mem _ (List.mem_cons_of_mem _ hy)).trans (g₂.mono fun y hy => by simp at hy; simp [hy])
  have g3 := g.trans gg
  have ti₂ : G.TI h₂ := gg.ti ti'
  obtain ⟨d, hd, hr0⟩ := hrd i v hlt hPv
  have hr := hr0 _ g3
  have hst₂ : St (i + 1) h₂ := W.frame _ _ _ hst₁ fun b hb o e => (hs₂.2 b (fun q => hCf (q ▸ hb))).trans e
  have hg₂ : h₂.get? Dd = some (lstObj ys n) := (hs₂.2 Dd hDC).trans (hk₁ _ _ hDw hg)
  have hl₂ : RdL G.C Xf h₂ pre ys := liftX s' { s' with heap := h₂, toks := tk₁ + 1 } _ _ gg hl'
  have hdrop : ds.drop i = d :: ds.drop (i + 1) := by
   rw [List.drop_eq_getElem_cons hlt]
   rw [List.getElem?_eq_getElem hlt] at hd
   rw [Option.some.inj hd]
  rw [hdrop] at hrest
  unfold catD at hrest
  split at hrest
  ·rename_i qs hqs
   split at hrest
   ·rename_i r hr'
    cases hrest
    refine wpAny_bind (wpAny_mono (step i d v _ _ pre ys n qs _ hd hqs g3 ti₂ (ok _ (i + 1) _ n ys g3 ti₂ hst₂ hn₂ hg₂) hn₂ (by simp) (hKx _ _ hKp') hr hg₂ hl₂ (by rw [hpre]; simp)) (fun _ s₄ h₄ => ?_) fun _ _ e => e)
    obtain ⟨m₄, ys', n', g₄, hn₄, hK₄, hg₄, hl₄⟩ := h₄
    refine wpAny_pure ⟨rfl, ds.length + 1 - (i + 1), by omega, i + 1, m₄, ys', n', pre ++ qs, r, hlt, rfl, g3.trans (g₄.mono fun y hy => by simp at hy; rcases hy with rfl | rfl <;> simp), g₄.ti ti₂, W.frame _ _ _ hst₂ fun b hb o e => g₄.heap b o (hfpT b hb) (fun q => ?_) e, hn₄, hK₄, hg₄, hr', by rw [hpre, List.append_assoc], hl₄⟩
    simp at q
    rcases q with rfl | rfl
    ·exact hCf hb
    ·exact hDf hb
   ·cases hrest
  ·cases hrest
 ·have hin : i = ds.length := by omega
  subst hin
  refine W.done _ _ _ hst' fun h₁ tk₁ hk₁ => ?_
  have g₁ : GrB G wr s' { s' with heap := h₁, toks := tk₁ } := GrB.change (Y := wr) (fun b o hb e => hk₁ b o hb e) (fun b hb => hNT _ _ hst' b hb)
  have gg : GrB G (env.locals :: Dd :: wr) s' { s' with heap := h₁, toks := tk₁ } := g₁.mono fun y hy => List.mem_cons_of_mem _ (List.mem_cons_of_mem _ hy)
  rw [List.drop_length] at hrest
  cases hrest
  rw [List.append_nil] at hpre
  refine wpAny_pure (hR { s' with heap := h₁, toks := tk₁ } m' ys n (g.trans gg) (hn'.at' fun o e => hk₁ _ o hCw e) hKp' (hk₁ _ _ hDw hg) ?_)
  rw [hpre]
  exact liftX s' { s' with heap := h₁, toks := tk₁ } _ _ gg hl'
end
end Mine
namespace Mine
open PySem PySem.Calls PyProof.Rows PySem.W
theorem compTurn_two0' (elt i1 i2 : Expr) (x y : Str) (px py : Pos) (csc : Scope) (cpos : Pos) (it acc : Value) (env : Env) :
  compTurn (.ListComp elt [⟨.Name x px, i1, [], 0⟩, ⟨.Name y py, i2, [], 0⟩] csc cpos) 0 it acc env = (standAt i1.pos >>= fun _ => pyNext it >>= fun r => match r with
   | none => pure (.done .next)
   | some v => assign (.Name x px) env v >>= fun _ => eval i2 env >>= fun xx => standAt i2.pos >>= fun _ => foldedSetIterable i2 env xx >>= fun xx => holding [xx] (pyIter xx) >>= fun it2 =>
     runOwn (.compStart (.ListComp elt [⟨.Name x px, i1, [], 0⟩, ⟨.Name y py, i2, [], 0⟩] csc cpos) 1 it2 acc env) env >>= fun _ => again (.compLoop (.ListComp elt [⟨.Name x px, i1, [], 0⟩, ⟨.Name y py, i2, [], 0⟩] csc cpos) 0 it acc env)) := by
 rfl
abbrev body2 (elt i1 i2 : Expr) (x y : Str) (px py : Pos) (csc : Scope) (cpos : Pos) (acc : Value) (env : Env) : Sem Unit := eval i2 env >>= fun xx => standAt i2.pos >>= fun _ => foldedSetIterable i2 env xx >>= fun xx => holding [xx] (pyIter xx) >>= fun it2 =>
     runOwn (.compStart (.ListComp elt [⟨.Name x px, i1, [], 0⟩, ⟨.Name y py, i2, [], 0⟩] csc cpos) 1 it2 acc env) env >>= fun _ => pure ()
theorem compTurn_two0 (elt i1 i2 : Expr) (x y : Str) (px py : Pos) (csc : Scope) (cpos : Pos) (it acc : Value) (env : Env) :
  compTurn (.ListComp elt [⟨.Name x px, i1, [], 0⟩, ⟨.Name y py, i2, [], 0⟩] csc cpos) 0 it acc env = (standAt i1.pos >>= fun _ => pyNext it >>= fun r => match r with
   | none => pure (.done .next)
   | some v => assign (.Name x px) env v >>= fun _ => body2 elt i1 i2 x y px py csc cpos acc env >>= fun _ => again (.compLoop (.ListComp elt [⟨.Name x px, i1, [], 0⟩, ⟨.Name y py, i2, [], 0⟩] csc cpos) 0 it acc env)) := by
 rw [compTurn_two0']
 simp only [bind_assoc, pure_bind]
theorem compTurn_two1 (elt i1 i2 : Expr) (x y : Str) (px py : Pos) (csc : Scope) (cpos : Pos) (it acc : Value) (env : Env) :
  compTurn (.ListComp elt [⟨.Name x px, i1, [], 0⟩, ⟨.Name y py, i2, [], 0⟩] csc cpos) 1 it acc env = (standAt i2.pos >>= fun _ => pyNext it >>= fun r => match r with
   | none => pure (.done .next)
   | some v => assign (.Name y py) env v >>= fun _ => (do let _ ← call (.builtin "list.append") [acc, ← eval elt env]; pure () : Sem Unit) >>= fun _ => again (.compLoop (.ListComp elt [⟨.Name x px, i1, [], 0⟩, ⟨.Name y py, i2, [], 0⟩] csc cpos) 1 it acc env)) := by
 rfl
end Mine
namespace Mine
open PySem PySem.Calls PyProof.Rows PySem.W
theorem ns_same {h : Heap} {a : Addr} {m m' : Str → Option Value} (n : h.Ns a m) (n' : h.Ns a m') : m = m' := by
 obtain ⟨o, es, ep, e1, e2, _, e3⟩ := n
 obtain ⟨o', es', ep', f1, f2, _, f3⟩ := n'
 rw [e1] at f1; cases f1
 rw [e2] at f2; cases f2
 funext x
 rw [← e3, ← f3]
section
variable {G : Gd} {k n : Nat} {cf : Cf} {A : Around} {X : List Addr} {s : Shared} {env : Env} {K : Kn} {ρ : Rho} {R : Result → Shared → Prop}
theorem comp_cxt2 {csc : Scope} {cl : List (Str × Addr)} {C : Addr} {x y : Str} {d e : D} {v u : Value} {Xi : List Addr} {s₃ : Shared} {m₃} (c : Cxt G k A X s env K ρ) (hg : goodComp csc.names K ρ x = true) (hkind : csc.kind = .function)
  (hcl : ∀ y, csc.names.lookup y = some .free → cl.lookup y = env.cells.lookup y) (hXs : ∀ a ∈ X, a ∈ Xi) (hXi : ∀ a ∈ Xi, a ∈ X ∨ s.heap.get? a = none) (g : Gr G s s₃) (ti : G.TI s₃.heap) (hX₃ : XOk G Xi s₃.heap)
  (hn : s₃.heap.Ns C m₃) (hm : m₃ x = some v) (r : Rd G.C Xi s₃.heap d v) (hy : csc.names.lookup y = some .local) (hmy : m₃ y = some u) (re : Rd G.C Xi s₃.heap e u) :
  Cxt G k A Xi s₃ (compEnvC csc cl C env) (relK csc.names K) ((y, e) :: (x, d) :: ρ.filter fun q => freeIn csc.names q.1) := by
 obtain ⟨c1, c2, c3, c4⟩ := comp_cxt c hg hkind hcl hXs hXi g ti hX₃ hn hm r
 obtain ⟨ek, m, W, hn', hi, hv⟩ := c4
 have := ns_same hn' hn
 subst this
 refine ⟨c1, c2, c3, ek, m, W, hn', hi, fun z d' hz => ?_⟩
 rw [List.lookup_cons] at hz
 cases hb : z == y with
 | true =>
  rw [hb] at hz; cases hz
  have := beq_iff_eq.mp hb; subst this
  refine .inr ⟨u, .inl ⟨?_, hmy⟩, ?_⟩
  ·unfold Env.kindOf
   rw [ek.names, relK_lookup, hy]; rfl
  ·cases e <;> first | exact re | (unfold Rd at re; exact re.elim)
 | false => rw [hb] at hz; exact hv z d' hz
def mapD (f : D → Option D) (d : D) : Option (List D) := match f d with
 | some y => (match y.pure with | true => some [y] | false => none)
 | none => none
theorem cstart1 {elt i1 i2 : Expr} {x y : Str} {px py : Pos} {csc : Scope} {cpos : Pos} {it acc : Value} {cenv : Env}
  (h0 : codeAny (model G.prog G.w) A (.compLoop (.ListComp elt [⟨.Name x px, i1, [], 0⟩, ⟨.Name y py, i2, [], 0⟩] csc cpos) 1 it acc cenv) R s)
  (h : wpAny (model G.prog G.w) A (pyIter it) (fun it' s' => codeAny (model G.prog G.w) A (.compLoop (.ListComp elt [⟨.Name x px, i1, [], 0⟩, ⟨.Name y py, i2, [], 0⟩] csc cpos) 1 it' acc cenv) R s')
   (notedBy (model G.prog G.w) A cenv fun x s' => R (.error x) s') s) :
  codeAny (model G.prog G.w) A (.compStart (.ListComp elt [⟨.Name x px, i1, [], 0⟩, ⟨.Name y py, i2, [], 0⟩] csc cpos) 1 it acc cenv) R s := by
 refine codeAny_of_tree ?_
 show wpAny _ _ ((compStart (.ListComp elt [⟨.Name x px, i1, [], 0⟩, ⟨.Name y py, i2, [], 0⟩] csc cpos) 1 it acc cenv).onRaise (fun x => do noteFrame x cenv; standAt theWindowsPlace)) _ _ s
 refine wpAny_notedAt ?_
 unfold compStart
 show wpAny _ _ (ask >>= _) _ _ s
 refine wpAny_bind (wpAny_askSetting (wpAny_ite ?_))
 split
 ·first
   | exact wpAny_bind (wpAny_pure (wpAny_pure (And.intro rfl h0)))
   | exact wpAny_pure (And.intro rfl h0)
 ·first
   | exact wpAny_bind (wpAny_rule (wpAny_bind (wpAny_standAt (wpAny_bind (wpAny_mono h (fun it' s' h' => wpAny_pure (And.intro rfl h')) fun _ _ x => x)))))
   | (refine wpAny_bind (wpAny_rule ?_); show wpAny _ _ (standAt i2.pos >>= _) _ _ s; exact wpAny_bind (wpAny_standAt (wpAny_bind (wpAny_mono h (fun it' s' h' => wpAny_pure (And.intro rfl h')) fun _ _ x => x))))
theorem inner_lvl (ok : CfOk G cf k) (c : Cxt G k A X s env K ρ) {csc : Scope} {cl : List (Str × Addr)} {x y : Str} {px py : Pos} {elt i1 i2 : Expr} {cpos : Pos} {C Dd : Addr} {d : D} {v : Value} {Xi : List Addr} {s₃ : Shared} {m₃ : Str → Option Value} {pre qs : List D} {ys : List Value} {n0 : Nat}
  (hg : goodComp csc.names K ρ x = true) (hkind : csc.kind = .function) (hcl : ∀ y, csc.names.lookup y = some .free → cl.lookup y = env.cells.lookup y) (hy : csc.names.lookup y = some .local) (hxy : x ≠ y) (hXs : ∀ a ∈ X, a ∈ Xi) (hXi : ∀ a ∈ Xi, a ∈ X ∨ s.heap.get? a = none)
  (hC : s.heap.get? C = none) (hD : s.heap.get? Dd = none) (hCX : C ∈ Xi) (hDX : Dd ∈ Xi) (hDC : Dd ≠ C)
  (g : Gr G s s₃) (ti : G.TI s₃.heap) (hX₃ : XOk G Xi s₃.heap) (hn : s₃.heap.Ns C m₃) (hm : m₃ x = some v) (r : Rd G.C Xi s₃.heap d v) {d2 : D} {es : List D} (he : evD cf n (relK csc.names K) ((x, d) :: ρ.filter fun q => freeIn csc.names q.1) i2 = some d2) (hes : itemsD d2 = some es)
  (hq : catD (mapD fun e => evD cf n (relK csc.names K) ((y, e) :: (x, d) :: ρ.filter fun q => freeIn csc.names q.1) elt) es = some qs) (hacc : s₃.heap.get? Dd = some (lstObj ys n0)) (hl : RdL G.C Xi s₃.heap pre ys) (hlen : (pre ++ qs).length ≤ 1000) {E : Value → Shared → Prop} :
  wpAny (model G.prog G.w) A (body2 elt i1 i2 x y px py csc cpos (.ref Dd) (compEnvC csc cl C env)) (fun _ s₄ => ∃ m₄ ys' n', GrB G [C, Dd] s₃ s₄ ∧ s₄.heap.Ns C m₄ ∧ m₄ x = some v ∧ s₄.heap.get? Dd = some (lstObj ys' n') ∧ RdL G.C Xi s₄.heap (pre ++ qs) ys') E s₃ := by
 have cc := comp_cxt c hg hkind hcl hXs hXi g ti hX₃ hn hm r
 refine wpAny_bind (((sound ok n).ev _ _ _ _ he A Xi s₃ _ cc).post fun v2 s₄ g₄ r2 => ?_)
 refine wpAny_bind (wpAny_standAt (wpAny_bind (wpAny_of_eq (zK he _ _) ?_)))
 have cc4 := cc.gr g₄
 refine wpAny_bind (wpAny_holding (wpAny_mono (itemsD_ok cc4.room.hh cc4.xok cc4.cx.ti (r2.rd' (fun l q => by subst q; cases hes)) hes E) (fun it s₅ h₅ => ?_) fun _ _ e => e))
 obtain ⟨I, fp, wr, rfl, g₅, up5, S⟩ := h₅
 obtain ⟨St, P, W, hst, hwr, hfp, hlt, hNT, hrd⟩ := S
 have nC : NT s₃.heap C := .dict hn
 have nD : NT s₃.heap Dd := ⟨_, hacc, zI⟩
 have nCT := nC.notTab ti
 have nDT := nD.notTab ti
 have g45 := g₄.trans g₅
 have ti4 := g₄.ti ti
 have ti5 := g45.ti ti
 have hn5 : s₅.heap.Ns C m₃ := hn.at' fun o e => g45.heap _ o nCT e
 have hacc5 : s₅.heap.get? Dd = some (lstObj ys n0) := g45.heap _ _ nDT hacc
 have live4 : ∀ b ∈ Xi, ∃ o, s₄.heap.get? b = some o := cc4.xok.live
 have wrX : ∀ b ∈ wr, b ∉ Xi := fun b hb q => by
  obtain ⟨o, e⟩ := live4 b q
  rw [hwr b hb] at e; cases e
 have fpX : ∀ b ∈ fp, b ∉ Xi := fun b hb q => by
  rcases (hfp b hb).1 with z | z
  ·exact wrX b z q
  ·exact z.1 q
 have xok5 : XOk G (wr ++ Xi) s₅.heap := by
  refine ⟨fun a ha => List.mem_append_right _ (cc4.xok.tabs a ha), fun a ha => ?_⟩
  rcases List.mem_append.mp ha with q | q
  ·obtain ⟨o, e, _⟩ := hNT 0 _ hst a q; exact ⟨o, e⟩
  ·exact (cc4.xok.gr ti4 g₅).live a q
 have noWr4 : ∀ b o, s₄.heap.get? b = some o → b ∉ wr := fun b o e q => by rw [hwr b q] at e; cases e
 have lift4 : ∀ (t : Shared), GrB G (C :: Dd :: wr) s₅ t → ∀ b o, b ∉ Xi → s₄.heap.get? b = some o → b ∉ wr ++ Xi ∧ t.heap.get? b = some o := fun t gt b o hb e => ⟨fun q => (List.mem_append.mp q).elim (noWr4 b o e) hb, gt.heap b o (fun q => hb (cc4.xok.tabs b q)) (fun q => by
  rcases List.mem_cons.mp q with q | q
  ·exact hb (q ▸ hCX)
  ·rcases List.mem_cons.mp q with q | q
   ·exact hb (q ▸ hDX)
   ·exact noWr4 b o e q) (up5 b o e)⟩
 have gr34 : ∀ b o, b ∉ Xi → s₃.heap.get? b = some o → s₄.heap.get? b = some o := fun b o hb e => g₄.heap b o (fun q => hb (cc4.xok.tabs b q)) e
 have toGr : ∀ t, GrB G (C :: Dd :: wr) s₅ t → Gr G s t := fun t gt => ⟨fun b o hT e => gt.heap b o hT (fun q => by
   rcases List.mem_cons.mp q with q | q
   ·rw [q, hC] at e; cases e
   ·rcases List.mem_cons.mp q with q | q
    ·rw [q, hD] at e; cases e
    ·have e4 : s₄.heap.get? b = some o := (g.trans g₄).heap b o hT e
     exact noWr4 b o e4 q) ((g.trans g45).heap b o hT e), fun z => gt.ti ((g.trans g45).ti z), gt.os.trans (g.trans g45).os, fun z => gt.bare ((g.trans g45).bare z)⟩
 have hXi2 : ∀ a ∈ wr ++ Xi, a ∈ X ∨ s.heap.get? a = none := fun a ha => by
  rcases List.mem_append.mp ha with q | q
  ·right
   cases z : s.heap.get? a with
   | none => rfl
   | some o =>
    by_cases hT : a ∈ G.T
    ·exact absurd (cc4.xok.tabs a hT) (wrX a q)
    ·have := (g.trans g₄).heap a o hT z; rw [hwr a q] at this; cases this
  ·exact hXi a q
 refine wpAny_bind (wpAny_runOwn (h := none) ?_)
 have loop : codeAny (model G.prog G.w) A (.compLoop (.ListComp elt [⟨.Name x px, i1, [], 0⟩, ⟨.Name y py, i2, [], 0⟩] csc cpos) 1 (.ref I) (.ref Dd) (compEnvC csc cl C env)) (fun r s' => match r with | .ok f => wpAny (model G.prog G.w) A (pure ()) (fun (_ : Unit) s₄ => ∃ m₄ ys' n', GrB G [C, Dd] s₃ s₄ ∧ s₄.heap.Ns C m₄ ∧ m₄ x = some v ∧ s₄.heap.get? Dd = some (lstObj ys' n') ∧ RdL G.C Xi s₄.heap (pre ++ qs) ys') E s' | .error e => cameBackBy (model G.prog G.w) A (compEnvC csc cl C env) E e s') s₅ := by
  refine lvl_loop (env := compEnvC csc cl C env) (Xf := wr ++ Xi) (ds := es) (pre0 := pre) (all := qs) (x := y) (m := m₃) (do let _ ← call (.builtin "list.append") [.ref Dd, ← eval elt (compEnvC csc cl C env)]; pure ()) (fun m => m x = some v) (mapD fun e => evD cf n (relK csc.names K) ((y, e) :: (x, d) :: ρ.filter fun q => freeIn csc.names q.1) elt) (compTurn_two1 _ _ _ _ _ _ _ _ _ _ _ _) W hst hNT (fun b hb => (hfp b hb).2) (fun q => fpX _ q hCX) (fun q => fpX _ q hDX) hDC (List.mem_append_right _ hCX) (List.mem_append_right _ hDX) (fun b hb => List.mem_append_left _ hb) xok5 ti5 (lookup_relabel_local hy) (by simp [compEnvC, relabel, hkind]) ?_ hn5 hm (fun m u hmx => by simp [hxy, hmx]) hacc5 ?_ hq ?_ ?_
  ·intro i u hi hPu
   obtain ⟨e, h1, h2⟩ := hrd i u hi hPu
   exact ⟨e, h1, fun s' gs => h2.imp fun b o hb ee => lift4 s' gs b o hb ee⟩
  ·exact hl.imp fun b o hb e => lift4 s₅ (GrB.refl _) b o hb (gr34 b o hb e)
  ·intro i e u s₆ m₆ pre' ys₆ n₆ qs' E' hde hqs' gb ti₆ ok₆ hn₆ hmy hmx ru hacc₆ hl₆ hlen₆
   unfold mapD at hqs'
   split at hqs'
   ·rename_i yy hyy
    split at hqs'
    ·rename_i hpu
     cases hqs'
     have rv : Rd G.C (wr ++ Xi) s₆.heap d v := r.imp fun b o hb e => lift4 s₆ gb b o hb (gr34 b o hb e)
     have c6 := comp_cxt2 c hg hkind hcl (fun a ha => List.mem_append_right _ (hXs a ha)) hXi2 (toGr _ gb) ti₆ ok₆ hn₆ hmx rv hy hmy ru
     refine wpAny_bind (((sound ok n).ev _ _ _ _ hyy A _ s₆ _ c6).post fun w s₇ g₇ rw' => ?_)
     have nC6 : C ∉ G.T := (NT.dict hn₆).notTab ti₆
     have nD6 : Dd ∉ G.T := NT.notTab ⟨_, hacc₆, zI⟩ ti₆
     have hg₇ : s₇.heap.get? Dd = some (lstObj ys₆ n₆) := g₇.heap _ _ nD6 hacc₆
     have hlb : (pre' ++ [yy]).length ≤ 1000 := Nat.le_trans hlen₆ hlen
     have hys : ys₆.length ≤ 1000 := by
      rw [hl₆.length]
      simp at hlb; omega
     refine wpAny_bind (wpAny_list_append_plain (items := ys₆.toArray) ⟨n₆, hg₇⟩ (fun h₈ hl₈ hs₈ => ?_) (by rw [size_arr]; exact Nat.le_trans hys (by decide)))
     obtain ⟨n₈, hn₈⟩ := hl₈
     have g₈ : GrB G [Dd] s₇ { s₇ with heap := h₈ } := GrB.same (tk := s₇.toks) hs₈ (.list (its := ys₆.toArray) ⟨_, hg₇, rfl, n₆, rfl⟩)
     refine wpAny_pure ⟨m₆, ys₆ ++ [w], n₈, g₇.b.trans (g₈.mono fun z hz => by simp at hz; simp [hz]), (hn₆.at' fun o e => g₇.heap _ o nC6 e).sameBut hs₈ (Ne.symm hDC), hmx, by rw [hn₈]; simp, ?_⟩
     have l1 : RdL G.C (wr ++ Xi) h₈ pre' ys₆ := hl₆.imp fun b o hb e => ⟨hb, (hs₈.2 b (fun q => hb (List.mem_append_right _ (q ▸ hDX)))).trans (g₇.heap b o (fun q => hb (ok₆.tabs b q)) e)⟩
     have l2 : Rd G.C (wr ++ Xi) h₈ yy w := (rw'.rd hpu).imp fun b o hb e => ⟨hb, (hs₈.2 b (fun q => hb (List.mem_append_right _ (q ▸ hDX)))).trans e⟩
     exact l1.append (.cons l2 .nil)
    ·cases hqs'
   ·cases hqs'
  ·intro s' m' ys' n' gb hn' hmx hg' hl'
   refine wpAny_pure ⟨m', ys', n', ⟨fun b o hT hb e => gb.heap b o hT (fun q => ?_) (g45.heap b o hT e), fun z => gb.ti (g45.ti z), gb.os.trans g45.os, fun z => gb.bare (g45.bare z)⟩, hn', hmx, hg', hl'.less fun b hb => List.mem_append_right _ hb⟩
   rcases List.mem_cons.mp q with q | q
   ·exact hb (by rw [show b = C from q]; simp)
   ·rcases List.mem_cons.mp q with q | q
    ·exact hb (by rw [show b = Dd from q]; simp)
    ·exact noWr4 b o (g₄.heap b o hT e) q
 exact cstart1 loop (W.self 0 _ _ _ hst loop)
end
end Mine
namespace Mine
open PySem PySem.Calls PyProof.Rows PySem.W
section
variable {G : Gd} {k n : Nat} {cf : Cf} {A : Around} {X Xc Y : List Addr} {s : Shared} {env : Env} {K : Kn} {ρ : Rho} {R : Result → Shared → Prop}
theorem store_comp (c : StC G k A Xc Y s env K ρ) {s' : Shared} (g : Gr G s s') {x : Str} {d : D} {v : Value} {C : Addr} {mC : Str → Option Value} (hk : K.lookup x = some .local) (hC : s.heap.get? C = none) (nsC : s'.heap.Ns C mC)
  (r : Rd G.C (C :: (Y ++ Xc)) s'.heap d v) {E : Value → Shared → Prop} {Q : Value → Shared → Prop} {u : Value} (hQ : ∀ s₂, Stp G Y s Y s₂ → StC G k A Xc Y s₂ env K (setV (dropApp ρ x) x d) → Q u s₂) :
  wpAny (model G.prog G.w) A (storeName env x v) (fun _ s'' => ∃ m, s''.heap.Ns C m ∧ ∀ h', Heap.SameBut C s''.heap h' → Q u { s'' with heap := h' }) E s' := by
 have c' := c.gr g
 obtain ⟨m, W, e, hW⟩ := c.ex
 have e' := e.gr c.xok c.cx g
 have en := c.cxt.env.k
 have hk' : env.kindOf x = some .local := by unfold Env.kindOf; rw [en.names]; exact hk
 have CX : C ∉ Y ++ Xc := c.xok.none hC
 have CL : C ≠ env.locals := fun q => CX (q ▸ List.mem_append_left _ c.loc)
 have nC' : NT s'.heap C := .dict nsC
 refine wpAny_storeName_local hk' e'.ns (fun h₁ hn₁ hs₁ => ?_) (by rw [en.kind]; rfl)
 refine ⟨mC, nsC.sameBut hs₁ CL, fun h' hs' => ?_⟩
 have nT : NT s'.heap env.locals := .dict e'.ns
 have nC1 : NT h₁ C := .dict (nsC.sameBut hs₁ CL)
 have hn' : h'.Ns env.locals (fun y => if y = x then some v else m y) := hn₁.at' fun o e => (hs'.2 _ (Ne.symm CL)).trans e
 have up : ∀ b o, b ≠ env.locals → b ≠ C → s'.heap.get? b = some o → h'.get? b = some o := fun b o h1 h2 e => (hs'.2 b h2).trans (SameBut.up hs₁ h1 e)
 have upS : ∀ b o, b ∉ G.T → b ≠ env.locals → s.heap.get? b = some o → h'.get? b = some o := fun b o hT h1 e => up b o h1 (fun q => by rw [q, hC] at e; cases e) (g.heap b o hT e)
 have ti' : ∀ t : Tok, G.TI s.heap → G.TI h' := fun t z => by
  have z1 := (GrB.same (G := G) (tk := t) hs₁ nT).ti (g.ti z)
  exact (GrB.same (G := G) (s := { s' with heap := h₁, toks := t }) (tk := t) hs' nC1).ti z1
 have gb : GrB G Y s { s' with heap := h', toks := s'.toks + 1 } := ⟨fun b o hT hY e => upS b o hT (fun q => hY (q ▸ c.loc)) e, ti' 0, g.os, g.bare⟩
 have stp : Stp G Y s Y { s' with heap := h', toks := s'.toks + 1 } := ⟨fun _ h => h, fun _ h => .inl h, gb⟩
 have diff : ∀ cc u, s.heap.IsCell cc u → cc ≠ env.locals := fun cc u hcell q => by
  subst q
  obtain ⟨o, es, ep, ho, hd, _⟩ := e.ns
  obtain ⟨o', ho', hd'⟩ := hcell
  rw [ho] at ho'; cases ho'
  rw [hd] at hd'; cases hd'
 have hnl : ∀ a vs n, s.heap.get? a = some (lstObj vs n) → a ≠ env.locals := fun a vs n hg q => by
  subst q
  obtain ⟨o, es, ep, ho, hd, _⟩ := e.ns
  rw [hg] at ho; cases ho; cases hd
 have cellUp : ∀ cc u, s.heap.IsCell cc u → h'.IsCell cc u := fun cc u hcell => IsCell.at' hcell fun o e => upS _ o ((NT.cell hcell).notTab c.cx.ti) (diff _ _ hcell) e
 have kX : ∀ b o, b ∉ Y ++ Xc → s.heap.get? b = some o → b ∉ Y ++ Xc ∧ h'.get? b = some o := fun b o hb e => ⟨hb, upS b o (fun q => hb (List.mem_append_right _ (c.xc b q))) (fun q => hb (q ▸ List.mem_append_left _ c.loc)) e⟩
 refine hQ _ stp ⟨c.room, stp.cx c.cx c.hbY, ⟨c.xok.tabs, fun a ha => ?_⟩, c.xc, ⟨(fun y => if y = x then some v else m y), (fun y => if y = x then none else W y), e.store hn' (fun y hy => by simp [hy]) (fun y hy => by simp [hy]) ?_ (fun y cc u hy hc hcell => cellUp cc _ hcell) kX ?_ (v := v) (.inl ⟨hk', by simp⟩) ?_, ?_⟩, c.loc, ?_, c.apart, ?_, c.dis, c.hbY, c.celX, c.noFree⟩
 ·by_cases hT : a ∈ G.T
  ·obtain ⟨vs, e⟩ := G.tabs _ (ti' 0 c.cx.ti) a hT; exact ⟨_, e⟩
  ·by_cases hl : a = env.locals
   ·subst hl; obtain ⟨o, _, _, ho, _⟩ := hn'; exact ⟨o, ho⟩
   ·obtain ⟨o, e⟩ := c.xok.live a ha; exact ⟨o, upS a o hT hl e⟩
 ·intro y z a h1 h2
  by_cases hy : y = x
  ·simp [hy] at h1
  ·by_cases hz : z = x
   ·simp [hz] at h2
   ·simp only [hy, hz, if_false] at h1 h2; exact e.inj y z a h1 h2
 ·intro y a vs n hy hwa hx hg
  exact ⟨hx, upS a _ (c.cx.notTab hg zI) (hnl _ _ _ hg) hg⟩
 ·have rr : Rd G.C (Y ++ Xc) h' d v := r.imp fun b o hb e => ⟨fun q => hb (List.mem_cons_of_mem _ q), up b o (fun q => hb (List.mem_cons_of_mem _ (q ▸ List.mem_append_left _ c.loc))) (fun q => hb (q ▸ List.mem_cons_self ..)) e⟩
  cases d <;> first | exact rr | (unfold Rd at rr; exact rr.elim)
 ·intro y a hy
  by_cases q : y = x
  ·simp [q] at hy
  ·simp only [q, if_false] at hy; exact hW y a hy
 ·intro y cc h1 h2
  obtain ⟨q, u, z⟩ := c.cel y cc h1 h2
  exact ⟨q, u, cellUp cc _ z⟩
 ·intro y hy
  obtain ⟨o, ho, no⟩ := c.nt y hy
  by_cases hl : y = env.locals
  ·subst hl; exact .dict hn'
  ·exact ⟨o, upS y o (NT.notTab ⟨o, ho, no⟩ c.cx.ti) hl ho, no⟩
end
end Mine
namespace Mine
open PySem PySem.Calls PyProof.Rows PySem.W
section
variable {G : Gd} {k n : Nat} {cf : Cf} {A : Around} {X Xc Y : List Addr} {s : Shared} {env : Env} {K : Kn} {ρ : Rho}
def els2 (cf : Cf) (n : Nat) (K : Kn) (ρ : Rho) (csc : Scope) (x y : Str) (elt i2 : Expr) (d : D) : Option (List D) := match evD cf n (relK csc.names K) ((x, d) :: ρ.filter fun q => freeIn csc.names q.1) i2 with
 | some d2 => (match itemsD d2 with
  | some es => catD (mapD fun e => evD cf n (relK csc.names K) ((y, e) :: (x, d) :: ρ.filter fun q => freeIn csc.names q.1) elt) es
  | none => none)
 | none => none
set_option maxHeartbeats 1000000 in
theorem comp2_core (ok : CfOk G cf k) (c : Cxt G k A X s env K ρ) {s₂ : Shared} {h₀ : Heap} {I : Addr} {fp wr : List Addr} {ds all : List D} {elt i1 i2 : Expr} {x y : Str} {px py : Pos} {csc : Scope} {cl : List (Str × Addr)} {pos : Pos} {E : Value → Shared → Prop} {RR : Value → Addr → Result → Shared → Prop}
  (hg : goodComp csc.names K ρ x = true) (hkind : csc.kind = .function) (hcl : ∀ y, csc.names.lookup y = some .free → cl.lookup y = env.cells.lookup y) (hy : csc.names.lookup y = some .local) (hxy : x ≠ y)
  (hc : catD (els2 cf n K ρ csc x y elt i2) ds = some all) (hlen : all.length ≤ 1000) (g : Gr G s s₂) (hX : XOk G X h₀) (k0 : ∀ b o, b ∉ G.T → s.heap.get? b = some o → h₀.get? b = some o) (k2 : ∀ b o, h₀.get? b = some o → s₂.heap.get? b = some o)
  (S : Src G A X h₀ s₂.heap I fp wr ds)
  (hRR : ∀ D C s' m' ys n, s.heap.get? D = none → s.heap.get? C = none → D ≠ C → Gr G s s' → s'.heap.Ns C m' → s'.heap.get? D = some (lstObj ys n) → RdL G.C (C :: D :: X) s'.heap all ys → RR (.ref D) C (.ok .next) s') :
  wpAny (model G.prog G.w) A (newList []) (fun acc s₃ => wpAny (model G.prog G.w) A (newFunctionEnv csc env.globals cl [] env.qual none .none (some env)) (fun cenv s₄ =>
   codeAny (model G.prog G.w) A (.compStart (.ListComp elt [⟨.Name x px, i1, [], 0⟩, ⟨.Name y py, i2, [], 0⟩] csc pos) 0 (.ref I) acc { cenv with scope := relabel csc env }) (RR acc cenv.locals) s₄) E s₃) E s₂ := by
 obtain ⟨hcell, _, hx, _⟩ := zN hg
 have ti := c.cx.ti
 refine wpAny_newObj_type (wpAny_newFunctionEnv hcell (by intro y hy; simp at hy) (fun h₁ hns₁ hsb₁ => ?_) hkind)
 dsimp only at hns₁ hsb₁ ⊢
 generalize hH2 : s₂.heap.push { cls := .type "list", dict := none, data := .seq ([] : List Value).toArray } = H2 at hns₁ hsb₁ ⊢
 have hC : H2.objs.size = s₂.heap.objs.size + 1 := by rw [← hH2, Heap.size_push]
 have hDC : s₂.heap.objs.size ≠ H2.objs.size := by rw [hC]; exact Nat.ne_of_lt (Nat.lt_succ_self _)
 have below : ∀ b, b < s₂.heap.objs.size → b ≠ H2.objs.size ∧ b ≠ s₂.heap.objs.size := fun b hb => ⟨by rw [hC]; exact Nat.ne_of_lt (Nat.lt_succ_of_lt hb), Nat.ne_of_lt hb⟩
 have old : ∀ b o, s₂.heap.get? b = some o → h₁.get? b = some o := fun b o e => hsb₁.extBut b o (below b (Heap.lt_size e)).1 (Heap.get?_push_of_some _ (hH2 ▸ Heap.get?_push_of_some _ e))
 have hacc : h₁.get? s₂.heap.objs.size = some (lstObj [] 0) := hsb₁.extBut _ _ hDC (Heap.get?_push_of_some _ (hH2 ▸ Heap.get?_push_size _ rfl))
 have freshS : ∀ a, s₂.heap.objs.size ≤ a → h₀.get? a = none ∧ (a ∉ G.T → s.heap.get? a = none) := fun a ha => by
  have h2 : s₂.heap.get? a = none := zF ha
  have h0 : h₀.get? a = none := by
   cases q : h₀.get? a with
   | none => rfl
   | some o => rw [k2 a o q] at h2; cases h2
  refine ⟨h0, fun hT => ?_⟩
  cases q : s.heap.get? a with
  | none => rfl
  | some o => rw [k0 a o hT q] at h0; cases h0
 have ti₂ : G.TI s₂.heap := g.ti ti
 have notT : ∀ a, s₂.heap.objs.size ≤ a → a ∉ G.T := fun a ha hT => by
  obtain ⟨vs, e⟩ := G.tabs _ ti₂ a hT
  rw [zF ha] at e; cases e
 obtain ⟨St, P, W, hst, hwr, hfp, hlt, hNT, hrd⟩ := S
 have hst₁ : St 0 h₁ := W.frame _ _ _ hst fun b _ o e => old b o e
 have fC := freshS H2.objs.size (by rw [hC]; exact Nat.le_succ _)
 have fD := freshS s₂.heap.objs.size (Nat.le_refl _)
 have nC := notT H2.objs.size (by rw [hC]; exact Nat.le_succ _)
 have nD := notT s₂.heap.objs.size (Nat.le_refl _)
 have hfD : ∀ b, (b = s₂.heap.objs.size ∨ b = H2.objs.size) → b ∉ fp := fun b hb hm => by
  have := below b (hlt b hm)
  rcases hb with rfl | rfl
  ·exact this.2 rfl
  ·exact this.1 rfl
 have wS : ∀ b ∈ wr, s.heap.get? b = none ∧ b ∉ G.T := fun b hb => by
  have hT := (hfp b (W.sub b hb)).2
  refine ⟨?_, hT⟩
  cases q : s.heap.get? b with
  | none => rfl
  | some o => have := k0 b o hT q; rw [hwr b hb] at this; cases this
 generalize hD0 : s₂.heap.objs.size = Dd at *
 generalize hC0 : H2.objs.size = C at *
 have hs4 : ∀ s₄ : Shared, s₄ = { s₂ with heap := h₁, toks := s₂.toks + ([] : List (Str × Value)).length } → codeAny (model G.prog G.w) A (.compLoop (.ListComp elt [⟨.Name x px, i1, [], 0⟩, ⟨.Name y py, i2, [], 0⟩] csc pos) 0 (.ref I) (.ref Dd) (compEnvC csc cl C env)) (RR (.ref Dd) C) s₄ := by
  rintro s₄ rfl
  generalize hs4 : ({ s₂ with heap := h₁, toks := s₂.toks + ([] : List (Str × Value)).length } : Shared) = s₄
  have e4 : s₄.heap = h₁ := by rw [← hs4]
  have gs : Gr G s s₄ := by rw [← hs4]; exact g.trans (Gr.of old)
  rw [← e4] at hst₁ hacc hns₁ old
  have Xf : ∀ a ∈ (C :: Dd :: (wr ++ X)), a ∈ X ∨ s.heap.get? a = none := fun a ha => by
   simp only [List.mem_cons, List.mem_append] at ha
   rcases ha with rfl | rfl | ha | ha
   ·exact .inr (fC.2 nC)
   ·exact .inr (fD.2 nD)
   ·exact .inr (wS a ha).1
   ·exact .inl ha
  have toGr : ∀ s', GrB G (C :: Dd :: wr) s₄ s' → Gr G s s' := fun s' gb =>
   ⟨fun b o hb e => gb.heap b o hb (fun q => by
    simp only [List.mem_cons] at q
    rcases q with rfl | rfl | q
    ·rw [fC.2 nC] at e; cases e
    ·rw [fD.2 nD] at e; cases e
    ·rw [(wS b q).1] at e; cases e) (gs.heap b o hb e), fun t => gb.ti (gs.ti t), gb.os.trans gs.os, fun t => gb.bare (gs.bare t)⟩
  have xok4 : XOk G (C :: Dd :: (wr ++ X)) s₄.heap := by
   refine ⟨fun a ha => by simp [hX.tabs a ha], fun a ha => ?_⟩
   simp only [List.mem_cons, List.mem_append] at ha
   rcases ha with rfl | rfl | ha | ha
   ·obtain ⟨o, _, _, ho, _⟩ := hns₁; exact ⟨o, ho⟩
   ·exact ⟨_, hacc⟩
   ·obtain ⟨o, ho, _⟩ := hNT 0 _ hst₁ a ha; exact ⟨o, ho⟩
   ·obtain ⟨o, ho⟩ := hX.live a ha
    exact ⟨o, old _ _ (k2 _ _ ho)⟩
  refine lvl_loop (env := compEnvC csc cl C env) (Xf := C :: Dd :: (wr ++ X)) (ds := ds) (pre0 := []) (all := all) (x := x) (body2 elt i1 i2 x y px py csc pos (.ref Dd) (compEnvC csc cl C env)) (fun _ => True) (els2 cf n K ρ csc x y elt i2) (compTurn_two0 _ _ _ _ _ _ _ _ _ _ _ _) W hst₁ hNT (fun b hb => (hfp b hb).2) (hfD _ (.inr rfl)) (hfD _ (.inl rfl)) hDC (by simp [compEnvC]) (by simp) (fun b hb => by simp [hb]) xok4 (gs.ti ti) (lookup_relabel_local hx) (by simp [compEnvC, relabel, hkind]) ?_ hns₁ trivial (fun _ _ _ => trivial) hacc .nil hc ?_ ?_
  ·intro i v hi hPv
   obtain ⟨d, h1, h2⟩ := hrd i v hi hPv
   refine ⟨d, h1, fun s' gb => h2.imp fun b o hb e => ?_⟩
   have nb : b ∉ C :: Dd :: wr := fun q => by
    simp only [List.mem_cons] at q
    rcases q with rfl | rfl | q
    ·rw [fC.1] at e; cases e
    ·rw [fD.1] at e; cases e
    ·rw [hwr b q] at e; cases e
   refine ⟨fun q => ?_, gb.heap b o (fun q => hb (hX.tabs b q)) nb (old _ _ (k2 _ _ e))⟩
   simp only [List.mem_cons, List.mem_append] at q nb
   rcases q with q | q | q | q
   ·exact nb (.inl q)
   ·exact nb (.inr (.inl q))
   ·exact nb (.inr (.inr q))
   ·exact hb q
  ·intro i d v s₆ m₆ pre ys n6 qs E' hd hqs gb ti6 ok6 hn6 hm6 _ hr6 hacc6 hl6 hlen6
   unfold els2 at hqs
   split at hqs
   ·rename_i d2 hd2
    split at hqs
    ·rename_i es hes
     refine wpAny_mono (inner_lvl ok c (C := C) (Dd := Dd) (Xi := C :: Dd :: (wr ++ X)) hg hkind hcl hy hxy (fun a ha => by simp [ha]) Xf (fC.2 nC) (fD.2 nD) (by simp) (by simp) hDC (toGr _ gb) ti6 ok6 hn6 hm6 hr6 hd2 hes hqs hacc6 hl6 (Nat.le_trans hlen6 (by simpa using hlen))) (fun _ s₇ h7 => ?_) fun _ _ e => e
     obtain ⟨m7, ys7, n7, g7, a7, b7, c7, d7⟩ := h7
     exact ⟨m7, ys7, n7, g7, a7, trivial, c7, d7⟩
    ·cases hqs
   ·cases hqs
  ·intro s' m' ys n' gb hn _ hg' hl
   exact hRR _ _ s' m' ys n' (fD.2 nD) (fC.2 nC) hDC (toGr _ gb) hn hg' (hl.less fun b hb => by
    simp only [List.mem_cons] at hb
    simp only [List.mem_cons, List.mem_append]
    rcases hb with hb | hb | hb
    ·exact .inl hb
    ·exact .inr (.inl hb)
    ·exact .inr (.inr (.inr hb)))
 exact codeAny_compStart_list (hs4 _ rfl) (W.self 0 _ _ _ hst₁ (hs4 _ rfl))
end
end Mine
namespace Mine
open PySem PySem.Calls PyProof.Rows PySem.W
section
variable {G : Gd} {k n : Nat} {cf : Cf} {A : Around} {X Xc Y : List Addr} {s : Shared} {env : Env} {K : Kn} {ρ : Rho}
theorem src_ev (c : Cxt G k A X s env K ρ) {iter : Expr} {d : D} {ds : List D} (hi : Ev G A X s (eval iter env) d) (hd : itemsD d = some ds) {E : Value → Shared → Prop} {Q : Value → Shared → Prop}
  (hq : ∀ (s₁ s₂ : Shared) I fp wr, Gr G s s₂ → XOk G X s₁.heap → (∀ b o, b ∉ G.T → s.heap.get? b = some o → s₁.heap.get? b = some o) → (∀ b o, s₁.heap.get? b = some o → s₂.heap.get? b = some o) → Src G A X s₁.heap s₂.heap I fp wr ds → Q (.ref I) s₂) :
  wpAny (model G.prog G.w) A (eval iter env) (fun xv s₁ => wpAny (model G.prog G.w) A (pyIter xv) Q E s₁) E s := by
 refine hi.post fun v s₁ g₁ r => ?_
 have c₁ := c.gr g₁
 refine wpAny_mono (itemsD_ok c₁.room.hh c₁.xok c₁.cx.ti (r.rd' (fun l q => by subst q; cases hd)) hd E) (fun it s₂ h₂ => ?_) fun _ _ e => e
 obtain ⟨I', fp, wr, rfl, g₂, up, S⟩ := h₂
 exact hq s₁ s₂ I' fp wr (g₁.trans g₂) c₁.xok g₁.heap up S
theorem comp2_ev (ok : CfOk G cf k) (c : Cxt G k A X s env K ρ) {ds all : List D} {elt i1 i2 : Expr} {x y : Str} {px py : Pos} {csc : Scope} {pos : Pos} {d1 : D}
  (hg : goodComp csc.names K ρ x = true) (hkind : csc.kind = .function) (hy : csc.names.lookup y = some .local) (hxy : x ≠ y) (hi : evD cf n K ρ i1 = some d1) (hd : itemsD d1 = some ds)
  (hc : catD (els2 cf n K ρ csc x y elt i2) ds = some all) (hlen : all.length ≤ 1000) : Ev G A X s (eval (.ListComp elt [⟨.Name x px, i1, [], 0⟩, ⟨.Name y py, i2, [], 0⟩] csc pos) env) (.lst all) := by
 intro E
 obtain ⟨h1, h2, h3, h4⟩ := zN hg
 obtain ⟨cl, hcl, hlk⟩ := comp_closure csc c.env hg
 rw [eval_ListComp]
 refine wpAny_comprehension_free (use := none) rfl (zK hi env) hcl hkind h2 (src_ev c ((sound ok n).ev _ _ _ _ hi A X s env c) hd fun s₁ s₂ I fp wr g hX k0 k2 S => ?_)
 refine comp2_core (RR := fun acc C => compPost (model G.prog G.w) A E none (fun v s' => Gr G s s' ∧ Rv G.C X s'.heap (.lst all) v) acc C) ok c hg hkind hlk hy hxy hc hlen g hX k0 k2 S ?_
 intro D C s' m' ys n hD hC hDC gs hn hgt hl
 have nD : D ∉ X := c.xok.none hD
 have gr : ∀ h', Heap.SameBut C s'.heap h' → Gr G s { s' with heap := h' } := fun h' hs' =>
  ⟨fun b o hb e => (hs'.2 b (fun q => by rw [q, hC] at e; cases e)).trans (gs.heap b o hb e), fun t => G.frame _ _ (gs.ti t) fun b o tk e => (hs'.2 b (fun q => by
   obtain ⟨oC, e1, e2⟩ := NT.dict hn
   rw [q, e1] at e; cases e
   exact e2 tk)).trans e, gs.os, gs.bare⟩
 refine ⟨m', hn, fun h' hs' => ⟨gr h' hs', Rd.rv (Rd.lst' nD ((hs'.2 D hDC).trans hgt) ?_)⟩⟩
 exact hl.imp fun b o hb e => ⟨fun q => hb (by simp [q]), (hs'.2 b (fun q => hb (by simp [q]))).trans e⟩
theorem swaps_local {z : Str} {pz : Pos} {e : Expr} {gs : List Comprehension} {cs : Scope} {p : Pos} {l : Nat} {env : Env} (h : K.lookup z = some .local) (ek : EnvK env K) (hl : (pz.line == p.line && !(cs.names.any fun q => q.1 == z && (q.2 == .local || q.2 == .cell))) = true) : swapsWith (.ListComp e gs cs p) (some (.Name z pz)) l env = pure true := by
 have hk : env.kindOf z = some .local := by unfold Env.kindOf; rw [ek.names]; exact h
 have hb : env.blockKind = .function := by unfold Env.blockKind; rw [ek.kind]; rfl
 unfold swapsWith
 simp only [hk, hb]
 show pure _ = pure true
 congr 1
theorem lstC {A : Around} {Xc Y : List Addr} {s s' : Shared} {env : Env} (c : StC G k A Xc Y s env K ρ) {Dd C : Addr} {ys : List Value} {n : Nat} {all : List D} (hD : s.heap.get? Dd = none) (hDC : Dd ≠ C) (gs : Gr G s s') (hgt : s'.heap.get? Dd = some (lstObj ys n)) (hl : RdL G.C (C :: Dd :: (Y ++ Xc)) s'.heap all ys) :
  Rd G.C (C :: (Y ++ Xc)) s'.heap (.lst all) (.ref Dd) := by
 refine Rd.lst' (fun q => ?_) hgt ?_
 ·rcases List.mem_cons.mp q with q | q
  ·exact hDC q
  ·exact c.xok.none hD q
 ·exact hl.imp fun b o hb e => ⟨fun q => hb (by rcases List.mem_cons.mp q with q | q <;> simp [q]), e⟩
theorem loc_comp (ok : CfOk G cf k) {A : Around} {Xc Y : List Addr} {s : Shared} {env : Env} (c : StC G k A Xc Y s env K ρ) {z x : Str} {pz px pos spos : Pos} {elt iter : Expr} {ifs : List Expr} {csc : Scope} {d : D} {ds ys : List D} (hz : K.lookup z = some .local) (hl : (pz.line == pos.line && !(csc.names.any fun q => q.1 == z && (q.2 == .local || q.2 == .cell))) = true)
  (hg : goodComp csc.names K ρ x = true) (hk : csc.kind = .function) (hi : Ev G A (Y ++ Xc) s (eval iter env) d) (hfold : ∀ v, foldedSetIterable iter env v = pure v) (hd : itemsD d = some ds)
  (hc : compD (fun d => tsL cf n (relK csc.names K) ((x, d) :: ρ.filter fun q => freeIn csc.names q.1) ifs) (fun d => evD cf n (relK csc.names K) ((x, d) :: ρ.filter fun q => freeIn csc.names q.1) elt) ds = some ys) :
  ∀ E, wpAny (model G.prog G.w) A (exec (.Assign [.Name z pz] (.ListComp elt [⟨.Name x px, iter, ifs, 0⟩] csc pos) spos) env) (PostX G k A Xc env K Y s (.next (stD ρ z (.lst ys)))) E s := by
 intro E
 obtain ⟨h1, h2, h3, h4⟩ := zN hg
 obtain ⟨cl, hcl, hlk⟩ := comp_closure csc c.cxt.env hg
 rw [exec_Assign_Name_used _ _ _ _ (swaps_local hz c.cxt.env.k hl)]
 refine wpAny_bind (wpAny_standAt (wpAny_bind ?_))
 show wpAny _ A (do let _ ← comprehension (.ListComp elt [⟨.Name x px, iter, ifs, 0⟩] csc pos) csc env _ (newList []) false (eval iter env) (some (assign (.Name z pz) env))) _ _ s
 refine wpAny_bind (wpAny_mono (wpAny_comprehension_free (use := some (assign (.Name z pz) env)) (Q := fun _ s' => PostX G k A Xc env K Y s (.next (stD ρ z (.lst ys))) .next s') rfl hfold hcl hk h2
  (src_ev c.cxt hi hd fun s₁ s₂ I fp wr g hX k0 k2 S => ?_)) (fun _ s' hq => wpAny_pure (wpAny_pure hq)) fun _ _ e => e)
 refine comp_core (RR := fun acc C => compPost (model G.prog G.w) A E (some (assign (.Name z pz) env)) (fun _ s' => PostX G k A Xc env K Y s (.next (stD ρ z (.lst ys))) .next s') acc C) _ _ hc c.cx.ti g hX k0 k2 S h1 hk h3 ?_ ?_ (itemsD_len hd) ?_
 ·intro C Xi d' v s₃ m₃ b E' hC hXs hXi ht g ti hX hn hm hr
  exact (sound ok n).tl _ _ _ _ ht A Xi s₃ _ (comp_cxt c.cxt hg hk hlk hXs hXi g ti hX hn hm hr) E'
 ·intro C Xi d' v s₃ m₃ y E' hC hXs hXi ht hy g ti hX hn hm hr
  exact (sound ok n).ev _ _ _ _ hy A Xi s₃ _ (comp_cxt c.cxt hg hk hlk hXs hXi g ti hX hn hm hr) E'
 ·intro D C s' m' ys n hD hC hDC gs hn hgt hl
  show wpAny _ A (assign (.Name z pz) env (.ref D)) _ _ _
  exact wpAny_assign_Name (store_comp c gs hz hC hn (lstC c hD hDC gs hgt hl) (u := .none) (Q := fun _ s' => PostX G k A Xc env K Y s (.next _) .next s') fun s₂ t c₂ => ⟨Y, t, rfl, c₂⟩)
theorem x_locComp1 (ok : CfOk G cf k) {z x : Str} {pz px pos spos : Pos} {elt iter : Expr} {ifs : List Expr} {csc : Scope} {d : D} {ds ys : List D} (hz : K.lookup z = some .local) (hl : (pz.line == pos.line && !(csc.names.any fun q => q.1 == z && (q.2 == .local || q.2 == .cell))) = true)
  (hg : goodComp csc.names K ρ x = true) (hk : csc.kind = .function) (hi : evD cf n K ρ iter = some d) (hd : itemsD d = some ds)
  (hc : compD (fun d => tsL cf n (relK csc.names K) ((x, d) :: ρ.filter fun q => freeIn csc.names q.1) ifs) (fun d => evD cf n (relK csc.names K) ((x, d) :: ρ.filter fun q => freeIn csc.names q.1) elt) ds = some ys) :
  ExS G k K ρ (.Assign [.Name z pz] (.ListComp elt [⟨.Name x px, iter, ifs, 0⟩] csc pos) spos) (.next (stD ρ z (.lst ys))) :=
 fun A Xc Y s env c => loc_comp ok c hz hl hg hk ((sound ok n).ev _ _ _ _ hi A _ s env c.cxt) (zK hi env) hd hc
theorem x_locComp2 (ok : CfOk G cf k) {z x y : Str} {pz px py pos spos : Pos} {elt i1 i2 : Expr} {csc : Scope} {d1 : D} {ds all : List D} (hz : K.lookup z = some .local) (hl : (pz.line == pos.line && !(csc.names.any fun q => q.1 == z && (q.2 == .local || q.2 == .cell))) = true)
  (hg : goodComp csc.names K ρ x = true) (hk : csc.kind = .function) (hy : csc.names.lookup y = some .local) (hxy : x ≠ y) (hi : evD cf n K ρ i1 = some d1) (hd : itemsD d1 = some ds)
  (hc : catD (els2 cf n K ρ csc x y elt i2) ds = some all) (hlen : all.length ≤ 1000) :
  ExS G k K ρ (.Assign [.Name z pz] (.ListComp elt [⟨.Name x px, i1, [], 0⟩, ⟨.Name y py, i2, [], 0⟩] csc pos) spos) (.next (stD ρ z (.lst all))) := by
 intro A Xc Y s env c E
 obtain ⟨h1, h2, h3, h4⟩ := zN hg
 obtain ⟨cl, hcl, hlk⟩ := comp_closure csc c.cxt.env hg
 rw [exec_Assign_Name_used _ _ _ _ (swaps_local hz c.cxt.env.k hl)]
 refine wpAny_bind (wpAny_standAt (wpAny_bind ?_))
 show wpAny _ A (do let _ ← comprehension (.ListComp elt [⟨.Name x px, i1, [], 0⟩, ⟨.Name y py, i2, [], 0⟩] csc pos) csc env _ (newList []) false (eval i1 env) (some (assign (.Name z pz) env))) _ _ s
 refine wpAny_bind (wpAny_mono (wpAny_comprehension_free (use := some (assign (.Name z pz) env)) (Q := fun _ s' => PostX G k A Xc env K Y s (.next (stD ρ z (.lst all))) .next s') rfl (zK hi env) hcl hk h2
  (src_ev c.cxt ((sound ok n).ev _ _ _ _ hi A _ s env c.cxt) hd fun s₁ s₂ I fp wr g hX k0 k2 S => ?_)) (fun _ s' hq => wpAny_pure (wpAny_pure hq)) fun _ _ e => e)
 refine comp2_core (RR := fun acc C => compPost (model G.prog G.w) A E (some (assign (.Name z pz) env)) (fun _ s' => PostX G k A Xc env K Y s (.next (stD ρ z (.lst all))) .next s') acc C) ok c.cxt hg hk hlk hy hxy hc hlen g hX k0 k2 S ?_
 intro D C s' m' ys n hD hC hDC gs hn hgt hl
 show wpAny _ A (assign (.Name z pz) env (.ref D)) _ _ _
 exact wpAny_assign_Name (store_comp c gs hz hC hn (lstC c hD hDC gs hgt hl) (u := .none) (Q := fun _ s' => PostX G k A Xc env K Y s (.next _) .next s') fun s₂ t c₂ => ⟨Y, t, rfl, c₂⟩)
end
end Mine
namespace Mine
open PySem PySem.Calls PyProof.Rows PySem.W
def tagN : Nm → Option Str
 | none => none
 | some (a, b) => some (tagS a b)
def nodeOf (t : List (Int × Nm)) (i : Nat) : Nd := ((i : Int), tagN (t[i]?.getD (0, none)).2)
def rowN (t : List (Int × Nm)) (r : List Nat) : D := .lst ((r.map (nodeOf t)).map ndD)
def nodesD (t : List (Int × Nm)) : D := rowN t (List.range t.length)
abbrev kLam : Kn := [("row", .local), ("path", .local), ("nodes", .free), ("tree", .free), ("list", .globalImplicit), ("_prepare_tag", .globalImplicit)]
abbrev kIn : Kn := [(".0", .local), ("node", .local), ("k", .local), ("_law_below", .globalImplicit), ("nodes", .free), ("tree", .free)]
abbrev rhoL (t : List (Int × Nm)) (r : List Nat) (p : Str) : Rho := [("row", rowN t r), ("path", .str p), ("nodes", nodesD t), ("tree", treeD t)]
theorem belowL_lt {t : List (Int × Nm)} {n : Int} {j : Nat} (h : j ∈ zP t n) : j < t.length ∧ 0 < j := by
 unfold zP at h
 simp only [List.mem_map, List.mem_filter, List.mem_range] at h
 obtain ⟨i, ⟨h1, _⟩, rfl⟩ := h
 omega
theorem catD_flat {α β : Type} {els : D → Option (List D)} {g : α → D} {h : α → List β} {q : β → D} : ∀ (l : List α), (∀ a ∈ l, els (g a) = some ((h a).map q)) → catD els (l.map g) = some ((l.flatMap h).map q)
 | [], _ => rfl
 | a :: l, H => by
  rw [List.map_cons, catD, H a (.head _)]
  dsimp only
  rw [catD_flat l fun b hb => H b (.tail _ hb)]
  simp
theorem catD_map {α : Type} {f : D → Option D} {g q : α → D} (l : List α) (H : ∀ a ∈ l, f (g a) = some (q a) ∧ (q a).pure = true) : catD (mapD f) (l.map g) = some (l.map q) := by
 have := catD_flat (els := mapD f) (g := g) (h := fun a => [a]) (q := q) l fun a ha => by
  unfold mapD; rw [(H a ha).1]; dsimp only; rw [(H a ha).2]; rfl
 simpa using this
theorem map_map_nd (t : List (Int × Nm)) (r : List Nat) : (r.map (nodeOf t)).map ndD = r.map fun i => ndD (nodeOf t i) := List.map_map
theorem els_down {cf : Cf} {t : List (Int × Nm)} (hB : ∀ i : Int, cf.Φ 125 [treeD t, .int i] = some (.lst ((zP t i).map fun (k : Nat) => .int (k : Int)))) (hG : cf.Γ "_law_below" = some (.opq 125)) {csc : Scope} (hn : csc.names = kIn) (ht : t.length ≤ 100) {r : List Nat} {p : Str} (i : Nat) {p1 p2 p3 p4 p5 p6 p7 p8 : Pos} :
  els2 cf 8 kLam (rhoL t r p) csc "node" "k" (.Subscript (.Name "nodes" p1) (.Name "k" p2) p3) (.Call (.Name "_law_below" p4) [.Name "tree" p5, .Attribute (.Name "node" p6) "root" p7] [] p8) (ndD (nodeOf t i)) = some ((zP t i).map fun j => ndD (nodeOf t j)) := by
 have bd : bigD = 1000000 := rfl
 have hf : (rhoL t r p).filter (fun q => freeIn csc.names q.1) = ([("nodes", nodesD t), ("tree", treeD t)] : Rho) := by rw [hn]; rfl
 have hk : relK csc.names kLam = kIn := by rw [hn]; rfl
 have hlen : (zP t i).length ≤ 100 := by
  unfold zP
  rw [List.length_map]
  refine Nat.le_trans (List.length_filter_le _ _) ?_
  rw [List.length_range]; omega
 have e2 : evD cf 8 kIn [("node", ndD (nodeOf t i)), ("nodes", nodesD t), ("tree", treeD t)] (.Call (.Name "_law_below" p4) [.Name "tree" p5, .Attribute (.Name "node" p6) "root" p7] [] p8) = some (.lst ((zP t i).map fun (k : Nat) => .int (k : Int))) := by
  refine zE (n := 7) rfl (zB (n := 6) (by decide) rfl (by decide) hG) (zC (n := 6) (zA (n := 5) (by decide) rfl rfl) (zC (n := 5) (d := .int i) ?_ zD)) rfl (hB i)
  have : evD cf 4 kIn [("node", ndD (nodeOf t i)), ("nodes", nodesD t), ("tree", treeD t)] (.Name "node" p6) = some (ndD (nodeOf t i)) := zA (n := 3) (by decide) rfl rfl
  rw [q_root, this]
  rfl
 unfold els2
 rw [hf, hk, e2]
 dsimp only
 rw [items_lst (by rw [List.length_map]; omega)]
 dsimp only
 refine catD_map _ fun j hj => ⟨?_, rfl⟩
 have hjl := (belowL_lt hj).1
 rw [q_sub_name]
 have e3 : evD cf 7 kIn [("k", .int (j : Int)), ("node", ndD (nodeOf t i)), ("nodes", nodesD t), ("tree", treeD t)] (.Name "nodes" p1) = some (nodesD t) := zA (n := 6) (by decide) rfl rfl
 have e4 : evD cf 7 kIn [("k", .int (j : Int)), ("node", ndD (nodeOf t i)), ("nodes", nodesD t), ("tree", treeD t)] (.Name "k" p2) = some (.int (j : Int)) := zA (n := 6) (by decide) rfl rfl
 rw [e3, e4]
 dsimp only
 unfold nodesD rowN
 rw [idx_lst (by simpa using hjl) (by simp; omega)]
 simp
def nextRow (t : List (Int × Nm)) (keep : Option Str → Bool) (r : List Nat) : List Nat := (r.flatMap fun (i : Nat) => zP t i).filter fun j => keep (nodeOf t j).2
structure IsDown (params : Arguments) (scope : Scope) (body : Expr) : Prop where
 names : scope.names = kLam
 kind : scope.kind = .function
 co : scope.isCoroutine = false
 gen : scope.isGenerator = false
 bind : ∀ qual clos pm cv ctv a b, bindArgs (kla_fn "<lambda>" qual params body scope clos pm cv ctv) ⟨[a, b], []⟩ = pure [(("row" : Str), a), (("path" : Str), b)]
 shape : ∃ a1 a2 a3 a4 a5 a6 a7 p1 p2 p3 p4 p5 p6 p7 p8 px py p9 cpos csc, body = .Call (.Name "list" a1) [.Call (.Call (.Name "_prepare_tag" a2) [.Name "path" a3] [] a4) [.Constant .none 0 a5, .ListComp (.Subscript (.Name "nodes" p1) (.Name "k" p2) p3) [⟨.Name "node" px, .Name "row" p9, [], 0⟩, ⟨.Name "k" py, .Call (.Name "_law_below" p4) [.Name "tree" p5, .Attribute (.Name "node" p6) "root" p7] [] p8, [], 0⟩] csc cpos] [] a6] [] a7 ∧ csc.names = kIn ∧ csc.kind = .function
section
variable {G : Gd} {k : Nat} {cf : Cf} {A : Around} {X : List Addr} {s : Shared} {env : Env} {Kf : Frag} {C fI P : Addr} {t : List (Int × Nm)} {r : List Nat} {p : Str} {keep : Option Str → Bool}
set_option maxHeartbeats 1000000 in
theorem down_body (PC : PrepCf G k cf Kf C fI P) (hC : G.C = C) {o : Obj} {fd : FuncData} (fr : FnRec G 38 o fd (pBody 2) (pNames 2) ["tag"]) (hB : ∀ i : Int, cf.Φ 125 [treeD t, .int i] = some (.lst ((zP t i).map fun (k : Nat) => .int (k : Int)))) (hG : cf.Γ "_law_below" = some (.opq 125)) (hL : cf.Γ "list" = some (.typ "list")) (hP : cf.Γ "_prepare_tag" = some (.opq 38)) (ht : t.length ≤ 100)
  (hw : ∀ i y, (nodeOf t i).2 = some y → 1 ≤ y.length ∧ y.length ≤ 1000) (hk : keepOf p = some keep) (hp : p.length ≤ 1000) (hr : r.length ≤ 1000) (hlen : (r.flatMap fun (i : Nat) => zP t i).length ≤ 1000)
  {params : Arguments} {scope : Scope} {body : Expr} (ID : IsDown params scope body) (c : Cxt G (k + 1) A X s env kLam (rhoL t r p)) : Ev G A X s (eval body env) (rowN t (nextRow t keep r)) := by
 intro E
 obtain ⟨a1, a2, a3, a4, a5, a6, a7, p1, p2, p3, p4, p5, p6, p7, p8, px, py, p9, cpos, csc, rfl, hn, hkd⟩ := ID.shape
 have ok1 := PC.ok.le (Nat.le_succ k)
 refine PyProof.Rows.Call_ (((sound ok1 1).ev _ _ _ _ (zB (n := 0) (by decide) rfl (by decide) hL) A X s env c).post fun fv s₁ g₁ r₁ => ?_)
 have := r₁.typ; subst this
 have c₁ := c.gr g₁
 refine PyProof.Rows.callWith_type1 (args_cons ?_)
 refine PyProof.Rows.Call_ ?_
 refine callN_fun (n := 3) ok1 c₁ (zB (n := 2) (by decide) rfl (by decide) hP) fr.ho fr.hd (zC (n := 2) (zA (n := 1) (by decide) rfl rfl) zD) fun s₂ vs g₂ r₂ => ?_
 obtain - | ⟨rv, r₂⟩ := r₂
 obtain - | _ := r₂
 have c₂ := c₁.gr g₂
 refine wpAny_mono (prep_call PC fr hk hp c₂.room c₂.cx c₂.xok (rv.rd rfl)) (fun u s₃ h₃ => ?_) fun _ _ e => e
 obtain ⟨f, rfl, g₃, R⟩ := h₃
 have c₃ := c₂.gr g₃
 have RR := R
 obtain ⟨qual, params', scope', clos, doc, pm, cv, ctv, pre, test, qx, qr, q1, q2, q3, q4, bpos, pos, d, T, h1, h2, h3, h4, IS, h6⟩ := R
 refine callWith_def (o := fnObj (fnX "select" qual params' (selFn "elem" "result" qx qr pre test q1 q2 q3 q4 bpos) scope' clos .none .none doc pm none cv ctv)) rfl (args_cons ?_)
 refine ((sound ok1 1).ev _ _ _ _ (evD_none (n := 0)) A X s₃ env c₃).post fun nv s₄ g₄ r₄ => ?_
 have r4n : nv = .none := by have q := r₄.rd rfl; unfold Rd at q; exact q
 subst r4n
 have c₄ := c₃.gr g₄
 have hk1 : relK csc.names kLam = kIn := by rw [hn]; rfl
 have hgc : goodComp csc.names kLam (rhoL t r p) ("node" : Str) = true := by rw [hn]; rfl
 have hx1 : csc.names.lookup ("k" : Str) = some .local := by rw [hn]; decide
 have bd : bigD = 1000000 := rfl
 have hrow : evD cf 8 kLam (rhoL t r p) (.Name "row" p9) = some (rowN t r) := zA (n := 7) (by decide) rfl rfl
 have hit : itemsD (rowN t r) = some (r.map fun i => ndD (nodeOf t i)) := by unfold rowN; rw [items_lst (by simp; omega), map_map_nd]
 have hcat := catD_flat (els := els2 cf 8 kLam (rhoL t r p) csc "node" "k" (.Subscript (.Name "nodes" p1) (.Name "k" p2) p3) (.Call (.Name "_law_below" p4) [.Name "tree" p5, .Attribute (.Name "node" p6) "root" p7] [] p8)) (g := fun i => ndD (nodeOf t i)) (h := fun (i : Nat) => zP t i) (q := fun j => ndD (nodeOf t j)) r fun i _ => els_down hB hG hn ht i
 refine args_cons ?_
 refine (comp2_ev (px := px) (py := py) (pos := cpos) ok1 c₄ hgc hkd hx1 (by decide) hrow hit hcat (by rw [List.length_map]; exact hlen)).post fun lv s₅ g₅ r₅ => ?_
 have c₅ := c₄.gr g₅
 have g35 := g₄.trans g₅
 refine args_nil ⟨g35.heap _ _ h1 h2, ?_⟩
 have rl : Rd G.C X s₅.heap (.lst (((r.flatMap fun (i : Nat) => zP t i).map (nodeOf t)).map ndD)) lv := by rw [map_map_nd]; exact r₅.rd rfl
 have rm := c.room
 refine sel_use hC (RR.gr c₃.cx.ti g35) rm.hh (by have := rm.depth; omega) c₅.cx c₅.xok rl (by rw [List.length_map]; exact hlen) (fun q hq y hy => ?_) fun gv s₆ g₆ cont => ?_
 ·obtain ⟨i, _, rfl⟩ := List.mem_map.mp hq
  exact hw i y hy
 ·refine args_nil (cont rm.hh (by have := rm.depth; omega) fun u s₇ g₇ r₇ => ?_)
  refine ⟨(((((g₁.trans g₂).trans g₃).trans g₄).trans g₅)).trans g₇, Rd.rv ?_⟩
  have e : rowN t (nextRow t keep r) = .lst ((((r.flatMap fun (i : Nat) => zP t i).map (nodeOf t)).filter fun q => keep q.2).map ndD) := by
   unfold rowN nextRow
   rw [List.filter_map]
   rfl
  rw [e]; exact r₇
end
end Mine
namespace Mine
open PySem PySem.Calls PyProof.Rows PySem.W
def DownReady (G : Gd) (X : List Addr) (h : Heap) (f : Addr) (t : List (Int × Nm)) : Prop := ∃ (qual : Str) (params : Arguments) (body : Expr) (scope : Scope) (clos : List (Str × Addr)) (pm cv ctv v1 v2 : Value) (c1 c2 : Addr),
 IsDown params scope body ∧ f ∉ G.T ∧ h.get? f = some (fnObj (kla_fn "<lambda>" qual params body scope clos pm cv ctv)) ∧ h.CodeRec cv qual ∧ (∀ a, cv = .ref a → a ∉ G.T) ∧
 clos.lookup ("nodes" : Str) = some c1 ∧ clos.lookup ("tree" : Str) = some c2 ∧ c1 ∉ G.T ∧ c2 ∉ G.T ∧ h.IsCell c1 (some v1) ∧ h.IsCell c2 (some v2) ∧ Rd G.C X h (nodesD t) v1 ∧ Rd G.C X h (treeD t) v2
section
variable {G : Gd} {k : Nat} {cf : Cf} {A : Around} {X X' : List Addr} {s s' : Shared} {f : Addr} {Kf : Frag} {C fI P : Addr} {t : List (Int × Nm)} {r : List Nat} {p : Str} {keep : Option Str → Bool}
theorem DownReady.gr (R : DownReady G X s.heap f t) (hX : ∀ a ∈ G.T, a ∈ X) (g : Gr G s s') : DownReady G X s'.heap f t := by
 obtain ⟨qual, params, body, scope, clos, pm, cv, ctv, v1, v2, c1, c2, ID, h1, h2, h3, h4, h5, h6, h7, h8, h9, h10, h11, h12⟩ := R
 refine ⟨qual, params, body, scope, clos, pm, cv, ctv, v1, v2, c1, c2, ID, h1, g.heap _ _ h1 h2, ?_, h4, h5, h6, h7, h8, IsCell.at' h9 fun o e => g.heap _ _ h7 e, IsCell.at' h10 fun o e => g.heap _ _ h8 e, h11.gr hX g, h12.gr hX g⟩
 obtain ⟨c, oc, vs, tq, rfl, hoc, r⟩ := h3
 exact ⟨c, oc, vs, tq, rfl, g.heap _ _ (h4 c rfl) hoc, r⟩
theorem DownReady.lift {h : Heap} (R : DownReady G X h f t) (hX : ∀ b ∈ X', b ∈ X ∨ h.get? b = none) : DownReady G X' h f t := by
 obtain ⟨qual, params, body, scope, clos, pm, cv, ctv, v1, v2, c1, c2, ID, h1, h2, h3, h4, h5, h6, h7, h8, h9, h10, h11, h12⟩ := R
 exact ⟨qual, params, body, scope, clos, pm, cv, ctv, v1, v2, c1, c2, ID, h1, h2, h3, h4, h5, h6, h7, h8, h9, h10, h11.lift hX fun b o _ e => e, h12.lift hX fun b o _ e => e⟩
set_option maxHeartbeats 1000000 in
theorem down_call (PC : PrepCf G k cf Kf C fI P) (hC : G.C = C) {o : Obj} {fd : FuncData} (fr : FnRec G 38 o fd (pBody 2) (pNames 2) ["tag"]) (hB : ∀ i : Int, cf.Φ 125 [treeD t, .int i] = some (.lst ((zP t i).map fun (k : Nat) => .int (k : Int)))) (hG : cf.Γ "_law_below" = some (.opq 125)) (hL : cf.Γ "list" = some (.typ "list")) (hP : cf.Γ "_prepare_tag" = some (.opq 38)) (ht : t.length ≤ 100)
  (hw : ∀ i y, (nodeOf t i).2 = some y → 1 ≤ y.length ∧ y.length ≤ 1000) (hk : keepOf p = some keep) (hp : p.length ≤ 1000) (hr : r.length ≤ 1000) (hlen : (r.flatMap fun (i : Nat) => zP t i).length ≤ 1000)
  (R : DownReady G X s.heap f t) (room : Room (k + 2) A) (cx : Cx G s.heap) (xok : XOk G X s.heap) {a b : Value} (ra : Rd G.C X s.heap (rowN t r) a) (rb : Rd G.C X s.heap (.str p) b) {E : Value → Shared → Prop} :
  wpAny (model G.prog G.w) A (call (.ref f) [a, b]) (fun u s' => Gr G s s' ∧ Rd G.C X s'.heap (rowN t (nextRow t keep r)) u) E s := by
 obtain ⟨qual, params, body, scope, clos, pm, cv, ctv, v1, v2, c1, c2, ID, h1, h2, h3, h4, h5, h6, h7, h8, h9, h10, h11, h12⟩ := R
 have hroom : A.depth < recursionLimit := by have := room.depth; omega
 refine wpAny_call (kla_callFunE hroom h2 rfl ID.co ID.gen rfl h3 ?_)
 rw [ID.bind]
 refine wpAny_pure (wpAny_newFunctionEnv (by rw [ID.names]; decide) (fun x hx => ?_) (fun h₁ hns hsb => ⟨(G.nolim.keeps cx.hb).fresh _ hsb, kla_codeExpr ?_⟩) ID.kind)
 ·rw [ID.names]
  simp only [List.mem_cons, List.not_mem_nil, or_false] at hx
  rcases hx with rfl | rfl <;> (dsimp only; decide)
 ·have keepH : ∀ b o, s.heap.get? b = some o → h₁.get? b = some o := fun b o e => hsb.extBut b o (Nat.ne_of_lt (Heap.lt_size e)) (Heap.get?_push_of_some _ e)
  dsimp only at hns ⊢
  generalize henv : newEnv scope s.heap.objs.size mainGlobals clos (qual ++ ".<locals>.") (some f) cv none builtinsNs = env
  have eL : env.locals = s.heap.objs.size := by rw [← henv]; rfl
  have eS : env.scope = scope := by rw [← henv]; rfl
  have eC : env.cells = clos := by rw [← henv]; rfl
  obtain ⟨s₁, hs₁⟩ : ∃ z : Shared, z = { s with heap := h₁, toks := s.toks + [(("row" : Str), a), (("path" : Str), b)].length } := ⟨_, rfl⟩
  have g : Gr G s s₁ := by rw [hs₁]; exact Gr.of keepH
  have e1 : s₁.heap = h₁ := by rw [hs₁]
  have c : Cxt G (k + 1) (A.deeper env) X s₁ env kLam (rhoL t r p) := by
   refine ⟨⟨room.hh, ?_, ?_⟩, g.cx cx, xok.gr cx.ti g, ⟨⟨fun cc q => (by cases q), by rw [eS]; exact ID.names, by rw [eS]; exact ID.kind, by rw [← henv]; rfl, by rw [← henv]; rfl⟩, _, (fun _ => none), by rw [e1, eL]; exact hns, (fun x y b h => (by cases h)), fun x d hd => .inr ?_⟩⟩
   ·have := room.depth
    show A.depth + 1 + 2 * (k + 1) < recursionLimit
    omega
   ·have := room.units
    show A.units + 3 + 40 * (k + 1) + 100 < cLine
    omega
   ·have kof : ∀ x, env.kindOf x = kLam.lookup x := fun x => by unfold Env.kindOf; rw [eS, ID.names]
    have hm := mem_of_lookup hd
    simp only [List.mem_cons, List.not_mem_nil, or_false, Prod.mk.injEq] at hm
    have T : ∀ a ∈ G.T, a ∈ X := xok.tabs
    rcases hm with ⟨rfl, rfl⟩ | ⟨rfl, rfl⟩ | ⟨rfl, rfl⟩ | ⟨rfl, rfl⟩
    ·exact ⟨a, .inl ⟨(kof _).trans (by decide), rfl⟩, ra.gr T g⟩
    ·exact ⟨b, .inl ⟨(kof _).trans (by decide), rfl⟩, rb.gr T g⟩
    ·exact ⟨v1, .inr ⟨.inr ((kof _).trans (by decide)), c1, by rw [eC]; exact h5, IsCell.at' h9 fun o e => g.heap _ _ h7 e⟩, h11.gr T g⟩
    ·exact ⟨v2, .inr ⟨.inr ((kof _).trans (by decide)), c2, by rw [eC]; exact h6, IsCell.at' h10 fun o e => g.heap _ _ h8 e⟩, h12.gr T g⟩
  rw [← hs₁]
  refine (down_body PC hC fr hB hG hL hP ht hw hk hp hr hlen ID c).post fun u s₂ g₂ r₂ => ?_
  exact ⟨g.trans g₂, r₂.rd rfl⟩
end
end Mine
namespace Mine
open PySem PySem.Calls PyProof.Rows PySem.W
theorem entry_iter : entryFor table "iter" = some Builtin.«iter» := entryFor_of_fast (by kernel_rfl)
theorem args_iter (a : Value) : argsOk "iter" ⟨[a], []⟩ := by unfold argsOk; kernel_rfl
theorem call_iterL {prog : Program} {w : World} {A : Around} {E : Value → Shared → Prop} {s : Shared} {l : Addr} {items : Array Value} {Q : Value → Shared → Prop} (hl : s.heap.IsList l items) (h : Q (.ref s.heap.objs.size) { s with heap := s.heap.push { cls := .type "list_iterator", data := .fields #[.ref l, .int 0 0] } }) :
  wpAny (model prog w) A (call (.builtin "iter") [.ref l]) Q E s := by
 refine call_function_entry (by decide +kernel) (by decide +kernel) entry_iter (args_iter _) ?_
 unfold Builtin.«iter»
 refine wpAny_bind (m := someArgs "iter" 1 2 _) (wpAny_of_eq (a := [Value.ref l]) (by first | rfl | kernel_rfl!) ?_)
 show wpAny _ _ (pyIter (.ref l) >>= _) _ _ _
 exact wpAny_bind (wpAny_pyIter_list hl (wpAny_pure ⟨_, rfl, h⟩))
structure StepF (G : Gd) (k : Nat) (f : Addr) (Rdy : List Addr → Heap → Prop) (rs : Nat → List D) (ps : List Str) : Prop where
 gr : ∀ {X : List Addr} {s s' : Shared}, Rdy X s.heap → (∀ a ∈ G.T, a ∈ X) → Gr G s s' → Rdy X s'.heap
 lift : ∀ {X X' : List Addr} {h : Heap}, Rdy X h → (∀ b ∈ X', b ∈ X ∨ h.get? b = none) → Rdy X' h
 fn : ∀ {X : List Addr} {h : Heap}, Rdy X h → ∃ o fd, h.get? f = some o ∧ o.data = .func fd ∧ f ∉ G.T
 call : ∀ (i : Nat) (hi : i < ps.length) (A : Around) (X : List Addr) (s : Shared) (a b : Value), Rdy X s.heap → Room k A → Cx G s.heap → XOk G X s.heap → Rd G.C X s.heap (.lst (rs i)) a → Rd G.C X s.heap (.str ps[i]) b → ∀ E, wpAny (model G.prog G.w) A (call (.ref f) [a, b]) (fun u s' => Gr G s s' ∧ Rd G.C X s'.heap (.lst (rs (i + 1))) u) E s
theorem b15 : ∃ p1 p2 p3 p4 p5 p6 p7 p8 tb p9 p10 p11 p12 p13 p14 p15 p16 p17 p18 p19 p20 p21 p22 p23, pBody 15 = [.Assign [.Name "it" p1] (.Call (.Name "iter" p2) [.Name "sequence" p3] [] p4) p5, .If (.Compare (.Name "initial" p6) [.Is] [.Name "_initial_missing" p7] p8) tb [.Assign [.Name "value" p9] (.Name "initial" p10) p11] p12,
  .For (.Name "element" p13) (.Name "it" p14) [.Assign [.Name "value" p15] (.Call (.Name "function" p16) [.Name "value" p17, .Name "element" p18] [] p19) p20] [] p21, .Return (some (.Name "value" p22)) p23] :=
 ⟨_, _, _, _, _, _, _, _, _, _, _, _, _, _, _, _, _, _, _, _, _, _, _, _, rfl⟩
abbrev k15 : Kn := [("function", .local), ("sequence", .local), ("initial", .local), ("it", .local), ("value", .local), ("element", .local), ("iter", .globalImplicit), ("_initial_missing", .globalImplicit), ("next", .globalImplicit), ("StopIteration", .globalImplicit), ("TypeError", .globalImplicit)]
theorem n15 : pNames 15 = k15 := by rfl
abbrev rho15 (f : Addr) (ps : List Str) (r0 : List D) (it v e : D) : Rho := [("function", .opq f), ("sequence", .lst (ps.map .str)), ("initial", .lst r0), ("it", it), ("value", v), ("element", e)]
section
variable {G : Gd} {k : Nat} {cf : Cf} {A : Around} {X : List Addr} {s : Shared}
set_option maxHeartbeats 2000000 in
theorem reduce_call (ok : CfOk G cf k) {o : Obj} {fd : FuncData} (fr : FnRec G 106 o fd (pBody 15) (pNames 15) ["function", "sequence", "initial"]) (hit : cf.Γ "iter" = some (.blt "iter")) (hmis : cf.Γ "_initial_missing" = some (.opq 98)) {o98 : Obj} (h98 : G.hb.get? 98 = some o98) (n98 : ∀ vs n, o98 ≠ lstObj vs n)
  {f : Addr} {Rdy : List Addr → Heap → Prop} {rs : Nat → List D} {ps : List Str} (SF : StepF G k f Rdy rs ps) (room : Room (k + 1) A) (cx : Cx G s.heap) (xok : XOk G X s.heap) (R : Rdy X s.heap) {vs : List Value} (rv : RdL G.C X s.heap [.opq f, .lst (ps.map .str), .lst (rs 0)] vs) {E : Value → Shared → Prop} :
  wpAny (model G.prog G.w) A (call (.ref 106) vs) (fun u s' => Gr G s s' ∧ Rd G.C X s'.heap (.lst (rs ps.length)) u) E s := by
 refine wpAny_call (enter fr room cx xok rv rfl fun env Y s₀ g₀ fresh c => ?_)
 rw [n15] at c
 have c : StC G k (A.deeper env) X Y s₀ env k15 (rho15 f ps (rs 0) .unb .unb .unb) := c
 generalize A.deeper env = A' at c ⊢
 obtain ⟨p1, p2, p3, p4, p5, p6, p7, p8, tb, p9, p10, p11, p12, p13, p14, p15, p16, p17, p18, p19, p20, p21, p22, p23, eb⟩ := b15
 rw [eb]
 refine wpAny_mono (Q := PostX G k A' X env k15 Y s₀ (.ret (.lst (rs ps.length)))) ?_ (fun fl s' p => ?_) fun _ _ e => e
 rotate_left
 ·obtain ⟨Y', t, v, rfl, rd⟩ := p
  exact ⟨⟨fun b o hT e => t.grb.heap b o hT (fun q => by rw [fresh b q] at e; cases e) (g₀.heap b o hT e), fun z => t.grb.ti (g₀.ti z), t.grb.os.trans g₀.os, fun z => t.grb.bare (g₀.bare z)⟩, rd⟩
 refine wpAny_execs_cons (wpAny_Assign_Name (callN_blt (n := 3) ok c.cxt (zB (n := 2) (by decide) rfl (by decide) hit) (zC (n := 2) (zA (n := 1) (by decide) rfl rfl) zD) fun s₁ ws g₁ rw' => ?_) (by rfl))
 obtain - | ⟨rw', rn⟩ := rw'
 obtain - | _ := rn
 have c₁ := c.gr g₁
 obtain ⟨l, xs, n1, rfl, hl, rl⟩ := rw'.list rfl
 have lX : l ∉ Y ++ X := by have q : Rd G.C (Y ++ X) s₁.heap (.lst (ps.map .str)) (.ref l) := rw'; unfold Rd at q; obtain ⟨a, _, _, e, h, _⟩ := q; cases e; exact h
 have il : s₁.heap.IsList l xs.toArray := ⟨_, hl, rfl, n1, rfl⟩
 refine call_iterL il ?_
 obtain ⟨I, hI⟩ : ∃ z : Addr, s₁.heap.objs.size = z := ⟨_, rfl⟩
 have nI : s₁.heap.get? I = none := hI ▸ zF (Nat.le_refl _)
 have up : ∀ b o, s₁.heap.get? b = some o → (s₁.heap.push { cls := .type "list_iterator", data := .fields #[.ref l, .int 0 0] }).get? b = some o := fun b o e => Heap.get?_push_of_some _ e
 have hIt : (s₁.heap.push { cls := .type "list_iterator", data := .fields #[.ref l, .int 0 0] }).IsListIter I l 0 := ⟨_, hI ▸ Heap.get?_push_size _ rfl, rfl, rfl⟩
 rw [hI]
 generalize s₁.heap.push { cls := .type "list_iterator", data := .fields #[.ref l, .int 0 0] } = h₂ at up hIt ⊢
 have lI : l ≠ I := fun q => by rw [q, nI] at hl; cases hl
 have W : Walks G.prog G.w A' I [I, l] [I] xs.toArray.size (fun i v => xs.toArray[i]? = some v) (fun i h => h.IsListIter I l i ∧ h.IsList l xs.toArray) := Walks.list c.room.hh I l lI xs.toArray
 obtain ⟨St, hSt⟩ : ∃ St : Nat → Heap → Prop, St = fun i h => h.IsListIter I l i ∧ h.IsList l xs.toArray := ⟨_, rfl⟩
 rw [← hSt] at W
 have hst0 : St 0 h₂ := by rw [hSt]; exact ⟨hIt, ⟨_, up _ _ hl, rfl, n1, rfl⟩⟩
 have hNT : ∀ i h', St i h' → ∀ b ∈ [I], NT h' b := by
  rw [hSt]
  rintro i h' ⟨⟨o4, a4, b4, c4⟩, _⟩ b hb
  simp only [List.mem_cons, List.not_mem_nil, or_false] at hb
  subst hb
  exact ⟨_, a4, notIter b4 c4 (by simp) (by simp)⟩
 have hwr : ∀ b ∈ [I], s₁.heap.get? b = none := fun b hb => by rw [List.mem_singleton.mp hb]; exact nI
 have hbw : ∀ b ∈ [I], G.hb.get? b = none := fun b q => by
  cases z : G.hb.get? b with
  | none => rfl
  | some o => have := c₁.cx.hb b o z; rw [hwr b q] at this; cases this
 have g₂ : Gr G s₁ { s₁ with heap := h₂ } := Gr.of (tk := s₁.toks) up
 have c₂ := c₁.into g₂ up hwr (hNT 0 _ hst0)
 obtain ⟨s₂, hs₂⟩ : ∃ t : Shared, t = { s₁ with heap := h₂ } := ⟨_, rfl⟩
 have h2s : s₂.heap = h₂ := by rw [hs₂]
 rw [← hs₂] at g₂ c₂ ⊢
 have t₂ : Stp G Y s₀ Y s₂ := (Stp.gr g₁).trans c.cx.ti (Stp.gr g₂)
 have nIT : I ∉ G.T := fun q => by obtain ⟨us, e⟩ := G.tabs _ c₁.cx.ti _ q; rw [nI] at e; cases e
 have lT : l ∉ G.T := c₁.cx.notTab hl zI
 have fpT : ∀ b ∈ [I, l], b ∉ G.T := fun b hb => by
  simp only [List.mem_cons, List.not_mem_nil, or_false] at hb
  rcases hb with rfl | rfl
  ·exact nIT
  ·exact lT
 have nI0 : s₀.heap.get? I = none := by
  cases q : s₀.heap.get? I with
  | none => rfl
  | some o => have := g₁.heap _ _ nIT q; rw [nI] at this; cases this
 have fpY : ∀ b ∈ [I, l], ∀ Y' s', Stp G Y s₂ Y' s' → b ∉ Y' := fun b hb Y' s' t q => by
  simp only [List.mem_cons, List.not_mem_nil, or_false] at hb
  rcases t.new b q with z | z
  ·rcases hb with rfl | rfl
   ·obtain ⟨o, e⟩ := c₁.xok.live _ (List.mem_append_left _ z); rw [nI] at e; cases e
   ·exact lX (List.mem_append_left _ z)
  ·rw [h2s] at z
   rcases hb with rfl | rfl
   ·obtain ⟨_, e, _⟩ := hIt; rw [z] at e; cases e
   ·rw [up _ _ hl] at z; cases z
 have keepSt : ∀ {i Ya Yb sa sb}, Stp G Y s₂ Ya sa → Stp G Ya sa Yb sb → St i sa.heap → St i sb.heap := fun {i Ya Yb sa sb} ta t st => W.frame _ _ _ st fun b hb' o e => t.grb.heap b o (fpT b hb') (fpY b hb' _ _ ta) e
 refine store_ok c₂ (x := "it") (d := .opq I) (.inl (by decide)) Rd.opq' fun s₃ t₃ c₃ => ?_
 have c₃ : StC G k A' ([I] ++ X) Y s₃ env k15 (rho15 f ps (rs 0) (.opq I) .unb .unb) := c₃
 have hst₃ : St 0 s₃.heap := keepSt Stp.refl t₃ (by rw [h2s]; exact hst0)
 refine wpAny_execs_cons (wpAny_If (wpAny_isTrue_Compare1 ?_ rfl))
 refine ((sound ok 2).ev _ _ _ (.lst (rs 0)) (zA (n := 1) (by decide) rfl rfl) _ _ s₃ env c₃.cxt).post fun va s₄ g₄ ra => ?_
 have c₄ := c₃.gr g₄
 refine ((sound ok 2).ev _ _ _ _ (zB (n := 1) (by decide) rfl (by decide) hmis) _ _ s₄ env c₄.cxt).post fun vb s₅ g₅ rb => ?_
 have c₅ := c₄.gr g₅
 have := rb.opq; subst this
 obtain ⟨l0, xs0, n0, rfl, hl0, _⟩ := (ra.gr c₄.xok.tabs c₄.cx g₅).list rfl
 have e98 := c₅.cx.hb _ _ h98
 have hne : l0 ≠ 98 := fun q => by rw [q, e98] at hl0; exact n98 _ _ (Option.some.inj hl0)
 refine wpAny_is_ref_other hne hl0 e98 (by simp) (wpAny_truthy_bool ?_)
 rw [if_neg (by decide)]
 have t₅ : Stp G Y s₂ Y s₅ := t₃.trans c₂.cx.ti (Stp.gr (g₄.trans g₅))
 have hst₅ : St 0 s₅.heap := keepSt t₃ (Stp.gr (g₄.trans g₅)) hst₃
 refine ExS.andThen (x_assign (n := 2) ok (d := .lst (rs 0)) (by decide) (zA (n := 1) (by decide) rfl rfl) rfl fun env _ => rfl) c₅ fun Y₆ s₆ t₆ c₆ => ?_
 have c₆ : StC G k A' ([I] ++ X) Y₆ s₆ env k15 (rho15 f ps (rs 0) (.opq I) (.lst (rs 0)) .unb) := c₆
 have t₆' := t₅.trans c₂.cx.ti t₆
 have hst₆ : St 0 s₆.heap := keepSt t₅ t₆ hst₅
 refine wpAny_execs_nil ?_
 dsimp only
 have len : xs.toArray.size = ps.length := by rw [size_arr, rl.length, List.length_map]
 rw [len] at W
 have none0 : ∀ b, s₀.heap.get? b = none → b ∈ X ∨ s.heap.get? b = none := fun b hb => by
  by_cases hT : b ∈ G.T
  ·exact .inl (xok.tabs b hT)
  ·cases q : s.heap.get? b with
   | none => exact .inr rfl
   | some o => have := g₀.heap b o hT q; rw [hb] at this; cases this
 have gr0 : ∀ {Y' s'}, Stp G Y s₀ Y' s' → Gr G s s' := fun {Y' s'} t => ⟨fun b o hT e => t.grb.heap b o hT (fun q => by rw [fresh b q] at e; cases e) (g₀.heap b o hT e), fun z => t.grb.ti (g₀.ti z), t.grb.os.trans g₀.os, fun z => t.grb.bare (g₀.bare z)⟩
 have rdy : ∀ {Y' s'}, Stp G Y s₀ Y' s' → Rdy (Y' ++ ([I] ++ X)) s'.heap := fun {Y' s'} t => by
  refine SF.gr (SF.lift R fun b hb => ?_) (fun a ha => List.mem_append_right _ (List.mem_append_right _ (xok.tabs a ha))) (gr0 t)
  rcases List.mem_append.mp hb with q | q
  ·rcases t.new b q with z | z
   ·exact .inr (fresh b z)
   ·exact none0 b z
  ·rcases List.mem_append.mp q with q | q
   ·exact none0 b (by rw [List.mem_singleton.mp q]; exact nI0)
   ·exact .inl q
 refine wpAny_execs_cons (wpAny_For (((sound ok 2).ev _ _ _ (.opq I) (zA (n := 1) (by decide) rfl rfl) _ _ s₆ env c₆.cxt).post fun iv s₇ g₇ ri => ?_) fun _ => rfl)
 have := ri.opq; subst this
 have c₇ := c₆.gr g₇
 have t₇ := t₆'.trans c₂.cx.ti (Stp.gr g₇)
 have hst₇ : St 0 s₇.heap := keepSt t₆' (Stp.gr g₇) hst₆
 refine W.self 0 _ _ _ hst₇ ?_
 refine codeAny_forLoop_any (fun m s' => ∃ i Y' e, m = ps.length - i ∧ i ≤ ps.length ∧ Stp G Y s₁ Y' s' ∧ Stp G ([I] ++ Y) s₂ ([I] ++ Y') s' ∧ St i s'.heap ∧ StC G k A' ([I] ++ X) Y' s' env k15 (rho15 f ps (rs 0) (.opq I) (.lst (rs i)) e) ∧ (e = .unb ∨ ∃ x, e = .str x)) ?_ ps.length
  ⟨0, Y₆, .unb, rfl, Nat.zero_le _, (Stp.gr g₂).trans c₁.cx.ti t₇, t₇.more, hst₇, c₇, .inl rfl⟩
 rintro m s' ⟨i, Y', e, rfl, hi, ta, tb, hst', c', he⟩
 have turn : ∀ (h' : Heap) (tk : Nat), (∀ b o, b ∉ [I] → s'.heap.get? b = some o → h'.get? b = some o) → Stp G Y s₁ Y' { s' with heap := h', toks := tk } ∧ Stp G ([I] ++ Y) s₂ ([I] ++ Y') { s' with heap := h', toks := tk } := fun h' tk hk' => by
  have fr' : ∀ (t : G.TI s'.heap), G.TI h' := fun t => G.frame _ _ t fun b o tk' e => hk' b o (fun q => by
   obtain ⟨o', ho', no⟩ := hNT i _ hst' b q
   rw [e] at ho'; cases ho'
   exact no tk') e
  exact ⟨⟨ta.sub, ta.new, ⟨fun b o hT hY e => hk' b o (fun q => by rw [hwr b q] at e; cases e) (ta.grb.heap b o hT hY e), fun t => fr' (ta.grb.ti t), ta.grb.os, ta.grb.bare⟩⟩,
   ⟨tb.sub, tb.new, ⟨fun b o hT hY e => hk' b o (fun q => hY (List.mem_append_left _ q)) (tb.grb.heap b o hT hY e), fun t => fr' (tb.grb.ti t), tb.grb.os, tb.grb.bare⟩⟩⟩
 have fpY' : ∀ b ∈ [I, l], b ∉ Y' := fun b hb q => by
  have hb' := hb
  simp only [List.mem_cons, List.not_mem_nil, or_false] at hb
  rcases ta.new b q with z | z
  ·rcases hb with rfl | rfl
   ·obtain ⟨o, e⟩ := c₁.xok.live _ (List.mem_append_left _ z); rw [nI] at e; cases e
   ·exact lX (List.mem_append_left _ z)
  ·rcases hb with rfl | rfl
   ·exact c'.dis _ q (List.mem_append_left _ (List.mem_singleton.mpr rfl))
   ·rw [hl] at z; cases z
 have ti₂ : G.TI s₂.heap := c₂.cx.ti
 by_cases hlt : i < ps.length
 ·refine W.item i _ _ _ hlt hst' fun v h₁ tk₁ hPv hst₁ hk₁ => ?_
  refine wpAny_of_eq (a := ()) rfl ?_
  have c₈ := c'.turn (tk := tk₁) hk₁ (hNT i _ hst') (hNT (i + 1) _ hst₁) hbw
  obtain ⟨ta8, tb8⟩ := turn h₁ tk₁ hk₁
  obtain ⟨u, hu, ru⟩ := rl.get (i := i) (d := .str ps[i]) (by rw [List.getElem?_map, List.getElem?_eq_getElem hlt]; rfl)
  have huv : u = v := by
   have : xs[i]? = some v := by simpa using hPv
   rw [hu] at this; exact Option.some.inj this
  subst huv
  obtain ⟨tk, rfl⟩ := (Rd.rv ru).str
  refine wpAny_assign_Name (store_ok c₈ (x := "element") (d := .str ps[i]) (.inl (by decide)) Rd.str' fun s₉ t₉ c₉ => ?_)
  have c₉ : StC G k A' ([I] ++ X) Y' s₉ env k15 (rho15 f ps (rs 0) (.opq I) (.lst (rs i)) (.str ps[i])) := by
   rcases he with rfl | ⟨z, rfl⟩ <;> exact c₉
  have ta9 := ta8.trans c₁.cx.ti t₉
  have tb9 := tb8.trans ti₂ t₉.more
  have st9 : St (i + 1) s₉.heap := W.frame _ _ _ hst₁ fun b hb' o e => t₉.grb.heap b o (fpT b hb') (fpY' b hb') e
  refine wpAny_execs_cons (wpAny_Assign_Name (PyProof.Rows.Call_ (((sound ok 2).ev _ _ _ (.opq f) (zA (n := 1) (by decide) rfl rfl) _ _ s₉ env c₉.cxt).post fun fv sa ga rf => ?_)) (by rfl))
  have := rf.opq; subst this
  have ca := c₉.gr ga
  have taa := ta9.trans c₁.cx.ti (Stp.gr ga)
  obtain ⟨of, fdf, hof, hdf, nfT⟩ := SF.fn (rdy ((Stp.gr g₁).trans c.cx.ti taa))
  have ha : evL cf 4 k15 (rho15 f ps (rs 0) (.opq I) (.lst (rs i)) (.str ps[i])) [.Name "value" p17, .Name "element" p18] = some [.lst (rs i), .str ps[i]] := zC (n := 3) (zA (n := 2) (by decide) rfl rfl) (zC (n := 2) (zA (n := 1) (by decide) rfl rfl) zD)
  refine callWith_def (o := of) (fd := fdf) hdf (wpAny_mono ((sound ok 4).ls _ _ _ _ ha A' _ sa env p19 ca.cxt _) (fun ws sb hb => ?_) fun _ _ e => e) (evL_star ha env)
  obtain ⟨gb, rb'⟩ := hb
  obtain - | ⟨rb1, rb'⟩ := rb'
  obtain - | ⟨rb2, rb'⟩ := rb'
  obtain - | _ := rb'
  have cb := ca.gr gb
  have tab := taa.trans c₁.cx.ti (Stp.gr gb)
  refine ⟨gb.heap _ _ nfT hof, wpAny_mono (SF.call i hlt A' _ sb _ _ (rdy ((Stp.gr g₁).trans c.cx.ti tab)) cb.room cb.cx cb.xok (rb1.rd rfl) (rb2.rd rfl) _) (fun u sc hc => ?_) fun _ _ e => e⟩
  obtain ⟨gc, rc⟩ := hc
  have cc := cb.gr gc
  refine store_ok cc (x := "value") (d := .lst (rs (i + 1))) (.inl (by decide)) rc fun sd td cd => ?_
  have cd : StC G k A' ([I] ++ X) Y' sd env k15 (rho15 f ps (rs 0) (.opq I) (.lst (rs (i + 1))) (.str ps[i])) := cd
  have gac := (ga.trans gb).trans gc
  refine wpAny_execs_nil ⟨ps.length - (i + 1), by omega, i + 1, Y', _, rfl, hlt, (ta9.trans c₁.cx.ti (Stp.gr gac)).trans c₁.cx.ti td, (tb9.trans ti₂ (Stp.gr gac)).trans ti₂ td.more, ?_, cd, .inr ⟨_, rfl⟩⟩
  exact W.frame _ _ _ st9 fun b hb' o e => td.grb.heap b o (fpT b hb') (fpY' b hb') (gac.heap b o (fpT b hb') e)
 ·have hin : i = ps.length := by omega
  subst hin
  refine W.done _ _ _ hst' fun h₁ tk₁ hk₁ => ?_
  obtain ⟨ta8, tb8⟩ := turn h₁ tk₁ hk₁
  have c₈ := c'.last (tk := tk₁) hk₁ (hNT _ _ hst') hbw xok.tabs fun a ha q => by
   obtain ⟨o, ho⟩ := c₁.xok.live a (List.mem_append_right _ ha)
   rw [hwr a q] at ho; cases ho
  refine wpAny_execs_nil ?_
  dsimp only
  refine execs_ret (((sound ok 2).ev _ _ _ (.lst (rs ps.length)) (zA (n := 1) (by decide) rfl rfl) _ _ _ env c₈.cxt).post fun u sz gz rz => ?_)
  exact ⟨Y', ((Stp.gr g₁).trans c.cx.ti ta8).trans c.cx.ti (Stp.gr gz), u, rfl, (rz.rd rfl).less fun b hb => List.mem_append_right _ hb⟩
end
end Mine
namespace Mine
open PySem PySem.Calls PyProof.Rows PySem.W
def lawSt (i : Nat) : Stmt := match (pBody 26)[i]? with | some s => s | none => .Break default
theorem b26 : pBody 26 = [lawSt 0, lawSt 1, lawSt 2, lawSt 3, lawSt 4, lawSt 5, lawSt 6, lawSt 7, lawSt 8, lawSt 9, lawSt 10, lawSt 11, lawSt 12, lawSt 13] := by rfl
abbrev k26 : Kn := [("script", .local), ("numbers", .local), ("total", .local), ("n", .local), ("steps", .cell), ("step", .local), ("paths", .local), ("down", .local), ("found", .local), ("pieces", .local), ("level", .local), ("taken", .local), ("way", .local), ("nodes", .cell), ("tree", .cell),
 ("sum", .globalImplicit), ("_law_tree", .globalImplicit), ("range", .globalImplicit), ("len", .globalImplicit), ("_law_steps", .globalImplicit), ("_law_way", .globalImplicit), ("reduce", .globalImplicit), ("_law_pieces", .globalImplicit), ("translate", .globalImplicit), ("_law_taken", .globalImplicit)]
theorem n26 : pNames 26 = k26 := by rfl
abbrev rho26 (a1 a2 a3 a4 a5 a6 a7 a8 a9 a10 a11 a12 a13 a14 a15 : D) : Rho := [("script", a1), ("numbers", a2), ("total", a3), ("n", a4), ("steps", a5), ("step", a6), ("paths", a7), ("down", a8), ("found", a9), ("pieces", a10), ("level", a11), ("taken", a12), ("way", a13), ("nodes", a14), ("tree", a15)]
def numsL (sc : List Int) : List Int := [0, 5, 21, 46] ++ sc.take 6
def totL (sc : List Int) : Int := (sc.take 6).sum
def zG (sc : List Int) : List (Int × Nm) := treeL (numsL sc)
def startI (sc : List Int) : Int := (numsL sc).length - (totL sc).fmod (numsL sc).length
def zH (sc : List Int) : List Sp := stepsL (wayL (zG sc) (startI sc).toNat) ((totL sc).fdiv (numsL sc).length + 5)
def gNm (x : Nm) : Prop := ∀ a b, x = some (a, b) → a ∈ spS ∧ b ∈ wdS
def gSp (s : Sp) : Prop := (∀ a, s.1 = some a → a ∈ spS) ∧ (∀ b, s.2 = some b → b ∈ wdS) ∧ (s.1 = none ∨ s.2 = none)
structure LawCf (cf : Cf) (sc : List Int) : Prop where
 sum : cf.Γ "sum" = some (.blt "sum")
 len : cf.Γ "len" = some (.blt "len")
 range : cf.Γ "range" = some (.typ "range")
 list : cf.Γ "list" = some (.typ "list")
 iter : cf.Γ "iter" = some (.blt "iter")
 mis : cf.Γ "_initial_missing" = some (.opq 98)
 gtree : cf.Γ "_law_tree" = some (.opq 113)
 gway : cf.Γ "_law_way" = some (.opq 120)
 gbelow : cf.Γ "_law_below" = some (.opq 125)
 gnode : cf.Γ "_law_node" = some (.opq 132)
 gsteps : cf.Γ "_law_steps" = some (.opq 139)
 gtext : cf.Γ "_law_text" = some (.opq 144)
 gfits : cf.Γ "_law_fits" = some (.opq 151)
 gpieces : cf.Γ "_law_pieces" = some (.opq 158)
 gtaken : cf.Γ "_law_taken" = some (.opq 165)
 greduce : cf.Γ "reduce" = some (.opq 106)
 gtrans : cf.Γ "translate" = some (.opq 71)
 gprep : cf.Γ "_prepare_tag" = some (.opq 38)
 tree : cf.Φ 113 [.lst ((numsL sc).map .int)] = some (treeD (zG sc))
 way : ∀ n : Nat, n < (zG sc).length → cf.Φ 120 [treeD (zG sc), .int n] = some (.lst ((wayL (zG sc) n).map nmD))
 below : ∀ n : Int, cf.Φ 125 [treeD (zG sc), .int n] = some (.lst ((zP (zG sc) n).map fun (k : Nat) => .int (k : Int)))
 node : ∀ (i : Int) (nm : Nm), gNm nm → cf.Φ 132 [.int i, nmD nm] = some (ndD (i, tagN nm))
 steps : ∀ (l : List Nm) (d : Int), l.length ≤ 900 → cf.Φ 139 [.lst (l.map nmD), .int d] = some (.lst ((stepsL l d).map zT))
 text : ∀ s q, gSp s → cf.Φ 144 [zT s, .bool q] = some (.str (textS q s))
 trans : cf.Φ 71 [.str (st ((pathT (zH sc)).flatMap zQ))] = some (.str (st (toldL (itsOf (pathT (zH sc))))))
 pieces : cf.Φ 158 [.str (st (toldL (itsOf (pathT (zH sc)))))] = some (.lst (lsD (zS (pathT (zH sc)))))
 taken : ∀ (ps : List Str) (x : Str), 2 ≤ ps.length → ps.length ≤ 1000 → (∀ p ∈ ps, p.length ≤ bigD) → x.length ≤ bigD → cf.Φ 165 [.lst (ps.map .str), .str x] = some (.bool (takenS ps x))
 fits : ∀ (l : List Nm) (ss : List Sp), cf.Φ 151 [.lst (l.map nmD), .lst (ss.map zT)] = some (.bool (fitsL l ss))
theorem numsL_len (sc : List Int) : 4 ≤ (numsL sc).length ∧ (numsL sc).length ≤ 10 := by
 unfold numsL
 simp
 omega
theorem intsD_map (ns : List Int) : intsD (ns.map .int) = some ns := by
 induction ns with
 | nil => rfl
 | cons a r ih => rw [List.map_cons, intsD, ih]
theorem evD_list {cf : Cf} {n : Nat} {K : Kn} {ρ : Rho} {es : List Expr} {p : Pos} {ds : List D} (h : evL cf n K ρ es = some ds) (hp : (ds.all D.pure && Nat.ble ds.length bigD) = true) : evD cf (n + 1) K ρ (.List es p) = some (.lst ds) := by
 rw [q_list, h]; dsimp only; rw [hp]
theorem evD_sliceTo {cf : Cf} {n : Nat} {K : Kn} {ρ : Rho} {v : Expr} {i : Int} {kk : Nat} {p q r : Pos} {ds : List D} (h : evD cf (n + 1) K ρ v = some (.lst ds)) (hb : ds.length ≤ bigD) : evD cf (n + 2) K ρ (.Subscript v (.Slice none (some (.Constant (.int i) kk p)) none q) r) = some (.lst (sliceL ds none (some i))) := by
 rw [q_slice, h]; dsimp only; rw [q_int]; dsimp only; exact sliceD_lst _ _ _ hb
theorem evD_subX {cf : Cf} {n : Nat} {K : Kn} {ρ : Rho} {v : Expr} {x : Str} {p q : Pos} {a b d : D} (h1 : evD cf n K ρ v = some a) (h2 : evD cf n K ρ (.Name x p) = some b) (h3 : idxD a b = some d) : evD cf (n + 1) K ρ (.Subscript v (.Name x p) q) = some d := by
 rw [q_sub_name, h1]; dsimp only; rw [h2]; exact h3
theorem evD_bool {cf : Cf} {n : Nat} {K : Kn} {ρ : Rho} {x : Bool} {k : Nat} {p : Pos} : evD cf (n + 1) K ρ (.Constant (.bool x) k p) = some (.bool x) := rfl
theorem q_asg_comp (cf : Cf) (mu : List Str) (n : Nat) (K : Kn) (ρ : Rho) (x px e gs c p pos) : exD cf mu (n + 1) K ρ (.Assign [.Name x px] (.ListComp e gs c p) pos) = (match storable K x with
  | true => (match K.lookup x with | some .cell => (match evD cf (n + 1) K ρ (.ListComp e gs c p) with | some d => (match d.pure with | true => some (.next (stD ρ x d)) | false => none) | none => none) | _ => none)
  | false => none) := rfl
section
variable {G : Gd} {k : Nat} {cf : Cf} {sc : List Int}
theorem law0 (L : LawCf cf sc) (ok : CfOk G cf k) (hs : sc.length ≤ 63) : ExS G k k26 (rho26 (.lst (sc.map .int)) .unb .unb .unb .unb .unb .unb .unb .unb .unb .unb .unb .unb .unb .unb) (lawSt 0) (.next (rho26 (.lst (sc.map .int)) (.lst ((numsL sc).map .int)) .unb .unb .unb .unb .unb .unb .unb .unb .unb .unb .unb .unb .unb)) := by
 have bd : bigD = 1000000 := rfl
 obtain ⟨p1, p2, p3, p4, p5, p6, p7, p8, p9, pa, pb, pc, e⟩ : ∃ p1 p2 p3 p4 p5 p6 p7 p8 p9 pa pb pc, lawSt 0 = .Assign [.Name "numbers" p1] (.BinOp (.List [.Constant (.int 0) 0 p2, .Constant (.int 5) 0 p3, .Constant (.int 21) 0 p4, .Constant (.int 46) 0 p5] p6) .Add (.Subscript (.Name "script" p7) (.Slice none (some (.Constant (.int 6) 0 p8)) none p9) pa) pb) pc := ⟨_, _, _, _, _, _, _, _, _, _, _, _, rfl⟩
 rw [e]
 refine x_assign (n := 9) ok (d := .lst ((numsL sc).map .int)) (by decide) ?_ rfl fun env _ => rfl
 refine evD_bin (n := 8) (evD_list (n := 7) (ds := [.int 0, .int 5, .int 21, .int 46]) rfl rfl) (evD_sliceTo (n := 6) (zA (n := 6) (by decide) rfl rfl) (by rw [List.length_map]; omega)) ?_
 have e6 : sliceL (sc.map D.int) none (some 6) = (sc.take 6).map .int := by
  unfold sliceL
  rw [List.map_take]
  simp [clipAt]
  omega
 rw [e6]
 unfold binD
 have : ([D.int 0, .int 5, .int 21, .int 46].length + ((sc.take 6).map D.int).length) ≤ bigD := by simp; omega
 simp only [D.list?, Nat.ble_eq_true_of_le this]
 rfl
end
end Mine
namespace Mine
open PySem PySem.Calls PyProof.Rows PySem.W
theorem nameOf_good (x : Int) : gNm (nameOf x) := by
 intro a b h
 unfold nameOf at h
 split at h
 ·cases h
 ·simp only [Option.some.injEq, Prod.mk.injEq] at h
  obtain ⟨rfl, rfl⟩ := h
  obtain ⟨i, hi, h1⟩ := fmod_nat x 4 (by omega)
  obtain ⟨j, hj, h2⟩ := fmod_nat (x.fdiv 4) 5 (by omega)
  have hi' : x.fmod 4 = (i : Int) := hi
  have hj' : (x.fdiv 4).fmod 5 = (j : Int) := hj
  rw [hi', hj']
  constructor
  ·have : i = 0 ∨ i = 1 ∨ i = 2 ∨ i = 3 := by omega
   rcases this with rfl | rfl | rfl | rfl <;> decide
  ·have : j = 0 ∨ j = 1 ∨ j = 2 ∨ j = 3 ∨ j = 4 := by omega
   rcases this with rfl | rfl | rfl | rfl | rfl <;> decide
structure Grown (t : List (Int × Nm)) : Prop where
 par : ∀ i, (h : i < t.length) → i ≠ 0 → ∃ p : Nat, t[i].1 = (p : Int) ∧ p < i
 pos : 0 < t.length
 good : ∀ p ∈ t, gNm p.2
theorem grown_step {t : List (Int × Nm)} (g : Grown t) (x : Int) : Grown (treeStep t x) ∧ (treeStep t x).length = t.length + 1 := by
 unfold treeStep
 refine ⟨⟨fun i h h0 => ?_, by simp, fun p hp => ?_⟩, by simp⟩
 ·rw [List.length_append] at h
  by_cases q : i < t.length
  ·rw [List.getElem_append_left q]; exact g.par i q h0
  ·have : i = t.length := by simp at h; omega
   subst this
   obtain ⟨p, hp, hl⟩ := fmod_nat (x.fdiv 20) t.length g.pos
   refine ⟨p, ?_, hl⟩
   simp [hp]
 ·rcases List.mem_append.mp hp with q | q
  ·exact g.good p q
  ·rw [List.mem_singleton.mp q]; exact nameOf_good x
theorem grown_fold : ∀ (ns : List Int) {t : List (Int × Nm)}, Grown t → Grown (ns.foldl treeStep t) ∧ (ns.foldl treeStep t).length = t.length + ns.length
 | [], t, g => ⟨g, rfl⟩
 | x :: r, t, g => by
  obtain ⟨g', l'⟩ := grown_step g x
  obtain ⟨g2, l2⟩ := grown_fold r g'
  refine ⟨g2, ?_⟩
  rw [List.foldl_cons, l2, l', List.length_cons]; omega
theorem grown0 : Grown [(0, none)] := ⟨fun i h h0 => by simp at h; omega, by simp, fun p hp a b h => by rw [List.mem_singleton.mp hp] at h; cases h⟩
theorem treeL_grown (ns : List Int) : Grown (treeL ns) ∧ (treeL ns).length = ns.length + 1 := by
 obtain ⟨a, b⟩ := grown_fold ns grown0
 refine ⟨a, ?_⟩
 unfold treeL; rw [b]; simp; omega
theorem treeL_wft (ns : List Int) (h : ns.length ≤ 90) : Wft (treeL ns) := by
 obtain ⟨a, b⟩ := treeL_grown ns
 exact ⟨a.par, by omega, a.pos⟩
theorem good_at {t : List (Int × Nm)} (g : Grown t) (i : Nat) : gNm (t[i]?.getD (0, none)).2 := by
 by_cases h : i < t.length
 ·rw [List.getElem?_eq_getElem h]; exact g.good _ (List.getElem_mem h)
 ·rw [List.getElem?_eq_none (by omega)]; intro a b q; cases q
theorem way_good {t : List (Int × Nm)} (g : Grown t) : ∀ f n, ∀ x ∈ wayF t f n, gNm x
 | 0, n, x, h => by unfold wayF at h; cases h
 | f + 1, n, x, h => by
  unfold wayF at h
  split at h
  ·cases h
  ·rcases List.mem_append.mp h with q | q
   ·exact way_good g f _ x q
   ·rw [List.mem_singleton.mp q]; exact good_at g n
theorem steps_good : ∀ (l : List Nm) (d : Int), (∀ x ∈ l, gNm x) → ∀ s ∈ stepsL l d, gSp s
 | [], d, _, s, h => by unfold stepsL at h; cases h
 | x :: r, d, H, s, h => by
  unfold stepsL at h
  rcases List.mem_cons.mp h with q | q
  ·subst q
   unfold stepOf
   cases x with
   | none => exact ⟨fun a h => (by cases h), fun b h => (by cases h), .inl rfl⟩
   | some p =>
    obtain ⟨a, b⟩ := p
    obtain ⟨h1, h2⟩ := H _ (.head _) a b rfl
    dsimp only
    split
    ·exact ⟨fun a h => (by cases h), fun b h => (by cases h), .inl rfl⟩
    ·split
     ·exact ⟨fun a' h => (by cases h; exact h1), fun b h => (by cases h), .inr rfl⟩
     ·exact ⟨fun a h => (by cases h), fun b' h => (by cases h; exact h2), .inl rfl⟩
  ·exact steps_good r _ (fun y hy => H y (.tail _ hy)) s q
theorem stepsL_len : ∀ (l : List Nm) (d : Int), (stepsL l d).length = l.length
 | [], d => rfl
 | x :: r, d => by rw [stepsL, List.length_cons, stepsL_len r, List.length_cons]
theorem tree_facts (sc : List Int) : Grown (zG sc) ∧ Wft (zG sc) ∧ (zG sc).length = (numsL sc).length + 1 := by
 obtain ⟨a, b⟩ := treeL_grown (numsL sc)
 have := numsL_len sc
 exact ⟨a, treeL_wft _ (by omega), b⟩
theorem start_facts (sc : List Int) : ∃ n : Nat, startI sc = n ∧ n < (zG sc).length ∧ 0 < n := by
 obtain ⟨_, _, l⟩ := tree_facts sc
 have h := numsL_len sc
 obtain ⟨j, h1, h2⟩ := fmod_nat (totL sc) (numsL sc).length (by omega)
 unfold startI
 rw [h1]
 exact ⟨(numsL sc).length - j, by omega, by omega, by omega⟩
theorem way_ne {t : List (Int × Nm)} {n : Nat} (h : 0 < n) : wayL t n ≠ [] := by
 unfold wayL
 have : loopD = 999999 + 1 := rfl
 rw [this]
 unfold wayF
 rw [if_neg (by omega)]
 simp
theorem steps_facts (sc : List Int) : (∀ s ∈ zH sc, gSp s) ∧ (zH sc).length ≤ 11 ∧ zH sc ≠ [] := by
 obtain ⟨n, h1, h2, h3⟩ := start_facts sc
 obtain ⟨g, w, l⟩ := tree_facts sc
 have hn := numsL_len sc
 unfold zH
 rw [h1]
 refine ⟨steps_good _ _ (way_good g _ _), ?_, fun q => ?_⟩
 ·rw [stepsL_len]
  have := wayL_len w h2
  simp only [Int.toNat_natCast]
  omega
 ·have : (stepsL (wayL (zG sc) (↑n : Int).toNat) ((totL sc).fdiv ↑(numsL sc).length + 5)).length = 0 := by rw [q]; rfl
  rw [stepsL_len] at this
  exact way_ne h3 (List.length_eq_zero_iff.mp this)
end Mine
namespace Mine
open PySem PySem.Calls PyProof.Rows PySem.W
abbrev scD (sc : List Int) : D := .lst (sc.map .int)
abbrev nuD (sc : List Int) : D := .lst ((numsL sc).map .int)
abbrev toD (sc : List Int) : D := .int (totL sc)
abbrev trD (sc : List Int) : D := .lst ((zG sc).map rowD)
abbrev noD (sc : List Int) : D := .lst (((List.range (zG sc).length).map (nodeOf (zG sc))).map ndD)
abbrev zM (sc : List Int) : D := .lst ((zH sc).map zT)
abbrev paD (sc : List Int) : D := .lst ((zH sc).map fun s => .str (textS false s))
theorem filter_all {α : Type} (l : List α) : l.filter (fun _ => true) = l := List.filter_eq_self.mpr fun _ _ => rfl
theorem stepD_pure (s : Sp) : (zT s).pure = true := by
 obtain ⟨a, b⟩ := s
 cases a <;> cases b <;> rfl
section
variable {G : Gd} {k : Nat} {cf : Cf} {sc : List Int}
theorem law1 (L : LawCf cf sc) (ok : CfOk G cf k) (hs : sc.length ≤ 63) : ExS G k k26 (rho26 (scD sc) (nuD sc) .unb .unb .unb .unb .unb .unb .unb .unb .unb .unb .unb .unb .unb) (lawSt 1) (.next (rho26 (scD sc) (nuD sc) (toD sc) .unb .unb .unb .unb .unb .unb .unb .unb .unb .unb .unb .unb)) := by
 have bd : bigD = 1000000 := rfl
 obtain ⟨p1, p2, p3, p4, p5, p6, p7, p8, e⟩ : ∃ p1 p2 p3 p4 p5 p6 p7 p8, lawSt 1 = .Assign [.Name "total" p1] (.Call (.Name "sum" p2) [.Subscript (.Name "script" p3) (.Slice none (some (.Constant (.int 6) 0 p4)) none p5) p6] [] p7) p8 := ⟨_, _, _, _, _, _, _, _, rfl⟩
 rw [e]
 have e6 : sliceL (sc.map D.int) none (some 6) = (sc.take 6).map .int := by
  unfold sliceL
  rw [List.map_take]
  simp [clipAt]
  omega
 refine x_assign (n := 9) ok (d := toD sc) (by decide) ?_ rfl fun env _ => rfl
 refine zE (n := 8) rfl (zB (n := 7) (by decide) rfl (by decide) L.sum) (zC (n := 7) (evD_sliceTo (n := 5) (zA (n := 5) (by decide) rfl rfl) (by rw [List.length_map]; omega)) zD) rfl ?_
 rw [e6]
 show sumD (.lst ((sc.take 6).map .int)) = _
 unfold sumD
 simp only [D.list?, intsD_map]
 rfl
theorem law2 (L : LawCf cf sc) (ok : CfOk G cf k) : ExS G k k26 (rho26 (scD sc) (nuD sc) (toD sc) .unb .unb .unb .unb .unb .unb .unb .unb .unb .unb .unb .unb) (lawSt 2) (.next (rho26 (scD sc) (nuD sc) (toD sc) .unb .unb .unb .unb .unb .unb .unb .unb .unb .unb .unb (trD sc))) := by
 obtain ⟨p1, p2, p3, p4, p5, e⟩ : ∃ p1 p2 p3 p4 p5, lawSt 2 = .Assign [.Name "tree" p1] (.Call (.Name "_law_tree" p2) [.Name "numbers" p3] [] p4) p5 := ⟨_, _, _, _, _, rfl⟩
 rw [e]
 have h := numsL_len sc
 refine x_assign (n := 9) ok (d := trD sc) (by decide) ?_ rfl fun env _ => rfl
 exact zE (n := 8) rfl (zB (n := 7) (by decide) rfl (by decide) L.gtree) (zC (n := 7) (zA (n := 6) (by decide) rfl rfl) zD) rfl L.tree
theorem law3 (L : LawCf cf sc) (ok : CfOk G cf k) : ExS G k k26 (rho26 (scD sc) (nuD sc) (toD sc) .unb .unb .unb .unb .unb .unb .unb .unb .unb .unb .unb (trD sc)) (lawSt 3) (.next (rho26 (scD sc) (nuD sc) (toD sc) .unb .unb .unb .unb .unb .unb .unb .unb .unb .unb (noD sc) (trD sc))) := by
 have bd : bigD = 1000000 := rfl
 obtain ⟨p1, p2, p3, p4, p5, p6, p7, p8, p9, pa, pb, pc, pd, pe, pf, pg, ph, csc, e, hn, hk⟩ : ∃ p1 p2 p3 p4 p5 p6 p7 p8 p9 pa pb pc pd pe pf pg ph csc, lawSt 3 = .Assign [.Name "nodes" p1] (.ListComp (.Call (.Name "_law_node" p2) [.Name "n" p3, .Subscript (.Subscript (.Name "tree" p4) (.Name "n" p5) p6) (.Constant (.int 1) 0 p7) p8] [] p9) [⟨.Name "n" pa, .Call (.Name "range" pb) [.Call (.Name "len" pc) [.Name "tree" pd] [] pe] [] pf, [], 0⟩] csc pg) ph ∧ csc.names = ([(".0", .local), ("n", .local), ("_law_node", .globalImplicit), ("tree", .free)] : Kn) ∧ csc.kind = .function := ⟨_, _, _, _, _, _, _, _, _, _, _, _, _, _, _, _, _, _, rfl, rfl, rfl⟩
 rw [e]
 obtain ⟨g, w, l⟩ := tree_facts sc
 have hl := numsL_len sc
 have hlen : (zG sc).length ≤ 100 := w.len
 refine (ex_sound ok [] 13).1 _ _ _ _ ?_
 rw [q_asg_comp]
 have hst : storable k26 "nodes" = true := by decide
 have hlk : k26.lookup ("nodes" : Str) = some .cell := by decide
 rw [hst, hlk]
 dsimp only
 rw [comp_row cf (n := 12) (ds := (List.range (zG sc).length).map fun (i : Nat) => .int ((0 : Nat) + i)) (ys := ((List.range (zG sc).length).map (nodeOf (zG sc))).map ndD) (d := .rng (0 : Nat) (zG sc).length) ?_ ?_ ?_ ?_]
 ·rfl
 ·rw [hn, hk]; rfl
 ·refine zE (n := 11) rfl (zB (n := 10) (by decide) rfl (by decide) L.range) (zC (n := 10) (d := .int (zG sc).length) (zE (n := 9) rfl (zB (n := 8) (by decide) rfl (by decide) L.len) (zC (n := 8) (zA (n := 7) (by decide) rfl rfl) zD) rfl ?_) zD) rfl rfl
  rw [callD_len, len_lst _ (by rw [List.length_map]; omega), List.length_map]
 ·exact items_rng (Nat.zero_le _) (by omega)
 ·rw [hn]
  have hr : relK ([(".0", .local), ("n", .local), ("_law_node", .globalImplicit), ("tree", .free)] : Kn) k26 = ([(".0", .local), ("n", .local), ("_law_node", .globalImplicit), ("tree", .cell)] : Kn) := by rfl
  have hf : (rho26 (scD sc) (nuD sc) (toD sc) .unb .unb .unb .unb .unb .unb .unb .unb .unb .unb .unb (trD sc)).filter (fun q => freeIn ([(".0", .local), ("n", .local), ("_law_node", .globalImplicit), ("tree", .free)] : Kn) q.1) = ([("tree", trD sc)] : Rho) := by rfl
  rw [hr, hf]
  refine (compD_all _ _ (fun (i : Nat) => .int ((0 : Nat) + i)) (fun _ => true) (fun i => ndD (nodeOf (zG sc) i)) (List.range (zG sc).length) (fun i _ => rfl) (fun i hi _ => ?_) fun i _ _ => rfl).trans ?_
  ·have hi' := List.mem_range.mp hi
   have e0 : (((0 : Nat) : Int) + (i : Int)) = (i : Int) := by omega
   rw [e0]
   refine zE (n := 11) rfl (zB (n := 10) (by decide) rfl (by decide) L.gnode) (zC (n := 10) (zA (n := 9) (by decide) rfl rfl) (zC (n := 9) (d := nmD ((zG sc)[i]?.getD (0, none)).2) (evD_sub (n := 7) (a := rowD ((zG sc)[i]?.getD (0, none))) (evD_subX (n := 7) (zA (n := 6) (by decide) rfl rfl) (zA (n := 6) (by decide) rfl rfl) ?_) (idx_row1 _)) zD)) ?_ (L.node _ _ (good_at g i))
   ·have := idx_tree hi' (by omega)
    rw [treeD_eq] at this
    rw [this, List.getElem?_eq_getElem hi']
    rfl
   ·simp only [List.all_cons, List.all_nil, Bool.and_true, argOk]
    rw [nmD_pure]; rfl
  ·rw [filter_all, List.map_map]; rfl
theorem law4 (L : LawCf cf sc) (ok : CfOk G cf k) : ExS G k k26 (rho26 (scD sc) (nuD sc) (toD sc) .unb .unb .unb .unb .unb .unb .unb .unb .unb .unb (noD sc) (trD sc)) (lawSt 4) (.next (rho26 (scD sc) (nuD sc) (toD sc) .unb (zM sc) .unb .unb .unb .unb .unb .unb .unb .unb (noD sc) (trD sc))) := by
 have bd : bigD = 1000000 := rfl
 obtain ⟨p1, p2, p3, p4, p5, p6, p7, p8, p9, pa, pb, pc, pd, pe, pf, pg, ph, pi, pj, pk, pl, pm, pn, e⟩ : ∃ p1 p2 p3 p4 p5 p6 p7 p8 p9 pa pb pc pd pe pf pg ph pi pj pk pl pm pn, lawSt 4 = .Assign [.Name "steps" p1] (.Call (.Name "_law_steps" p2) [.Call (.Name "_law_way" p3) [.Name "tree" p4, .BinOp (.Call (.Name "len" p5) [.Name "numbers" p6] [] p7) .Sub (.BinOp (.Name "total" p8) .Mod (.Call (.Name "len" p9) [.Name "numbers" pa] [] pb) pc) pd] [] pe,
   .BinOp (.BinOp (.Name "total" pf) .FloorDiv (.Call (.Name "len" pg) [.Name "numbers" ph] [] pi) pj) .Add (.Constant (.int 5) 0 pk) pl] [] pm) pn := ⟨_, _, _, _, _, _, _, _, _, _, _, _, _, _, _, _, _, _, _, _, _, _, _, rfl⟩
 rw [e]
 obtain ⟨g, w, l⟩ := tree_facts sc
 obtain ⟨n0, h1, h2, h3⟩ := start_facts sc
 have hl := numsL_len sc
 have elen : ∀ m q1 q2 q3, evD cf (m + 4) k26 (rho26 (scD sc) (nuD sc) (toD sc) .unb .unb .unb .unb .unb .unb .unb .unb .unb .unb (noD sc) (trD sc)) (.Call (.Name "len" q1) [.Name "numbers" q2] [] q3) = some (.int (numsL sc).length) := fun m q1 q2 q3 => by
  refine zE (n := m + 3) rfl (zB (n := m + 2) (by decide) rfl (by decide) L.len) (zC (n := m + 2) (zA (n := m + 1) (by decide) rfl rfl) zD) rfl ?_
  rw [callD_len, len_lst _ (by rw [List.length_map]; omega), List.length_map]
 refine x_assign (n := 13) ok (d := zM sc) (by decide) ?_ rfl fun env _ => rfl
 have hw := wayL_len w h2
 have hst : zH sc = stepsL (wayL (zG sc) n0) ((totL sc).fdiv (numsL sc).length + 5) := by
  unfold zH; rw [h1]; rfl
 unfold zM
 rw [hst]
 refine zE (n := 12) rfl (zB (n := 11) (by decide) rfl (by decide) L.gsteps) (zC (n := 11) (d := .lst ((wayL (zG sc) n0).map nmD)) ?_ (zC (n := 10) (d := .int ((totL sc).fdiv (numsL sc).length + 5)) ?_ zD)) rfl (L.steps _ _ (by omega))
 ·refine zE (n := 10) rfl (zB (n := 9) (by decide) rfl (by decide) L.gway) (zC (n := 9) (d := treeD (zG sc)) (zA (n := 8) (by decide) rfl rfl) (zC (n := 8) (d := .int n0) ?_ zD)) rfl (L.way _ h2)
  refine evD_bin (n := 7) (elen 3 _ _ _) (evD_bin (n := 6) (zA (n := 5) (by decide) rfl rfl) (elen 2 _ _ _) (b_mod _ _ (by omega))) ?_
  rw [b_subi]
  exact congrArg (fun z => some (D.int z)) h1
 ·refine evD_bin (n := 9) (evD_bin (n := 8) (zA (n := 7) (by decide) rfl rfl) (elen 4 _ _ _) (b_div _ _ (by omega) (by omega))) evD_int rfl
theorem law5 (L : LawCf cf sc) (ok : CfOk G cf k) : ExS G k k26 (rho26 (scD sc) (nuD sc) (toD sc) .unb (zM sc) .unb .unb .unb .unb .unb .unb .unb .unb (noD sc) (trD sc)) (lawSt 5) (.next (rho26 (scD sc) (nuD sc) (toD sc) .unb (zM sc) .unb (paD sc) .unb .unb .unb .unb .unb .unb (noD sc) (trD sc))) := by
 have bd : bigD = 1000000 := rfl
 obtain ⟨p1, p2, p3, p4, p5, pa, pb, pg, ph, csc, e, hn, hk, hl⟩ : ∃ p1 p2 p3 p4 p5 pa pb pg ph csc, lawSt 5 = .Assign [.Name "paths" p1] (.ListComp (.Call (.Name "_law_text" p2) [.Name "step" p3, .Constant (.bool false) 0 p4] [] p5) [⟨.Name "step" pa, .Name "steps" pb, [], 0⟩] csc pg) ph ∧ csc.names = ([(".0", .local), ("step", .local), ("_law_text", .globalImplicit)] : Kn) ∧ csc.kind = .function ∧ (p1.line == pg.line) = true := ⟨_, _, _, _, _, _, _, _, _, _, rfl, rfl, rfl, by decide⟩
 rw [e]
 obtain ⟨s1, s2, s3⟩ := steps_facts sc
 refine x_locComp1 (n := 9) ok (d := zM sc) (ds := (zH sc).map zT) (by decide) (by rw [hl, hn]; decide) (by rw [hn]; rfl) hk (zA (n := 8) (by decide) rfl rfl) (items_lst (by rw [List.length_map]; omega)) ?_
 rw [hn]
 have hr : relK ([(".0", .local), ("step", .local), ("_law_text", .globalImplicit)] : Kn) k26 = ([(".0", .local), ("step", .local), ("_law_text", .globalImplicit)] : Kn) := by rfl
 have hf : (rho26 (scD sc) (nuD sc) (toD sc) .unb (zM sc) .unb .unb .unb .unb .unb .unb .unb .unb (noD sc) (trD sc)).filter (fun q => freeIn ([(".0", .local), ("step", .local), ("_law_text", .globalImplicit)] : Kn) q.1) = ([] : Rho) := by rfl
 rw [hr, hf]
 refine (compD_all _ _ zT (fun _ => true) (fun s => .str (textS false s)) (zH sc) (fun i _ => rfl) (fun s hs _ => ?_) fun i _ _ => rfl).trans ?_
 ·exact zE (n := 8) rfl (zB (n := 7) (by decide) rfl (by decide) L.gtext) (zC (n := 7) (zA (n := 6) (by decide) rfl (stepD_pure s)) (zC (n := 6) evD_bool zD)) (by simp only [List.all_cons, List.all_nil, Bool.and_true, argOk]; rw [stepD_pure]; rfl) (L.text _ _ (s1 s hs))
 ·rw [filter_all]
end
end Mine
namespace Mine
open PySem PySem.Calls PyProof.Rows PySem.W
theorem s6 : ∃ p1 params body scope lp p2, lawSt 6 = .Assign [.Name "down" p1] (.Lambda params body scope lp) p2 ∧ IsDown params scope body ∧ (∀ env, defaultsOf params env = ([], [])) := by
 refine ⟨_, _, _, _, _, _, rfl, ⟨rfl, rfl, rfl, rfl, fun _ _ _ _ _ _ _ => rfl, ⟨_, _, _, _, _, _, _, _, _, _, _, _, _, _, _, _, _, _, _, _, rfl, rfl, rfl⟩⟩, fun _ => rfl⟩
theorem K169 : codeOf k26 = some ((Value.ref 169, ("law.<locals>." : Str)) : Value × Str) := by rfl
def rowAt (t : List (Int × Nm)) (ks : List (Option Str → Bool)) (i : Nat) : List Nat := (ks.take i).foldl (fun r kp => nextRow t kp r) [0]
theorem rowAt_succ (t : List (Int × Nm)) (ks : List (Option Str → Bool)) (i : Nat) (h : i < ks.length) : rowAt t ks (i + 1) = nextRow t ks[i] (rowAt t ks i) := by
 unfold rowAt
 rw [List.take_succ_eq_append_getElem h, List.foldl_append]
 rfl
section
variable {G : Gd} {k : Nat} {cf : Cf} {sc : List Int} {A : Around} {Xc Y : List Addr} {s : Shared} {env : Env} {Kf : Frag} {C fI P Q : Addr}
theorem law6 (TG : TabG G 169 Q (("law.<locals>." : Str) ++ ("<lambda>" : Str))) (c : StC G k A Xc Y s env k26 (rho26 (scD sc) (nuD sc) (toD sc) .unb (zM sc) .unb (paD sc) .unb .unb .unb .unb .unb .unb (noD sc) (trD sc))) {E : Value → Shared → Prop} :
  wpAny (model G.prog G.w) A (exec (lawSt 6) env) (fun fl s' => ∃ f, fl = .next ∧ Stp G Y s Y s' ∧ StC G k A Xc Y s' env k26 (rho26 (scD sc) (nuD sc) (toD sc) .unb (zM sc) .unb (paD sc) (.opq f) .unb .unb .unb .unb .unb (noD sc) (trD sc)) ∧ DownReady G (Y ++ Xc) s'.heap f (zG sc)) E s := by
 obtain ⟨p1, params, body, scope, lp, p2, e, ID, hdf⟩ := s6
 rw [e]
 have hcell : ∀ p ∈ scope.names, p.2 = .free → ∃ c, env.cells.lookup p.1 = some c := fun p hp hf => by
  rw [ID.names] at hp
  simp only [List.mem_cons, List.not_mem_nil, or_false] at hp
  rcases hp with rfl | rfl | rfl | rfl | rfl | rfl <;> first | exact c.celX _ (by dsimp only; decide) | cases hf
 obtain ⟨cl, e', h1, h2⟩ := closure_ok env scope.names [] hcell
 have hclos : closureFor scope env = pure cl := by
  unfold closureFor
  exact (congrArg (fun t => t >>= fun r => (pure r : Sem (List (Str × Addr)))) e').trans (pure_bind _ _)
 obtain ⟨hcode, hqual⟩ := c.cxt.env.k.code _ K169
 refine wpAny_Assign_Name (kla_eval (hdf env) ?_) (by rfl)
 rw [hqual]
 refine mk_lam TG c.cx hclos hcode c.cxt.env.k.glob fun f s₁ cv ctv g nf nT hf hcv => ?_
 have c₁ := c.gr g
 refine store_loc c₁ (x := "down") (d := .opq f) (by decide) Rd.opq' fun s₂ t₂ sb c₂ => ?_
 have c₂ : StC G k A Xc Y s₂ env k26 (rho26 (scD sc) (nuD sc) (toD sc) .unb (zM sc) .unb (paD sc) (.opq f) .unb .unb .unb .unb .unb (noD sc) (trD sc)) := c₂
 have fl : f ≠ env.locals := fun q => by
  obtain ⟨o, ho⟩ := c.xok.live _ (List.mem_append_left _ c.loc)
  rw [← q, nf] at ho; cases ho
 obtain ⟨k1, v1, b1, i1, n1, r1⟩ := cell_of c₂ (y := "nodes") (d := noD sc) (by decide) rfl rfl
 obtain ⟨k2, v2, b2, i2, n2, r2⟩ := cell_of c₂ (y := "tree") (d := trD sc) (by decide) rfl rfl
 have lk : ∀ y, scope.names.lookup y = some .free → cl.lookup y = env.cells.lookup y := fun y hy => h1 y ⟨(y, .free), mem_of_lookup hy, rfl, rfl⟩
 refine ⟨f, rfl, (Stp.gr g).trans c.cx.ti t₂, c₂, _, params, body, scope, cl, _, cv, ctv, v1, v2, k1, k2, ID, nT, SameBut.up sb fl hf, ?_, fun a q => TG.notT _ _ _ c₁.cx.ti (q ▸ hcv), (lk _ (by rw [ID.names]; decide)).trans b1, (lk _ (by rw [ID.names]; decide)).trans b2, n1, n2, i1, i2, r1, r2⟩
 obtain ⟨a, oc, vs, tq, rfl, hoc, hd, hq⟩ := hcv
 refine ⟨a, oc, vs, tq, rfl, SameBut.up sb (fun q => ?_) hoc, hd, hq⟩
 subst q
 obtain ⟨m, W, ea, _⟩ := c₁.ex
 obtain ⟨o, es, ep, e1, e2, _⟩ := ea.ns
 rw [hoc] at e1; cases e1
 rw [hd] at e2; cases e2
structure RedCf (G : Gd) (k : Nat) (cf : Cf) (Kf : Frag) (C fI P : Addr) : Prop where
 PC : PrepCf G k cf Kf C fI P
 hC : G.C = C
 r38 : ∃ o fd, FnRec G 38 o fd (pBody 2) (pNames 2) ["tag"]
 r106 : ∃ o fd, FnRec G 106 o fd (pBody 15) (pNames 15) ["function", "sequence", "initial"]
 m98 : ∃ o98 : Obj, G.hb.get? 98 = some o98 ∧ ∀ vs n, o98 ≠ lstObj vs n
theorem tag_len {t : List (Int × Nm)} (g : Grown t) (i : Nat) (y : Str) (h : (nodeOf t i).2 = some y) : 1 ≤ y.length ∧ y.length ≤ 1000 := by
 unfold nodeOf at h
 have hg := good_at g i
 generalize (t[i]?.getD (0, none)).2 = nm at h hg
 cases nm with
 | none => cases h
 | some p =>
  obtain ⟨a, b⟩ := p
  obtain ⟨h1, h2⟩ := hg a b rfl
  cases h
  have : ∀ a ∈ spS, ∀ b ∈ wdS, 1 ≤ (tagS a b).length ∧ (tagS a b).length ≤ 1000 := by decide +kernel
  exact this a h1 b h2
theorem text_len (s : Sp) (h : gSp s) (q : Bool) : (textS q s).length ≤ 60 := by
 obtain ⟨a, b⟩ := s
 obtain ⟨h1, h2, _⟩ := h
 have H1 : ∀ q, ∀ a ∈ spS, (partS q (some a)).length ≤ 20 := by decide +kernel
 have H2 : ∀ q, ∀ a ∈ wdS, (partS q (some a)).length ≤ 20 := by decide +kernel
 have H0 : ∀ q, (partS q none).length ≤ 20 := by decide +kernel
 have e1 : (partS q a).length ≤ 20 := by cases a with
  | none => exact H0 q
  | some a => exact H1 q a (h1 a rfl)
 have e2 : (partS q b).length ≤ 20 := by cases b with
  | none => exact H0 q
  | some a => exact H2 q a (h2 a rfl)
 show (((("{" : Str) ++ partS q a) ++ ("}" : Str)) ++ partS q b).length ≤ 60
 rw [strLen_append, strLen_append, strLen_append]
 have l1 : ("{" : Str).length = 1 := rfl
 have l2 : ("}" : Str).length = 1 := rfl
 omega
end
end Mine
namespace Mine
open PySem PySem.Calls PyProof.Rows PySem.W
def keepSp (s : Sp) : Option Str → Bool := (keepOf (textS false s)).getD fun _ => false
def ksOf (sc : List Int) : List (Option Str → Bool) := (zH sc).map keepSp
theorem keepOf_sp (s : Sp) (h : gSp s) : keepOf (textS false s) = some (keepSp s) := by
 have H : (keepOf (textS false s)).isSome = true := by
  obtain ⟨a, b⟩ := s
  obtain ⟨h1, h2, h3⟩ := h
  have H1 : ∀ a ∈ spS, (keepOf (textS false (some a, none))).isSome = true := by decide +kernel
  have H2 : ∀ b ∈ wdS, (keepOf (textS false (none, some b))).isSome = true := by decide +kernel
  have H0 : (keepOf (textS false (none, none))).isSome = true := by decide +kernel
  cases a with
  | none => cases b with
   | none => exact H0
   | some b => exact H2 b (h2 b rfl)
  | some a => cases b with
   | none => exact H1 a (h1 a rfl)
   | some b => rcases h3 with h | h <;> cases h
 unfold keepSp
 cases q : keepOf (textS false s) with
 | none => rw [q] at H; cases H
 | some z => rfl
section
variable {G : Gd} {k : Nat} {cf : Cf} {sc : List Int} {A : Around} {Xc Y : List Addr} {s : Shared} {env : Env} {Kf : Frag} {C fI P : Addr}
set_option maxHeartbeats 1000000 in
theorem law7 (L : LawCf cf sc) (R : RedCf G k cf Kf C fI P) (hrow : ∀ i, (rowAt (zG sc) (ksOf sc) i).length ≤ 100 ∧ ((rowAt (zG sc) (ksOf sc) i).flatMap fun (i : Nat) => zP (zG sc) i).length ≤ 100) {f : Addr} (DR : DownReady G (Y ++ Xc) s.heap f (zG sc))
  (c : StC G (k + 3) A Xc Y s env k26 (rho26 (scD sc) (nuD sc) (toD sc) .unb (zM sc) .unb (paD sc) (.opq f) .unb .unb .unb .unb .unb (noD sc) (trD sc))) {E : Value → Shared → Prop} :
  wpAny (model G.prog G.w) A (exec (lawSt 7) env) (PostX G (k + 3) A Xc env k26 Y s (.next (rho26 (scD sc) (nuD sc) (toD sc) .unb (zM sc) .unb (paD sc) (.opq f) (.lst ((rowAt (zG sc) (ksOf sc) (zH sc).length).map fun (i : Nat) => .int (i : Int))) .unb .unb .unb .unb (noD sc) (trD sc)))) E s := by
 have bd : bigD = 1000000 := rfl
 obtain ⟨p1, p2, p3, p4, p5, p6, p7, p8, p9, pa, pb, pc, pg, ph, csc, e, hn, hk, hl⟩ : ∃ p1 p2 p3 p4 p5 p6 p7 p8 p9 pa pb pc pg ph csc, lawSt 7 = .Assign [.Name "found" p1] (.ListComp (.Attribute (.Name "node" p2) "root" p3) [⟨.Name "node" p4, .Call (.Name "reduce" p5) [.Name "down" p6, .Name "paths" p7, .List [.Subscript (.Name "nodes" p8) (.Constant (.int 0) 0 p9) pa] pb] [] pc, [], 0⟩] csc pg) ph ∧ csc.names = ([(".0", .local), ("node", .local)] : Kn) ∧ csc.kind = .function ∧ (p1.line == pg.line) = true := ⟨_, _, _, _, _, _, _, _, _, _, _, _, _, _, _, rfl, rfl, rfl, by decide⟩
 rw [e]
 obtain ⟨s1, s2, s3⟩ := steps_facts sc
 obtain ⟨g, w, l⟩ := tree_facts sc
 have hlen : (zG sc).length ≤ 100 := w.len
 have ok3 := R.PC.ok.le (k' := k + 3) (by omega)
 have ok2 := R.PC.ok.le (k' := k + 2) (by omega)
 obtain ⟨o38, fd38, r38⟩ := R.r38
 obtain ⟨o106, fd106, r106⟩ := R.r106
 obtain ⟨o98, h98, n98⟩ := R.m98
 have hB : ∀ i : Int, cf.Φ 125 [treeD (zG sc), .int i] = some (.lst ((zP (zG sc) i).map fun (k : Nat) => .int (k : Int))) := fun i => L.below i
 have hkl : (ksOf sc).length = (zH sc).length := by unfold ksOf; rw [List.length_map]
 have SF : StepF G (k + 2) f (fun X h => DownReady G X h f (zG sc)) (fun i => ((rowAt (zG sc) (ksOf sc) i).map (nodeOf (zG sc))).map ndD) ((zH sc).map (textS false)) := by
  refine ⟨fun R hX g => R.gr hX g, fun R hX => R.lift hX, fun {X h} R => ?_, fun i hi A X s a b DR' room cx xok ra rb E => ?_⟩
  ·obtain ⟨qual, params, body, scope, clos, pm, cv, ctv, v1, v2, c1, c2, ID, h1, h2, _⟩ := R
   exact ⟨_, _, h2, rfl, h1⟩
  ·rw [List.length_map] at hi
   have hi' : i < (ksOf sc).length := by omega
   have ek : (ksOf sc)[i] = keepSp (zH sc)[i] := by simp [ksOf]
   have hmem := List.getElem_mem hi
   have := text_len _ (s1 _ hmem) false
   obtain ⟨h1, h2⟩ := hrow i
   rw [List.getElem_map] at rb
   refine wpAny_mono (down_call R.PC R.hC r38 hB L.gbelow L.list L.gprep hlen (tag_len g) (keepOf_sp _ (s1 _ hmem)) (by omega) (by omega) (by omega) DR' room cx xok ra rb) (fun u s' h => ⟨h.1, ?_⟩) fun _ _ e => e
   have e1 := rowAt_succ (zG sc) (ksOf sc) i hi'
   rw [ek] at e1
   show Rd G.C X s'.heap (.lst (((rowAt (zG sc) (ksOf sc) (i + 1)).map (nodeOf (zG sc))).map ndD)) u
   rw [e1]
   exact h.2
 refine loc_comp (n := 9) ok3 c (z := "found") (x := "node") (d := .lst (((rowAt (zG sc) (ksOf sc) (zH sc).length).map (nodeOf (zG sc))).map ndD)) (ds := (rowAt (zG sc) (ksOf sc) (zH sc).length).map fun i => ndD (nodeOf (zG sc) i)) (by decide) (by rw [hl, hn]; decide) (by rw [hn]; rfl) hk ?_ (fun _ => rfl) ?_ ?_ E
 ·intro E'
  have e0 : evD cf 6 k26 (rho26 (scD sc) (nuD sc) (toD sc) .unb (zM sc) .unb (paD sc) (.opq f) .unb .unb .unb .unb .unb (noD sc) (trD sc)) (.List [.Subscript (.Name "nodes" p8) (.Constant (.int 0) 0 p9) pa] pb) = some (.lst (((rowAt (zG sc) (ksOf sc) 0).map (nodeOf (zG sc))).map ndD)) := by
   refine evD_list (n := 5) (zC (n := 4) (d := ndD (nodeOf (zG sc) 0)) (evD_sub (n := 2) (zA (n := 2) (by decide) rfl rfl) ?_) zD) rfl
   have hz := idx_lst (ds := ((List.range (zG sc).length).map (nodeOf (zG sc))).map ndD) (n := 0) (by simpa using w.pos) (by simp; omega)
   exact hz.trans (congrArg some (by simp))
  have ha : evL cf 9 k26 (rho26 (scD sc) (nuD sc) (toD sc) .unb (zM sc) .unb (paD sc) (.opq f) .unb .unb .unb .unb .unb (noD sc) (trD sc)) [.Name "down" p6, .Name "paths" p7, .List [.Subscript (.Name "nodes" p8) (.Constant (.int 0) 0 p9) pa] pb] = some [.opq f, .lst (((zH sc).map (textS false)).map .str), .lst (((rowAt (zG sc) (ksOf sc) 0).map (nodeOf (zG sc))).map ndD)] := by
   refine zC (n := 8) (zA (n := 7) (by decide) rfl rfl) (zC (n := 7) ?_ (zC (n := 6) e0 zD))
   rw [List.map_map]
   exact zA (n := 6) (by decide) rfl rfl
  refine callN_fun (n := 9) ok3 c.cxt (zB (n := 8) (by decide) rfl (by decide) L.greduce) r106.ho r106.hd ha fun s₁ vs g₁ rv => ?_
  have c₁ := c.gr g₁
  refine wpAny_mono (reduce_call ok2 r106 L.iter L.mis h98 n98 SF c₁.room c₁.cx c₁.xok (DR.gr c.xok.tabs g₁) (forall2_pure rv rfl)) (fun u s₂ h => ⟨g₁.trans h.1, Rd.rv ?_⟩) fun _ _ e => e
  have := h.2
  rw [List.length_map] at this
  exact this
 ·rw [items_lst (by simp; have := (hrow (zH sc).length).1; omega), map_map_nd]
 ·rw [hn]
  refine (compD_all _ _ (fun i => ndD (nodeOf (zG sc) i)) (fun _ => true) (fun (i : Nat) => .int (i : Int)) _ (fun i _ => rfl) (fun i _ _ => ?_) fun i _ _ => rfl).trans ?_
  ·rw [q_root]
   rfl
  ·rw [filter_all]
end
end Mine
namespace Mine
open PySem PySem.Calls PyProof.Rows PySem.W
theorem strs_ok : (∀ a ∈ spS, ∀ c ∈ a.cps.toList, c = 97 ∨ c = 98 ∨ c = 117 ∨ c = 42 ∨ c = 63 ∨ c = 91) ∧ (∀ b ∈ wdS, ∀ c ∈ b.cps.toList, c = 97 ∨ c = 98 ∨ c = 117 ∨ c = 42 ∨ c = 63 ∨ c = 91) := by decide +kernel
theorem gSp_ok {s : Sp} (h : gSp s) : spOk s := ⟨fun x q => strs_ok.1 x (h.1 x q), fun x q => strs_ok.2 x (h.2.1 x q)⟩
theorem gNm_ok {a b : Str} (h : gNm (some (a, b))) : nmOk (a, b) := ⟨strs_ok.1 a (h a b rfl).1, strs_ok.2 b (h a b rfl).2⟩
theorem evD_joinC {cf : Cf} {n : Nat} {K : Kn} {ρ : Rho} {x : Str} {kk : Nat} {p apos pos : Pos} {a : Expr} {xs : List Str} (hc : (apos.endLine == pos.line) = true) (ha : evD cf n K ρ a = some (.lst (xs.map .str))) (hb : lensS xs + xs.length * x.length ≤ bigD) :
  evD cf (n + 2) K ρ (.Call (.Attribute (.Constant (.str x) kk p) "join" apos) [a] [] pos) = some (.str (Txt.join x xs)) := by
 have hn : ∃ m, n = m + 1 := by
  cases n with
  | zero => unfold evD at ha; cases ha
  | succ m => exact ⟨m, rfl⟩
 obtain ⟨m, rfl⟩ := hn
 rw [q_meth]
 have h1 : (isCN (.Constant (.str x) kk p) && (apos.endLine == pos.line) && Nat.ble ([] : List Expr).length 20) = true := by rw [hc]; rfl
 rw [h1]
 dsimp only
 rw [q_str]
 dsimp only
 rw [zC (n := m + 1) ha zD]
 dsimp only
 have h2 : ([D.lst (xs.map .str)]).all (argOk (.blt "")) = true := rfl
 rw [h2]
 dsimp only
 rw [meth_join, join_ok x xs hb]
theorem lensS_le {xs : List Str} {m : Nat} (h : ∀ x ∈ xs, x.length ≤ m) : lensS xs ≤ xs.length * m := by
 induction xs with
 | nil => exact Nat.zero_le _
 | cons a r ih =>
  have h1 := h a (.head _)
  have h2 := ih fun x hx => h x (.tail _ hx)
  show a.length + lensS r ≤ (r.length + 1) * m
  rw [Nat.succ_mul]; omega
def exC2 (cf : Cf) (n : Nat) (K : Kn) (csc : Scope) (z x y : Str) (elt i1 i2 : Expr) (ρ : Rho) : Option Out := match goodComp csc.names K ρ x with
 | true => (match evD cf n K ρ i1 with
  | some d => (match itemsD d with
   | some ds => (match catD (els2 cf n K ρ csc x y elt i2) ds with
    | some all => (match Nat.ble all.length 1000 with | true => some (.next (stD ρ z (.lst all))) | false => none)
    | none => none)
   | none => none)
  | none => none)
 | false => none
theorem ExS.one {G : Gd} {k : Nat} {K : Kn} {ρ ρ' : Rho} {st : Stmt} (h : ExS G k K ρ st (.next ρ')) : ExL G k K ρ [st] (.next ρ') := by
 intro A Xc Y s env c E
 refine wpAny_execs_cons (wpAny_mono (h A Xc Y s env c E) (fun f s₁ p => ?_) fun _ _ e => e)
 have p' := p
 obtain ⟨Y₁, t, rfl, c₁⟩ := p
 exact wpAny_execs_nil p'
section
variable {G : Gd} {k : Nat} {cf : Cf} {sc : List Int}
theorem exC2_ok (ok : CfOk G cf k) {n : Nat} {K : Kn} {ρ : Rho} {z x y : Str} {pz px py pos spos : Pos} {elt i1 i2 : Expr} {csc : Scope} (hz : K.lookup z = some .local) (hl : (pz.line == pos.line && !(csc.names.any fun q => q.1 == z && (q.2 == .local || q.2 == .cell))) = true)
  (hk : csc.kind = .function) (hy : csc.names.lookup y = some .local) (hxy : x ≠ y) {o : Out} (h : exC2 cf n K csc z x y elt i1 i2 ρ = some o) : ExL G k K ρ [.Assign [.Name z pz] (.ListComp elt [⟨.Name x px, i1, [], 0⟩, ⟨.Name y py, i2, [], 0⟩] csc pos) spos] o := by
 unfold exC2 at h
 split at h
 ·rename_i hg
  split at h
  ·rename_i d hi
   split at h
   ·rename_i ds hd
    split at h
    ·rename_i all hc
     split at h
     ·rename_i hb
      cases h
      exact ExS.one (x_locComp2 ok hz hl hg hk hy hxy hi hd hc (Nat.le_of_ble_eq_true hb))
     ·cases h
    ·cases h
   ·cases h
  ·cases h
 ·cases h
abbrev foD (sc : List Int) : D := .lst ((rowAt (zG sc) (ksOf sc) (zH sc).length).map fun (i : Nat) => .int (i : Int))
abbrev pcD (sc : List Int) : D := .lst (lsD (zS (pathT (zH sc))))
abbrev lvD (r : List Nat) : D := .lst (r.map fun (i : Nat) => .int (i : Int))
theorem law8 (L : LawCf cf sc) (ok : CfOk G cf k) {f : Addr} : ExS G k k26 (rho26 (scD sc) (nuD sc) (toD sc) .unb (zM sc) .unb (paD sc) (.opq f) (foD sc) .unb .unb .unb .unb (noD sc) (trD sc)) (lawSt 8) (.next (rho26 (scD sc) (nuD sc) (toD sc) .unb (zM sc) .unb (paD sc) (.opq f) (foD sc) (pcD sc) .unb .unb .unb (noD sc) (trD sc))) := by
 have bd : bigD = 1000000 := rfl
 obtain ⟨p1, p2, p3, p4, p5, p6, p7, p8, p9, pa, pb, pc, pd, pe, pf, pg, csc, e, hn, hk, hl⟩ : ∃ p1 p2 p3 p4 p5 p6 p7 p8 p9 pa pb pc pd pe pf pg csc, lawSt 8 = .Assign [.Name "pieces" p1] (.Call (.Name "_law_pieces" p2) [.Call (.Name "translate" p3) [.Call (.Attribute (.Constant (.str "/") 0 p4) "join" p5) [.ListComp (.Call (.Name "_law_text" p6) [.Name "step" p7, .Constant (.bool true) 0 p8] [] p9) [⟨.Name "step" pa, .Name "steps" pb, [], 0⟩] csc pc] [] pd] [] pe] [] pf) pg ∧ csc.names = ([(".0", .local), ("step", .local), ("_law_text", .globalImplicit)] : Kn) ∧ csc.kind = .function ∧ (p5.endLine == pd.line) = true := ⟨_, _, _, _, _, _, _, _, _, _, _, _, _, _, _, _, _, rfl, rfl, rfl, by decide⟩
 rw [e]
 obtain ⟨s1, s2, s3⟩ := steps_facts sc
 have hp := path_text (zH sc) fun s hs => gSp_ok (s1 s hs)
 refine x_assign (n := 13) ok (d := pcD sc) (by decide) ?_ rfl fun env _ => rfl
 refine zE (n := 12) rfl (zB (n := 11) (by decide) rfl (by decide) L.gpieces) (zC (n := 11) ?_ zD) rfl L.pieces
 refine zE (n := 10) rfl (zB (n := 9) (by decide) rfl (by decide) L.gtrans) (zC (n := 9) ?_ zD) rfl L.trans
 rw [← hp]
 refine evD_joinC (n := 7) hl (xs := (zH sc).map (textS true)) ?_ ?_
 ·rw [List.map_map]
  refine comp_row cf (n := 6) (d := zM sc) (ds := (zH sc).map zT) (by rw [hn, hk]; rfl) (zA (n := 5) (by decide) rfl rfl) (items_lst (by rw [List.length_map]; omega)) ?_
  rw [hn]
  have hr : relK ([(".0", .local), ("step", .local), ("_law_text", .globalImplicit)] : Kn) k26 = ([(".0", .local), ("step", .local), ("_law_text", .globalImplicit)] : Kn) := by rfl
  have hf : (rho26 (scD sc) (nuD sc) (toD sc) .unb (zM sc) .unb (paD sc) (.opq f) (foD sc) .unb .unb .unb .unb (noD sc) (trD sc)).filter (fun q => freeIn ([(".0", .local), ("step", .local), ("_law_text", .globalImplicit)] : Kn) q.1) = ([] : Rho) := by rfl
  rw [hr, hf]
  refine (compD_all _ _ zT (fun _ => true) (fun s => .str (textS true s)) (zH sc) (fun i _ => rfl) (fun s hs _ => ?_) fun i _ _ => rfl).trans ?_
  ·exact zE (n := 5) rfl (zB (n := 4) (by decide) rfl (by decide) L.gtext) (zC (n := 4) (zA (n := 3) (by decide) rfl (stepD_pure s)) (zC (n := 3) evD_bool zD)) (by simp only [List.all_cons, List.all_nil, Bool.and_true, argOk]; rw [stepD_pure]; rfl) (L.text _ _ (s1 s hs))
  ·rw [filter_all]; rfl
 ·have h1 : lensS ((zH sc).map (textS true)) ≤ ((zH sc).map (textS true)).length * 60 := lensS_le fun x hx => by
   obtain ⟨s, hs, rfl⟩ := List.mem_map.mp hx
   exact text_len s (s1 s hs) true
  have h2 : ("/" : Str).length = 1 := rfl
  rw [h2]
  rw [List.length_map] at *
  omega
theorem law9 (ok : CfOk G cf k) {f : Addr} : ExS G k k26 (rho26 (scD sc) (nuD sc) (toD sc) .unb (zM sc) .unb (paD sc) (.opq f) (foD sc) (pcD sc) .unb .unb .unb (noD sc) (trD sc)) (lawSt 9) (.next (rho26 (scD sc) (nuD sc) (toD sc) .unb (zM sc) .unb (paD sc) (.opq f) (foD sc) (pcD sc) (lvD [0]) .unb .unb (noD sc) (trD sc))) := by
 obtain ⟨p1, p2, p3, p4, e⟩ : ∃ p1 p2 p3 p4, lawSt 9 = .Assign [.Name "level" p1] (.List [.Constant (.int 0) 0 p2] p3) p4 := ⟨_, _, _, _, rfl⟩
 rw [e]
 exact x_assign (n := 9) ok (d := lvD [0]) (by decide) (evD_list (n := 8) (zC (n := 7) evD_int zD) rfl) rfl fun env _ => rfl
def levelN (t : List (Int × Nm)) (r : List Nat) : Nat → List Nat
 | 0 => r
 | i + 1 => levelN t (r.flatMap fun (i : Nat) => zP t i) i
theorem els_level {t : List (Int × Nm)} (L : LawCf cf sc) (e0 : t = zG sc) {K : Kn} {ρ : Rho} {csc : Scope} (hn : csc.names = ([(".0", .local), ("n", .local), ("k", .local), ("_law_below", .globalImplicit), ("tree", .free)] : Kn)) (hf : ρ.filter (fun q => freeIn csc.names q.1) = ([("tree", treeD t)] : Rho)) (hr : relK csc.names K = ([(".0", .local), ("n", .local), ("k", .local), ("_law_below", .globalImplicit), ("tree", .cell)] : Kn))
  (ht : t.length ≤ 100) (h0 : 0 < t.length) (i : Nat) {p2 p4 p5 p6 p7 : Pos} :
  els2 cf 8 K ρ csc "n" "k" (.Name "k" p2) (.Call (.Name "_law_below" p4) [.Name "tree" p5, .Name "n" p6] [] p7) (.int (i : Int)) = some ((zP t i).map fun (j : Nat) => .int (j : Int)) := by
 have bd : bigD = 1000000 := rfl
 have hlen : (zP t i).length ≤ 100 := by
  unfold zP
  rw [List.length_map]
  refine Nat.le_trans (List.length_filter_le _ _) ?_
  rw [List.length_range]; omega
 have e2 : evD cf 8 ([(".0", .local), ("n", .local), ("k", .local), ("_law_below", .globalImplicit), ("tree", .cell)] : Kn) [("n", .int (i : Int)), ("tree", treeD t)] (.Call (.Name "_law_below" p4) [.Name "tree" p5, .Name "n" p6] [] p7) = some (.lst ((zP t i).map fun (k : Nat) => .int (k : Int))) :=
  zE (n := 7) rfl (zB (n := 6) (by decide) rfl (by decide) L.gbelow) (zC (n := 6) (zA (n := 5) (by decide) rfl rfl) (zC (n := 5) (zA (n := 4) (by decide) rfl rfl) zD)) rfl (by subst e0; exact L.below i)
 unfold els2
 rw [hf, hr, e2]
 dsimp only
 rw [items_lst (by rw [List.length_map]; omega)]
 exact catD_map _ fun j hj => ⟨zA (n := 7) (by decide) rfl rfl, rfl⟩
theorem law10_loop (L : LawCf cf sc) {f : Addr} {csc : Scope} (hn : csc.names = ([(".0", .local), ("n", .local), ("k", .local), ("_law_below", .globalImplicit), ("tree", .free)] : Kn)) {p2 p3 p4 p5 p6 p7 : Pos} (d12 d13 : D) (h12 : d12 = .unb) (h13 : d13 = .unb) : ∀ (ss : List Sp) (r : List Nat) (a6 : D), (a6 = .unb ∨ ∃ s, a6 = zT s) → (∀ i, (levelN (zG sc) r i).length ≤ 100) →
  ∃ a6', forD (exC2 cf 8 k26 csc "level" "n" "k" (.Name "k" p2) (.Name "level" p3) (.Call (.Name "_law_below" p4) [.Name "tree" p5, .Name "n" p6] [] p7)) "step" (ss.map zT) (rho26 (scD sc) (nuD sc) (toD sc) .unb (zM sc) a6 (paD sc) (.opq f) (foD sc) (pcD sc) (lvD r) d12 d13 (noD sc) (trD sc)) = some (.next (rho26 (scD sc) (nuD sc) (toD sc) .unb (zM sc) a6' (paD sc) (.opq f) (foD sc) (pcD sc) (lvD (levelN (zG sc) r ss.length)) d12 d13 (noD sc) (trD sc))) ∧ (a6' = .unb ∨ ∃ s, a6' = zT s)
 | [], r, a6, h6, _ => ⟨a6, rfl, h6⟩
 | s :: ss, r, a6, h6, hb => by
  subst h12 h13
  have bd : bigD = 1000000 := rfl
  obtain ⟨g, w, l⟩ := tree_facts sc
  have h0 := hb 0
  have h1 := hb 1
  have hr0 : r.length ≤ 100 := h0
  have hr1 : (r.flatMap fun (i : Nat) => zP (zG sc) i).length ≤ 100 := h1
  obtain ⟨a6', e, q⟩ := law10_loop L (f := f) hn (p2 := p2) (p3 := p3) (p4 := p4) (p5 := p5) (p6 := p6) (p7 := p7) .unb .unb rfl rfl ss (r.flatMap fun (i : Nat) => zP (zG sc) i) (zT s) (.inr ⟨s, rfl⟩) (fun i => hb (i + 1))
  refine ⟨a6', ?_, q⟩
  rw [List.map_cons, forD, stepD_pure]
  dsimp only
  have es : stD (rho26 (scD sc) (nuD sc) (toD sc) .unb (zM sc) a6 (paD sc) (.opq f) (foD sc) (pcD sc) (lvD r) .unb .unb (noD sc) (trD sc)) "step" (zT s) = rho26 (scD sc) (nuD sc) (toD sc) .unb (zM sc) (zT s) (paD sc) (.opq f) (foD sc) (pcD sc) (lvD r) .unb .unb (noD sc) (trD sc) := by
   rcases h6 with rfl | ⟨z, rfl⟩ <;> rfl
  rw [es]
  have hgc : goodComp csc.names k26 (rho26 (scD sc) (nuD sc) (toD sc) .unb (zM sc) (zT s) (paD sc) (.opq f) (foD sc) (pcD sc) (lvD r) .unb .unb (noD sc) (trD sc)) ("n" : Str) = true := by rw [hn]; rfl
  have hex : exC2 cf 8 k26 csc "level" "n" "k" (.Name "k" p2) (.Name "level" p3) (.Call (.Name "_law_below" p4) [.Name "tree" p5, .Name "n" p6] [] p7) (rho26 (scD sc) (nuD sc) (toD sc) .unb (zM sc) (zT s) (paD sc) (.opq f) (foD sc) (pcD sc) (lvD r) .unb .unb (noD sc) (trD sc)) =
    some (.next (rho26 (scD sc) (nuD sc) (toD sc) .unb (zM sc) (zT s) (paD sc) (.opq f) (foD sc) (pcD sc) (lvD (r.flatMap fun (i : Nat) => zP (zG sc) i)) .unb .unb (noD sc) (trD sc))) := by
   unfold exC2
   rw [hgc]
   dsimp only
   rw [zA (n := 7) (d := lvD r) (by decide) rfl rfl]
   dsimp only
   rw [items_lst (by rw [List.length_map]; omega)]
   dsimp only
   rw [catD_flat r fun i _ => els_level (t := zG sc) L rfl hn (by rw [hn]; rfl) (by rw [hn]; rfl) w.len w.pos i]
   dsimp only
   rw [Nat.ble_eq_true_of_le (by rw [List.length_map]; omega)]
   rfl
  rw [hex]
  exact e
theorem law10 (L : LawCf cf sc) (ok : CfOk G cf k) (hb : ∀ i, (levelN (zG sc) [0] i).length ≤ 100) {f : Addr} : ∃ a6, (a6 = .unb ∨ ∃ s, a6 = zT s) ∧ ExS G k k26 (rho26 (scD sc) (nuD sc) (toD sc) .unb (zM sc) .unb (paD sc) (.opq f) (foD sc) (pcD sc) (lvD [0]) .unb .unb (noD sc) (trD sc)) (lawSt 10) (.next (rho26 (scD sc) (nuD sc) (toD sc) .unb (zM sc) a6 (paD sc) (.opq f) (foD sc) (pcD sc) (lvD (levelN (zG sc) [0] (zH sc).length)) .unb .unb (noD sc) (trD sc))) := by
 have bd : bigD = 1000000 := rfl
 obtain ⟨p1, p2, p3, p4, p5, p6, p7, p8, p9, pa, pb, pc, pd, pe, csc, e, hn, hk, hl⟩ : ∃ p1 p2 p3 p4 p5 p6 p7 p8 p9 pa pb pc pd pe csc, lawSt 10 = .For (.Name "step" p1) (.Name "steps" p8) [.Assign [.Name "level" p9] (.ListComp (.Name "k" p2) [⟨.Name "n" pa, .Name "level" p3, [], 0⟩, ⟨.Name "k" pb, .Call (.Name "_law_below" p4) [.Name "tree" p5, .Name "n" p6] [] p7, [], 0⟩] csc pc) pd] [] pe ∧ csc.names = ([(".0", .local), ("n", .local), ("k", .local), ("_law_below", .globalImplicit), ("tree", .free)] : Kn) ∧ csc.kind = .function ∧ (p9.line == pc.line) = true := ⟨_, _, _, _, _, _, _, _, _, _, _, _, _, _, _, rfl, rfl, rfl, by decide⟩
 rw [e]
 obtain ⟨s1, s2, s3⟩ := steps_facts sc
 obtain ⟨a6, h, q⟩ := law10_loop L (f := f) hn (p2 := p2) (p3 := p3) (p4 := p4) (p5 := p5) (p6 := p6) (p7 := p7) .unb .unb rfl rfl (zH sc) [0] .unb (.inl rfl) hb
 refine ⟨a6, q, x_forG (n := 9) ok (by decide) (zA (n := 8) (by decide) rfl rfl) (items_lst (by rw [List.length_map]; omega)) _ (fun ρ o h => exC2_ok ok (by decide) (by rw [hl, hn]; decide) hk (by rw [hn]; decide) (by decide) h) h⟩
end
end Mine
namespace Mine
open PySem PySem.Calls PyProof.Rows PySem.W
abbrev ownI (r : List Nat) : D := .own (r.map fun (i : Nat) => .int (i : Int))
def allS : List Nm → Option (List (Str × Str))
 | [] => some []
 | none :: _ => none
 | some p :: r => (match allS r with | some l => some (p :: l) | none => none)
theorem allS_map : ∀ {l : List Nm} {ns : List (Str × Str)}, allS l = some ns → l = ns.map some
 | [], ns, h => by cases h; rfl
 | none :: r, ns, h => by cases h
 | some p :: r, ns, h => by
  unfold allS at h
  cases q : allS r with
  | none => rw [q] at h; cases h
  | some l => rw [q] at h; cases h; rw [List.map_cons, allS_map q]
def takes (ss : List Sp) (w : List Nm) : Bool := match allS w with
 | none => false
 | some ns => takenS ((zS (pathT ss)).map st) (st (wayText ns))
theorem notIn_way : ∀ (w : List Nm), cmpD .NotIn .none (.lst (w.map nmD)) = some (allS w).isSome := by
 have key : ∀ (w : List Nm), anyEq .none (w.map nmD) = some (!(allS w).isSome) := by
  intro w
  induction w with
  | nil => rfl
  | cons x r ih =>
   cases x with
   | none => rw [List.map_cons, anyEq]; simp only [nmD, itemEq]; rw [ih]; simp [allS]
   | some p =>
    obtain ⟨a, b⟩ := p
    rw [List.map_cons, anyEq]; simp only [nmD, itemEq]; rw [ih]
    have e : allS (some (a, b) :: r) = (match allS r with | some l => some ((a, b) :: l) | none => none) := rfl
    rw [e]
    cases allS r <;> rfl
 intro w
 show (match inD .none (.lst (w.map nmD)) with | some c => some (!c) | none => none) = _
 have : inD .none (.lst (w.map nmD)) = anyEq .none (w.map nmD) := rfl
 rw [this, key]
 simp
theorem q_ifs (cf : Cf) (mu : List Str) (n : Nat) (K : Kn) (ρ : Rho) {t : Expr} {b o : List Stmt} {pos : Pos} {c : Bool} {r : Option Out} (h : tsD cf n K ρ t = some c) (h' : exL cf mu n K ρ (if c then b else o) = r) : exD cf mu (n + 1) K ρ (.If t b o pos) = r := by
 rw [q_sif, h]; cases c <;> exact h'
theorem own_eq (a b : List Nat) : cmpD .Eq (lvD a) (ownI b) = some (decide (a = b)) := by
 have e : ∀ a : List Nat, (a.map fun (i : Nat) => D.int (i : Int)) = (a.map fun (i : Nat) => (i : Int)).map .int := fun a => by rw [List.map_map]; rfl
 show (match (D.lst (a.map fun (i : Nat) => D.int (i : Int))).list? with
   | some xs => (match (D.own (b.map fun (i : Nat) => D.int (i : Int))).list? with
    | some ys => (match intsD xs with | some ns => (match intsD ys with | some ms => some (decide (ns = ms)) | none => none) | none => none)
    | none => none)
   | none => none) = _
 simp only [D.list?]
 rw [e a, e b, intsD_map, intsD_map]
 dsimp only
 congr 1
 refine decide_eq_decide.mpr ⟨fun h => ?_, fun h => by rw [h]⟩
 have := congrArg (List.map Int.toNat) h
 simpa [List.map_map, Function.comp_def] using this
theorem lst_eq (a b : List Nat) : cmpD .Eq (lvD a) (lvD b) = some (decide (a = b)) := own_eq a b
section
variable {G : Gd} {k : Nat} {cf : Cf} {sc : List Int}
abbrev rhoT (sc : List Int) (f : Addr) (n a6 : D) (lv : List Nat) (tk way : D) : Rho := rho26 (scD sc) (nuD sc) (toD sc) n (zM sc) a6 (paD sc) (.opq f) (foD sc) (pcD sc) (lvD lv) tk way (noD sc) (trD sc)
theorem law11 (ok : CfOk G cf k) {f : Addr} {a6 : D} (h6 : a6 = .unb ∨ ∃ s, a6 = zT s) {lv : List Nat} : ExS G k k26 (rhoT sc f .unb a6 lv .unb .unb) (lawSt 11) (.next (rhoT sc f .unb a6 lv (ownI []) .unb)) := by
 obtain ⟨p1, p3, p4, e⟩ : ∃ p1 p3 p4, lawSt 11 = .Assign [.Name "taken" p1] (.List [] p3) p4 := ⟨_, _, _, rfl⟩
 rw [e]
 have := x_own (G := G) (k := k) (n := 9) (cf := cf) ok (x := "taken") (px := p1) (pos := p4) (p := p3) (K := k26) (ρ := rhoT sc f .unb a6 lv .unb .unb) (es := []) (ds := []) (by decide) zD rfl
 rcases h6 with rfl | ⟨z, rfl⟩ <;> exact this
theorem lsD_map (ps : List (List Nat)) : lsD ps = (ps.map st).map .str := by unfold lsD; rw [List.map_map]; rfl
theorem name_len {w : List Nm} (h : ∀ x ∈ w, gNm x) {ns : List (Str × Str)} (e : w = ns.map some) : ∀ n ∈ ns, (nameS n).length ≤ 60 ∧ n.1.length ≤ 20 ∧ n.2.length ≤ 20 := by
 intro n hn
 have H1 : ∀ a ∈ spS, a.length ≤ 20 := by decide +kernel
 have H2 : ∀ a ∈ wdS, a.length ≤ 20 := by decide +kernel
 obtain ⟨a, b⟩ := n
 obtain ⟨h1, h2⟩ := h (some (a, b)) (by rw [e]; exact List.mem_map_of_mem hn) a b rfl
 have g1 := H1 a h1
 have g2 := H2 b h2
 refine ⟨?_, g1, g2⟩
 show (((("{" : Str) ++ a) ++ ("}" : Str)) ++ b).length ≤ 60
 rw [strLen_append, strLen_append, strLen_append]
 have l1 : ("{" : Str).length = 1 := rfl
 have l2 : ("}" : Str).length = 1 := rfl
 omega
end
end Mine
namespace Mine
open PySem PySem.Calls PyProof.Rows PySem.W
abbrev eltN (q1 q2 q3 q4 q5 q6 q7 q8 q9 qa qb : Pos) : Expr := .BinOp (.BinOp (.BinOp (.Constant (.str "{") 0 q1) .Add (.Subscript (.Name "name" q2) (.Constant (.int 0) 0 q3) q4) q5) .Add (.Constant (.str "}") 0 q6) q7) .Add (.Subscript (.Name "name" q8) (.Constant (.int 1) 0 q9) qa) qb
abbrev body12 (p3 p4 p5 p6 p7 p8 p9 pa pb pc pd pe pf pg ph pi pj pk pl pm pn po pp pq pr q1 q2 q3 q4 q5 q6 q7 q8 q9 qa qb : Pos) (csc : Scope) : List Stmt := [.Assign [.Name "way" p3] (.Call (.Name "_law_way" p4) [.Name "tree" p5, .Name "n" p6] [] p7) p8, .If (.BoolOp .And [.Compare (.Constant .none 0 p9) [.NotIn] [.Name "way" pa] pb, .Call (.Name "_law_taken" pc) [.Name "pieces" pd, .Call (.Attribute (.Constant (.str "/") 0 pe) "join" pf) [.ListComp (eltN q1 q2 q3 q4 q5 q6 q7 q8 q9 qa qb) [⟨.Name "name" pg, .Name "way" ph, [], 0⟩] csc pi] [] pj] [] pk] pl) [.Expr (.Call (.Attribute (.Name "taken" pm) "append" pn) [.Name "n" po] [] pp) pq] [] pr]
theorem s12 : ∃ p1 p2 p3 p4 p5 p6 p7 p8 p9 pa pb pc pd pe pf pg ph pi pj pk pl pm pn po pp pq pr ps q1 q2 q3 q4 q5 q6 q7 q8 q9 qa qb csc, lawSt 12 = .For (.Name "n" p1) (.Name "level" p2) (body12 p3 p4 p5 p6 p7 p8 p9 pa pb pc pd pe pf pg ph pi pj pk pl pm pn po pp pq pr q1 q2 q3 q4 q5 q6 q7 q8 q9 qa qb csc) [] ps ∧
  csc.names = ([(".0", .local), ("name", .local)] : Kn) ∧ csc.kind = .function ∧ (pf.endLine == pj.line) = true ∧ (pn.endLine == pp.line) = true := ⟨_, _, _, _, _, _, _, _, _, _, _, _, _, _, _, _, _, _, _, _, _, _, _, _, _, _, _, _, _, _, _, _, _, _, _, _, _, _, _, _, rfl, rfl, rfl, by decide, by decide⟩
section
variable {G : Gd} {k : Nat} {cf : Cf} {sc : List Int}
theorem elt_name {cf : Cf} {K : Kn} {n : Str × Str} (h1 : n.1.length ≤ 20) (h2 : n.2.length ≤ 20) {q1 q2 q3 q4 q5 q6 q7 q8 q9 qa qb : Pos} : evD cf 8 K [("name", nmD (some n))] (eltN q1 q2 q3 q4 q5 q6 q7 q8 q9 qa qb) = some (.str (nameS n)) := by
 have bd : bigD = 1000000 := rfl
 have l1 : ("{" : Str).length = 1 := rfl
 have l2 : ("}" : Str).length = 1 := rfl
 obtain ⟨a, b⟩ := n
 refine evD_bin (n := 7) (evD_bin (n := 6) (evD_bin (n := 5) evD_str (evD_sub (n := 3) (zA (n := 3) (d := nmD (some (a, b))) (by decide) rfl rfl) (d := .str a) rfl) (add_strD ?_)) evD_str (add_strD ?_)) (evD_sub (n := 5) (zA (n := 5) (d := nmD (some (a, b))) (by decide) rfl rfl) (d := .str b) rfl) (add_strD ?_)
 ·dsimp only at h1; omega
 ·rw [strLen_append]; dsimp only at h1; omega
 ·rw [strLen_append, strLen_append]; dsimp only at h1 h2; omega
set_option maxHeartbeats 1000000 in
theorem body12_run (L : LawCf cf sc) {f : Addr} {a6 : D} (h6 : a6 = .unb ∨ ∃ s, a6 = zT s) {lv ts : List Nat} (hts : ts.length ≤ 1000) {wy : D} (hw : wy = .unb ∨ ∃ w, wy = .lst w) {i : Nat} (hi : i < (zG sc).length) {p3 p4 p5 p6 p7 p8 p9 pa pb pc pd pe pf pg ph pi pj pk pl pm pn po pp pq pr q1 q2 q3 q4 q5 q6 q7 q8 q9 qa qb : Pos} {csc : Scope}
  (hn : csc.names = ([(".0", .local), ("name", .local)] : Kn)) (hk : csc.kind = .function) (hp1 : (pf.endLine == pj.line) = true) (hp2 : (pn.endLine == pp.line) = true) (hps : 2 ≤ (zS (pathT (zH sc))).length ∧ (zS (pathT (zH sc))).length ≤ 1000 ∧ ∀ p ∈ zS (pathT (zH sc)), p.length ≤ bigD) :
  exL cf ["taken"] 21 k26 (rhoT sc f (.int (i : Int)) a6 lv (ownI ts) wy) (body12 p3 p4 p5 p6 p7 p8 p9 pa pb pc pd pe pf pg ph pi pj pk pl pm pn po pp pq pr q1 q2 q3 q4 q5 q6 q7 q8 q9 qa qb csc) =
   some (.next (rhoT sc f (.int (i : Int)) a6 lv (ownI (ts ++ if takes (zH sc) (wayL (zG sc) i) then [i] else [])) (.lst ((wayL (zG sc) i).map nmD)))) := by
 have bd : bigD = 1000000 := rfl
 obtain ⟨g, w, l⟩ := tree_facts sc
 have wl := wayL_len w hi
 have wlen : (wayL (zG sc) i).length ≤ 100 := by have := w.len; omega
 have wg : ∀ x ∈ wayL (zG sc) i, gNm x := way_good g _ _
 have e1 : exD cf ["taken"] 20 k26 (rhoT sc f (.int (i : Int)) a6 lv (ownI ts) wy) (.Assign [.Name "way" p3] (.Call (.Name "_law_way" p4) [.Name "tree" p5, .Name "n" p6] [] p7) p8) = some (.next (rhoT sc f (.int (i : Int)) a6 lv (ownI ts) (.lst ((wayL (zG sc) i).map nmD)))) := by
  rw [q_asg_call]
  unfold asgD
  have hs : storable k26 "way" = true := by decide
  rw [hs]
  dsimp only
  have ev : evD cf 20 k26 (rhoT sc f (.int (i : Int)) a6 lv (ownI ts) wy) (.Call (.Name "_law_way" p4) [.Name "tree" p5, .Name "n" p6] [] p7) = some (.lst ((wayL (zG sc) i).map nmD)) :=
   zE (n := 19) rfl (zB (n := 18) (by decide) rfl (by decide) L.gway) (zC (n := 18) (d := trD sc) (zA (n := 17) (by decide) rfl rfl) (zC (n := 17) (zA (n := 16) (by decide) rfl rfl) zD)) rfl (L.way i hi)
  rw [ev]
  rcases h6 with rfl | ⟨z, rfl⟩ <;> rcases hw with rfl | ⟨y, rfl⟩ <;> rfl
 have hrho : (rhoT sc f (.int (i : Int)) a6 lv (ownI ts) (.lst ((wayL (zG sc) i).map nmD))).lookup ("way" : Str) = some (.lst ((wayL (zG sc) i).map nmD)) := rfl
 have t1 : tsD cf 16 k26 (rhoT sc f (.int (i : Int)) a6 lv (ownI ts) (.lst ((wayL (zG sc) i).map nmD))) (.Compare (.Constant .none 0 p9) [.NotIn] [.Name "way" pa] pb) = some (allS (wayL (zG sc) i)).isSome :=
  tsD_cmp (n := 15) evD_none (zA (n := 14) (by decide) hrho rfl) (notIn_way _)
 have t2 : ∀ ns, allS (wayL (zG sc) i) = some ns → tsD cf 15 k26 (rhoT sc f (.int (i : Int)) a6 lv (ownI ts) (.lst ((wayL (zG sc) i).map nmD))) (.Call (.Name "_law_taken" pc) [.Name "pieces" pd, .Call (.Attribute (.Constant (.str "/") 0 pe) "join" pf) [.ListComp (eltN q1 q2 q3 q4 q5 q6 q7 q8 q9 qa qb) [⟨.Name "name" pg, .Name "way" ph, [], 0⟩] csc pi] [] pj] [] pk) = some (takenS ((zS (pathT (zH sc))).map st) (st (wayText ns))) := by
  intro ns hns
  have em := allS_map hns
  have nl := name_len wg em
  have hll : ns.length ≤ 100 := by rw [em, List.length_map] at wlen; exact wlen
  have hbound : lensS (ns.map nameS) + (ns.map nameS).length * ("/" : Str).length ≤ 10000 := by
   have h1 : lensS (ns.map nameS) ≤ (ns.map nameS).length * 60 := lensS_le fun x hx => by
    obtain ⟨n, hn', rfl⟩ := List.mem_map.mp hx
    exact (nl n hn').1
   have h2 : ("/" : Str).length = 1 := rfl
   rw [h2]
   rw [List.length_map] at *
   omega
  have hjoin : evD cf 11 k26 (rhoT sc f (.int (i : Int)) a6 lv (ownI ts) (.lst ((wayL (zG sc) i).map nmD))) (.Call (.Attribute (.Constant (.str "/") 0 pe) "join" pf) [.ListComp (eltN q1 q2 q3 q4 q5 q6 q7 q8 q9 qa qb) [⟨.Name "name" pg, .Name "way" ph, [], 0⟩] csc pi] [] pj) = some (.str (st (wayText ns))) := by
   rw [← way_text ns]
   refine evD_joinC (n := 9) hp1 (xs := ns.map nameS) ?_ (by omega)
   rw [List.map_map]
   refine comp_row cf (n := 8) (d := .lst ((wayL (zG sc) i).map nmD)) (ds := (wayL (zG sc) i).map nmD) (by rw [hn, hk]; rfl) (zA (n := 7) (by decide) hrho rfl) (items_lst (by rw [List.length_map]; omega)) ?_
   rw [hn]
   have hr : relK ([(".0", .local), ("name", .local)] : Kn) k26 = ([(".0", .local), ("name", .local)] : Kn) := by rfl
   have hf : (rhoT sc f (.int (i : Int)) a6 lv (ownI ts) (.lst ((wayL (zG sc) i).map nmD))).filter (fun q => freeIn ([(".0", .local), ("name", .local)] : Kn) q.1) = ([] : Rho) := by rfl
   rw [hr, hf, em, List.map_map]
   refine (compD_all _ _ (nmD ∘ some) (fun _ => true) (fun n => .str (nameS n)) ns (fun i _ => rfl) (fun n hn' _ => ?_) fun i _ _ => rfl).trans ?_
   ·obtain ⟨_, h1, h2⟩ := nl n hn'
    exact elt_name h1 h2
   ·rw [filter_all]; rfl
  have hx : (st (wayText ns)).length ≤ bigD := by
   rw [← way_text ns]
   have := StrLaws.join_length_le ("/" : Str) (ns.map nameS)
   rw [jn_slash]
   have e1 : ((ns.map nameS).map (·.length)).sum = lensS (ns.map nameS) := rfl
   rw [e1] at this
   omega
  have hcall : evD cf 14 k26 (rhoT sc f (.int (i : Int)) a6 lv (ownI ts) (.lst ((wayL (zG sc) i).map nmD))) (.Call (.Name "_law_taken" pc) [.Name "pieces" pd, .Call (.Attribute (.Constant (.str "/") 0 pe) "join" pf) [.ListComp (eltN q1 q2 q3 q4 q5 q6 q7 q8 q9 qa qb) [⟨.Name "name" pg, .Name "way" ph, [], 0⟩] csc pi] [] pj] [] pk) = some (.bool (takenS ((zS (pathT (zH sc))).map st) (st (wayText ns)))) := by
   refine zE (n := 13) rfl (zB (n := 12) (by decide) rfl (by decide) L.gtaken) (zC (n := 12) (d := .lst (((zS (pathT (zH sc))).map st).map .str)) ?_ (zC (n := 11) hjoin zD)) rfl (L.taken _ _ (by rw [List.length_map]; exact hps.1) (by rw [List.length_map]; exact hps.2.1) (fun p hp => ?_) hx)
   ·rw [← lsD_map]
    exact zA (n := 11) (by decide) rfl rfl
   ·obtain ⟨q, hq, rfl⟩ := List.mem_map.mp hp
    rw [st_len]; exact hps.2.2 q hq
  rw [t_call, hcall]
  rfl
 have tt : tsD cf 18 k26 (rhoT sc f (.int (i : Int)) a6 lv (ownI ts) (.lst ((wayL (zG sc) i).map nmD))) (.BoolOp .And [.Compare (.Constant .none 0 p9) [.NotIn] [.Name "way" pa] pb, .Call (.Name "_law_taken" pc) [.Name "pieces" pd, .Call (.Attribute (.Constant (.str "/") 0 pe) "join" pf) [.ListComp (eltN q1 q2 q3 q4 q5 q6 q7 q8 q9 qa qb) [⟨.Name "name" pg, .Name "way" ph, [], 0⟩] csc pi] [] pj] [] pk] pl) = some (takes (zH sc) (wayL (zG sc) i)) := by
  rw [t_and, t_acons, t1]
  unfold takes
  cases hq : allS (wayL (zG sc) i) with
  | none => rfl
  | some ns =>
   rw [Option.isSome_some]
   dsimp only
   rw [t_acons, t2 ns hq]
   cases takenS ((zS (pathT (zH sc))).map st) (st (wayText ns)) <;> rfl
 have e2 : exD cf ["taken"] 19 k26 (rhoT sc f (.int (i : Int)) a6 lv (ownI ts) (.lst ((wayL (zG sc) i).map nmD))) (.If (.BoolOp .And [.Compare (.Constant .none 0 p9) [.NotIn] [.Name "way" pa] pb, .Call (.Name "_law_taken" pc) [.Name "pieces" pd, .Call (.Attribute (.Constant (.str "/") 0 pe) "join" pf) [.ListComp (eltN q1 q2 q3 q4 q5 q6 q7 q8 q9 qa qb) [⟨.Name "name" pg, .Name "way" ph, [], 0⟩] csc pi] [] pj] [] pk] pl) [.Expr (.Call (.Attribute (.Name "taken" pm) "append" pn) [.Name "n" po] [] pp) pq] [] pr) =
   some (.next (rhoT sc f (.int (i : Int)) a6 lv (ownI (ts ++ if takes (zH sc) (wayL (zG sc) i) then [i] else [])) (.lst ((wayL (zG sc) i).map nmD)))) := by
  refine q_ifs cf ["taken"] 18 k26 _ tt ?_
  cases takes (zH sc) (wayL (zG sc) i) with
  | false =>
   rw [if_neg (by decide), if_neg (by decide), List.append_nil]
   rfl
  | true =>
   rw [if_pos rfl, if_pos rfl, q_cons, q_append]
   have h1 : ((("append" : Str) == ("append" : Str)) && (pn.endLine == pp.line) && zO "taken") = true := by rw [hp2]; rfl
   rw [h1]
   dsimp only
   have h2 : (rhoT sc f (.int (i : Int)) a6 lv (ownI ts) (.lst ((wayL (zG sc) i).map nmD))).lookup ("taken" : Str) = some (ownI ts) := rfl
   rw [h2]
   dsimp only
   rw [zA (n := 15) (d := .int (i : Int)) (by decide) rfl rfl]
   dsimp only
   have h3 : ((D.int (i : Int)).pure && Nat.ble (ts.map fun (i : Nat) => D.int (i : Int)).length bigD) = true := by
    rw [Nat.ble_eq_true_of_le (by rw [List.length_map]; omega)]; rfl
   rw [h3]
   dsimp only
   have e : ownI (ts ++ [i]) = .own ((ts.map fun (i : Nat) => D.int (i : Int)) ++ [.int (i : Int)]) := by unfold ownI; rw [List.map_append]; rfl
   rw [e]
   rfl
 rw [q_cons, e1]
 dsimp only
 rw [q_cons, e2]
 rfl
end
end Mine
namespace Mine
open PySem PySem.Calls PyProof.Rows PySem.W
theorem evD_own {cf : Cf} {n : Nat} {K : Kn} {ρ : Rho} {x : Str} {p : Pos} {ds : List D} (hx : zO x = true) (hl : ρ.lookup x = some (.own ds)) : evD cf (n + 1) K ρ (.Name x p) = some (.own ds) := by
 unfold evD; dsimp only
 unfold zO at hx
 rw [if_neg (by simpa using hx), hl]
abbrev shUnb (d : D) : Prop := d = .unb ∨ ∃ w, d = .lst w
abbrev shInt (d : D) : Prop := d = .unb ∨ ∃ i, d = .int i
section
variable {G : Gd} {k : Nat} {cf : Cf} {sc : List Int}
def goodPieces (sc : List Int) : Prop := 2 ≤ (zS (pathT (zH sc))).length ∧ (zS (pathT (zH sc))).length ≤ 1000 ∧ ∀ p ∈ zS (pathT (zH sc)), p.length ≤ bigD
theorem law12_loop (L : LawCf cf sc) {f : Addr} {a6 : D} (h6 : a6 = .unb ∨ ∃ s, a6 = zT s) {lv : List Nat} {p3 p4 p5 p6 p7 p8 p9 pa pb pc pd pe pf pg ph pi pj pk pl pm pn po pp pq pr q1 q2 q3 q4 q5 q6 q7 q8 q9 qa qb : Pos} {csc : Scope}
  (hn : csc.names = ([(".0", .local), ("name", .local)] : Kn)) (hk : csc.kind = .function) (hp1 : (pf.endLine == pj.line) = true) (hp2 : (pn.endLine == pp.line) = true) (hps : goodPieces sc) : ∀ (l ts : List Nat) (n wy : D), shInt n → shUnb wy → ts.length + l.length ≤ 1000 → (∀ i ∈ l, i < (zG sc).length) →
  ∃ n' wy', shInt n' ∧ shUnb wy' ∧ forD (fun ρ => exL cf ["taken"] 21 k26 ρ (body12 p3 p4 p5 p6 p7 p8 p9 pa pb pc pd pe pf pg ph pi pj pk pl pm pn po pp pq pr q1 q2 q3 q4 q5 q6 q7 q8 q9 qa qb csc)) "n" (l.map fun (i : Nat) => .int (i : Int)) (rhoT sc f n a6 lv (ownI ts) wy) =
   some (.next (rhoT sc f n' a6 lv (ownI (ts ++ l.filter fun i => takes (zH sc) (wayL (zG sc) i))) wy'))
 | [], ts, n, wy, hn', hw, _, _ => ⟨n, wy, hn', hw, by rw [List.filter_nil, List.append_nil]; rfl⟩
 | i :: l, ts, n, wy, hn', hw, hlen, hlt => by
  have hi := hlt i (.head _)
  have hl2 : (ts ++ if takes (zH sc) (wayL (zG sc) i) then [i] else []).length + l.length ≤ 1000 := by
   rw [List.length_cons] at hlen
   rw [List.length_append]
   split <;> simp <;> omega
  obtain ⟨n', wy', a, b, e⟩ := law12_loop L h6 (f := f) (lv := lv) (p3 := p3) (p4 := p4) (p5 := p5) (p6 := p6) (p7 := p7) (p8 := p8) (p9 := p9) (pa := pa) (pb := pb) (pc := pc) (pd := pd) (pe := pe) (pg := pg) (ph := ph) (pi := pi) (pk := pk) (pl := pl) (pm := pm) (po := po) (pq := pq) (pr := pr) (q1 := q1) (q2 := q2) (q3 := q3) (q4 := q4) (q5 := q5) (q6 := q6) (q7 := q7) (q8 := q8) (q9 := q9) (qa := qa) (qb := qb) hn hk hp1 hp2 hps l (ts ++ if takes (zH sc) (wayL (zG sc) i) then [i] else []) (.int (i : Int)) (.lst ((wayL (zG sc) i).map nmD)) (.inr ⟨_, rfl⟩) (.inr ⟨_, rfl⟩) hl2 fun j hj => hlt j (.tail _ hj)
  refine ⟨n', wy', a, b, ?_⟩
  rw [List.map_cons, forD]
  have es : stD (rhoT sc f n a6 lv (ownI ts) wy) "n" (.int (i : Int)) = rhoT sc f (.int (i : Int)) a6 lv (ownI ts) wy := by
   rcases h6 with rfl | ⟨z, rfl⟩ <;> rcases hn' with rfl | ⟨z', rfl⟩ <;> rcases hw with rfl | ⟨z'', rfl⟩ <;> rfl
  rw [es, p_int]
  dsimp only
  rw [body12_run L h6 (by rw [List.length_cons] at hlen; omega) hw hi hn hk hp1 hp2 hps]
  dsimp only
  rw [e]
  have ef : (ts ++ if takes (zH sc) (wayL (zG sc) i) then [i] else []) ++ l.filter (fun i => takes (zH sc) (wayL (zG sc) i)) = ts ++ (i :: l).filter (fun i => takes (zH sc) (wayL (zG sc) i)) := by
   rw [List.filter_cons, List.append_assoc]
   split <;> rfl
  rw [ef]
theorem law12 (L : LawCf cf sc) (ok : CfOk G cf k) {f : Addr} {a6 : D} (h6 : a6 = .unb ∨ ∃ s, a6 = zT s) {lv : List Nat} (hps : goodPieces sc) (hl : lv.length ≤ 1000) (hlt : ∀ i ∈ lv, i < (zG sc).length) :
  ∃ n' wy', shInt n' ∧ shUnb wy' ∧ ExS G k k26 (rhoT sc f .unb a6 lv (ownI []) .unb) (lawSt 12) (.next (rhoT sc f n' a6 lv (ownI (lv.filter fun i => takes (zH sc) (wayL (zG sc) i))) wy')) := by
 have bd : bigD = 1000000 := rfl
 obtain ⟨p1, p2, p3, p4, p5, p6, p7, p8, p9, pa, pb, pc, pd, pe, pf, pg, ph, pi, pj, pk, pl, pm, pn, po, pp, pq, pr, ps, q1, q2, q3, q4, q5, q6, q7, q8, q9, qa, qb, csc, e, hn, hk, hp1, hp2⟩ := s12
 obtain ⟨n', wy', a, b, h⟩ := law12_loop L h6 (f := f) (lv := lv) (p3 := p3) (p4 := p4) (p5 := p5) (p6 := p6) (p7 := p7) (p8 := p8) (p9 := p9) (pa := pa) (pb := pb) (pc := pc) (pd := pd) (pe := pe) (pg := pg) (ph := ph) (pi := pi) (pk := pk) (pl := pl) (pm := pm) (po := po) (pq := pq) (pr := pr) (q1 := q1) (q2 := q2) (q3 := q3) (q4 := q4) (q5 := q5) (q6 := q6) (q7 := q7) (q8 := q8) (q9 := q9) (qa := qa) (qb := qb) hn hk hp1 hp2 hps lv [] .unb .unb (.inl rfl) (.inl rfl) (by simpa using hl) hlt
 rw [e]
 refine ⟨n', wy', a, b, x_for (n := 21) (mu := ["taken"]) ok (by decide) (d := lvD lv) (zA (n := 20) (by decide) rfl rfl) (items_lst (by rw [List.length_map]; omega)) (fun ρ o => (ex_sound ok ["taken"] 21).2 k26 ρ _ o) h⟩
theorem law13 (L : LawCf cf sc) (ok : CfOk G cf k) {f : Addr} {a6 n wy : D} (h6 : a6 = .unb ∨ ∃ s, a6 = zT s) (hn' : shInt n) (hw : shUnb wy) {lv tk : List Nat} (hl : lv.length ≤ 1000) (hlt : ∀ i ∈ lv, i < (zG sc).length)
  (h1 : rowAt (zG sc) (ksOf sc) (zH sc).length = tk) (h2 : rowAt (zG sc) (ksOf sc) (zH sc).length = lv.filter fun i => fitsL (wayL (zG sc) i) (zH sc)) : ExS G k k26 (rhoT sc f n a6 lv (ownI tk) wy) (lawSt 13) (.ret (.bool true)) := by
 have bd : bigD = 1000000 := rfl
 obtain ⟨p1, p2, p3, p4, p5, p6, p7, p8, p9, pa, pb, pc, pd, pe, pf, pg, ph, pi, csc, e, hn, hk⟩ : ∃ p1 p2 p3 p4 p5 p6 p7 p8 p9 pa pb pc pd pe pf pg ph pi csc, lawSt 13 = .Return (some (.BoolOp .And [.Compare (.Name "found" p1) [.Eq] [.Name "taken" p2] p3, .Compare (.Name "found" p4) [.Eq] [.ListComp (.Name "n" p5) [⟨.Name "n" p6, .Name "level" p7, [.Call (.Name "_law_fits" p8) [.Call (.Name "_law_way" p9) [.Name "tree" pa, .Name "n" pb] [] pc, .Name "steps" pd] [] pe], 0⟩] csc pf] pg] ph)) pi ∧ csc.names = ([(".0", .local), ("n", .local), ("_law_fits", .globalImplicit), ("_law_way", .globalImplicit), ("steps", .free), ("tree", .free)] : Kn) ∧ csc.kind = .function := ⟨_, _, _, _, _, _, _, _, _, _, _, _, _, _, _, _, _, _, _, rfl, rfl, rfl⟩
 rw [e]
 obtain ⟨g, w, l⟩ := tree_facts sc
 have hcomp : evD cf 16 k26 (rhoT sc f n a6 lv (ownI tk) wy) (.ListComp (.Name "n" p5) [⟨.Name "n" p6, .Name "level" p7, [.Call (.Name "_law_fits" p8) [.Call (.Name "_law_way" p9) [.Name "tree" pa, .Name "n" pb] [] pc, .Name "steps" pd] [] pe], 0⟩] csc pf) = some (lvD (lv.filter fun i => fitsL (wayL (zG sc) i) (zH sc))) := by
  refine comp_row cf (n := 15) (d := lvD lv) (ds := lv.map fun (i : Nat) => .int (i : Int)) (by rw [hn, hk]; rfl) (zA (n := 14) (by decide) rfl rfl) (items_lst (by rw [List.length_map]; omega)) ?_
  rw [hn]
  have hr : relK ([(".0", .local), ("n", .local), ("_law_fits", .globalImplicit), ("_law_way", .globalImplicit), ("steps", .free), ("tree", .free)] : Kn) k26 = ([(".0", .local), ("n", .local), ("_law_fits", .globalImplicit), ("_law_way", .globalImplicit), ("steps", .cell), ("tree", .cell)] : Kn) := by rfl
  have hf : (rhoT sc f n a6 lv (ownI tk) wy).filter (fun q => freeIn ([(".0", .local), ("n", .local), ("_law_fits", .globalImplicit), ("_law_way", .globalImplicit), ("steps", .free), ("tree", .free)] : Kn) q.1) = ([("steps", zM sc), ("tree", trD sc)] : Rho) := by rfl
  rw [hr, hf]
  refine compD_all _ _ (fun (i : Nat) => .int (i : Int)) (fun i => fitsL (wayL (zG sc) i) (zH sc)) (fun (i : Nat) => .int (i : Int)) lv (fun i hi => ?_) (fun i _ _ => zA (n := 14) (by decide) rfl rfl) fun i _ _ => rfl
  have hc : evD cf 13 ([(".0", .local), ("n", .local), ("_law_fits", .globalImplicit), ("_law_way", .globalImplicit), ("steps", .cell), ("tree", .cell)] : Kn) [("n", .int (i : Int)), ("steps", zM sc), ("tree", trD sc)] (.Call (.Name "_law_fits" p8) [.Call (.Name "_law_way" p9) [.Name "tree" pa, .Name "n" pb] [] pc, .Name "steps" pd] [] pe) = some (.bool (fitsL (wayL (zG sc) i) (zH sc))) := by
   refine zE (n := 12) rfl (zB (n := 11) (by decide) rfl (by decide) L.gfits) (zC (n := 11) (d := .lst ((wayL (zG sc) i).map nmD)) ?_ (zC (n := 10) (d := zM sc) (zA (n := 9) (by decide) rfl rfl) zD)) rfl (L.fits _ _)
   exact zE (n := 10) rfl (zB (n := 9) (by decide) rfl (by decide) L.gway) (zC (n := 9) (d := trD sc) (zA (n := 8) (by decide) rfl rfl) (zC (n := 8) (zA (n := 7) (by decide) rfl rfl) zD)) rfl (L.way i (hlt i hi))
  rw [t_lcons, t_call, hc]
  show (match (some (fitsL (wayL (zG sc) i) (zH sc)) : Option Bool) with | some true => tsL cf 14 _ _ [] | some false => some false | none => none) = _
  cases fitsL (wayL (zG sc) i) (zH sc) <;> rfl
 refine (ex_sound ok [] 19).1 _ _ _ _ ?_
 rw [q_ret_and, ret1_and, q_and, q_cmp]
 have f1 : ∀ m p, evD cf (m + 1) k26 (rhoT sc f n a6 lv (ownI tk) wy) (.Name "found" p) = some (foD sc) := fun m p => zA (by decide) rfl rfl
 have f2 : ∀ m p, evD cf (m + 1) k26 (rhoT sc f n a6 lv (ownI tk) wy) (.Name "taken" p) = some (ownI tk) := fun m p => evD_own (by decide) rfl
 rw [f1, f2]
 dsimp only
 have c1 : cmpD .Eq (foD sc) (ownI tk) = some true := by rw [own_eq]; exact congrArg some (decide_eq_true h1)
 have c2 : cmpD .Eq (foD sc) (lvD (lv.filter fun i => fitsL (wayL (zG sc) i) (zH sc))) = some true := by rw [lst_eq]; exact congrArg some (decide_eq_true h2)
 rw [c1]
 have ht : truS (.bool true) = some true := rfl
 dsimp only
 rw [ht]
 dsimp only
 rw [q_cmp, f1, hcomp]
 dsimp only
 rw [c2]
 rfl
theorem law_ok (L : LawCf cf sc) {Kf : Frag} {C fI P Q : Addr} (R : RedCf G k cf Kf C fI P) (TG : TabG G 169 Q (("law.<locals>." : Str) ++ ("<lambda>" : Str))) {o : Obj} {fd : FuncData} (fr : FnRec G 170 o fd (pBody 26) (pNames 26) ["script"]) (hs : sc.length ≤ 63) (hps : goodPieces sc)
  (hrow : ∀ i, (rowAt (zG sc) (ksOf sc) i).length ≤ 100 ∧ ((rowAt (zG sc) (ksOf sc) i).flatMap fun (i : Nat) => zP (zG sc) i).length ≤ 100) (hlv : ∀ i, (levelN (zG sc) [0] i).length ≤ 100) (hlt : ∀ j ∈ levelN (zG sc) [0] (zH sc).length, j < (zG sc).length)
  (h1 : rowAt (zG sc) (ksOf sc) (zH sc).length = (levelN (zG sc) [0] (zH sc).length).filter fun i => takes (zH sc) (wayL (zG sc) i)) (h2 : rowAt (zG sc) (ksOf sc) (zH sc).length = (levelN (zG sc) [0] (zH sc).length).filter fun i => fitsL (wayL (zG sc) i) (zH sc)) :
  FnC G (k + 4) 170 [.lst (sc.map .int)] (.bool true) := by
 refine fn_hand fr rfl fun A X Y s env c E => ?_
 have ok := R.PC.ok.le (k' := k + 3) (by omega)
 rw [n26] at c ⊢
 have c : StC G (k + 3) A X Y s env k26 (rho26 (scD sc) .unb .unb .unb .unb .unb .unb .unb .unb .unb .unb .unb .unb .unb .unb) := c
 rw [b26]
 have ti := c.cx.ti
 refine ExS.andThen (law0 L ok hs) c fun Y0 s0 t0 c0 => ?_
 refine ExS.andThen (law1 L ok hs) c0 fun Y1 s1 t1 c1 => ?_
 refine ExS.andThen (law2 L ok) c1 fun Y2 s2 t2 c2 => ?_
 refine ExS.andThen (law3 L ok) c2 fun Y3 s3 t3 c3 => ?_
 refine ExS.andThen (law4 L ok) c3 fun Y4 s4 t4 c4 => ?_
 refine ExS.andThen (law5 L ok) c4 fun Y5 s5 t5 c5 => ?_
 have T5 := ((((t0.trans ti t1).trans ti t2).trans ti t3).trans ti t4).trans ti t5
 refine wpAny_execs_cons (wpAny_mono (law6 TG c5) (fun fl s6 h6 => ?_) fun _ _ e => e)
 obtain ⟨f, rfl, t6, c6, DR⟩ := h6
 dsimp only
 refine wpAny_execs_cons (wpAny_mono (law7 L R hrow DR c6) (fun fl s7 h7 => ?_) fun _ _ e => e)
 obtain ⟨Y7, t7, rfl, c7⟩ := h7
 dsimp only
 have T7 := (T5.trans ti t6).trans ti t7
 refine ExS.andThen (law8 L ok) c7 fun Y8 s8 t8 c8 => ?_
 refine ExS.andThen (law9 ok) c8 fun Y9 s9 t9 c9 => ?_
 obtain ⟨a6, q6, e10⟩ := law10 (G := G) (sc := sc) L ok hlv (f := f)
 refine ExS.andThen e10 c9 fun Y10 s10 t10 c10 => ?_
 refine ExS.andThen (law11 ok q6) c10 fun Y11 s11 t11 c11 => ?_
 have hll := hlv (zH sc).length
 obtain ⟨n', wy', qn, qw, e12⟩ := law12 (G := G) (sc := sc) L ok (f := f) q6 hps (lv := levelN (zG sc) [0] (zH sc).length) (by omega) hlt
 refine ExS.andThen e12 c11 fun Y12 s12 t12 c12 => ?_
 have T12 := ((((T7.trans ti t8).trans ti t9).trans ti t10).trans ti t11).trans ti t12
 exact ExS.last (law13 L ok q6 qn qw (by omega) hlt h1 h2) c12 ti T12
end
end Mine
namespace Mine
open PySem PySem.Calls PyProof.Rows PySem.W
theorem keep_fits (s : Sp) (nm : Nm) (hs : gSp s) (hn : gNm nm) : keepSp s (tagN nm) = fits1 nm s := by
 have H1 : ∀ a ∈ spS, (keepSp (some a, none) none = false ∧ ∀ p ∈ spS, ∀ q ∈ wdS, keepSp (some a, none) (some (tagS p q)) = fits1 (some (p, q)) (some a, none)) := by decide +kernel
 have H2 : ∀ b ∈ wdS, (keepSp (none, some b) none = false ∧ ∀ p ∈ spS, ∀ q ∈ wdS, keepSp (none, some b) (some (tagS p q)) = fits1 (some (p, q)) (none, some b)) := by decide +kernel
 have H0 : keepSp (none, none) none = false ∧ ∀ p ∈ spS, ∀ q ∈ wdS, keepSp (none, none) (some (tagS p q)) = fits1 (some (p, q)) (none, none) := by decide +kernel
 obtain ⟨a, b⟩ := s
 obtain ⟨h1, h2, h3⟩ := hs
 have F : ∀ s : Sp, (keepSp s none = false ∧ ∀ p ∈ spS, ∀ q ∈ wdS, keepSp s (some (tagS p q)) = fits1 (some (p, q)) s) → keepSp s (tagN nm) = fits1 nm s := by
  intro s h
  cases nm with
  | none => exact h.1
  | some pq =>
   obtain ⟨p, q⟩ := pq
   obtain ⟨g1, g2⟩ := hn p q rfl
   exact h.2 p g1 q g2
 cases a with
 | none => cases b with
  | none => exact F _ H0
  | some b => exact F _ (H2 b (h2 b rfl))
 | some a => cases b with
  | none => exact F _ (H1 a (h1 a rfl))
  | some b => rcases h3 with h | h <;> cases h
section
variable {t : List (Int × Nm)}
theorem belowL_mem {n : Int} {j : Nat} (h : j ∈ zP t n) : ∃ hj : j < t.length, 0 < j ∧ t[j].1 = n := by
 unfold zP at h
 simp only [List.mem_map, List.mem_filter, List.mem_range] at h
 obtain ⟨i, ⟨h1, h2⟩, rfl⟩ := h
 have hj : i + 1 < t.length := by omega
 refine ⟨hj, by omega, ?_⟩
 rw [List.getElem?_eq_getElem hj] at h2
 simpa using h2
theorem wayF_fuel (wf : Wft t) : ∀ f f' n, n < t.length → n < f → n < f' → wayF t f n = wayF t f' n
 | 0, f', n, _, h, _ => absurd h (Nat.not_lt_zero _)
 | f + 1, 0, n, _, _, h => absurd h (Nat.not_lt_zero _)
 | f + 1, f' + 1, n, hn, h, h' => by
  unfold wayF
  by_cases h0 : n = 0
  ·rw [if_pos h0, if_pos h0]
  ·rw [if_neg h0, if_neg h0]
   obtain ⟨p, hp, hpn⟩ := wf.par n hn h0
   have e : (t[n]?.getD (0, none)).1.toNat = p := by rw [List.getElem?_eq_getElem hn]; show t[n].1.toNat = p; rw [hp]; rfl
   rw [e, wayF_fuel wf f f' p (by omega) (by omega) (by omega)]
theorem way_below (wf : Wft t) {n j : Nat} (h : j ∈ zP t n) : wayL t j = wayL t n ++ [(t[j]?.getD (0, none)).2] := by
 obtain ⟨hj, h0, hp⟩ := belowL_mem h
 obtain ⟨p, hp', hpn⟩ := wf.par j hj (by omega)
 have epn : p = n := by rw [hp] at hp'; exact_mod_cast hp'.symm
 subst epn
 have hl := wf.len
 unfold wayL
 have e : loopD = 999999 + 1 := rfl
 have e1 : wayF t loopD j = wayF t 999999 p ++ [(t[j]?.getD (0, none)).2] := by
  rw [e]
  conv => lhs; unfold wayF
  rw [if_neg (by omega)]
  have : (t[j]?.getD (0, none)).1.toNat = p := by rw [List.getElem?_eq_getElem hj]; show t[j].1.toNat = p; rw [hp]; rfl
  rw [this]
 rw [e1, wayF_fuel wf 999999 loopD p (by omega) (by omega) (by rw [e]; omega)]
theorem levelN_succ : ∀ (i : Nat) (r : List Nat), levelN t r (i + 1) = (levelN t r i).flatMap fun (i : Nat) => zP t i
 | 0, r => rfl
 | i + 1, r => by
  show levelN t (r.flatMap _) (i + 1) = _
  rw [levelN_succ i]
  rfl
theorem level_lt (h0 : 0 < t.length) (i : Nat) : ∀ j ∈ levelN t [0] i, j < t.length := by
 cases i with
 | zero => intro j hj; rw [List.mem_singleton.mp hj]; exact h0
 | succ i =>
  rw [levelN_succ]
  intro j hj
  obtain ⟨n, _, h⟩ := List.mem_flatMap.mp hj
  exact (belowL_mem h).1
theorem way_len (wf : Wft t) : ∀ i, ∀ j ∈ levelN t [0] i, (wayL t j).length = i
 | 0, j, h => by
  rw [List.mem_singleton.mp h]
  have e : loopD = 999999 + 1 := rfl
  unfold wayL
  rw [e]
  unfold wayF
  rfl
 | i + 1, j, h => by
  rw [levelN_succ] at h
  obtain ⟨n, hn, h⟩ := List.mem_flatMap.mp h
  rw [way_below wf h, List.length_append, way_len wf i n hn]
  rfl
theorem belowL_nodup (n : Int) : (zP t n).Nodup := by
 unfold zP
 have h : ((List.range (t.length - 1)).filter fun i => (t[i + 1]?.getD (0, none)).1 == n).Pairwise (fun a b => a ≠ b) := List.Pairwise.filter _ List.nodup_range
 exact List.Pairwise.map (S := fun a b => a ≠ b) _ (fun a b (q : a ≠ b) e => q (by omega)) h
theorem flat_nodup : ∀ (r : List Nat), r.Nodup → (r.flatMap fun (i : Nat) => zP t i).Nodup
 | [], _ => List.nodup_nil
 | a :: r, h => by
  rw [List.nodup_cons] at h
  rw [List.flatMap_cons]
  refine List.nodup_append.mpr ⟨belowL_nodup _, flat_nodup r h.2, fun x hx y hy q => ?_⟩
  subst q
  obtain ⟨b, hb, hy⟩ := List.mem_flatMap.mp hy
  obtain ⟨h1, _, e1⟩ := belowL_mem hx
  obtain ⟨h2, _, e2⟩ := belowL_mem hy
  have : a = b := by rw [e1] at e2; exact_mod_cast e2
  exact h.1 (this ▸ hb)
theorem nodup_len : ∀ (n : Nat) (l : List Nat), l.Nodup → (∀ x ∈ l, x < n) → l.length ≤ n
 | 0, [], _, _ => Nat.le_refl _
 | 0, a :: l, _, h => absurd (h a (.head _)) (Nat.not_lt_zero _)
 | n + 1, l, hd, h => by
  by_cases q : n ∈ l
  ·have h1 : (l.erase n).length = l.length - 1 := List.length_erase_of_mem q
   have := nodup_len n (l.erase n) (hd.erase n) fun x hx => by
    have hx' := (List.Nodup.mem_erase_iff hd).mp hx
    have := h x hx'.2
    have := hx'.1
    omega
   have : 0 < l.length := List.length_pos_of_mem q
   omega
  ·have := nodup_len n l hd fun x hx => by
    have := h x hx
    have : x ≠ n := fun e => q (e ▸ hx)
    omega
   omega
theorem flat_len (r : List Nat) (h : r.Nodup) : (r.flatMap fun (i : Nat) => zP t i).length ≤ t.length :=
 nodup_len _ _ (flat_nodup r h) fun x hx => by
  obtain ⟨n, _, q⟩ := List.mem_flatMap.mp hx
  exact (belowL_mem q).1
theorem level_nodup : ∀ i, (levelN t [0] i).Nodup
 | 0 => by unfold levelN; simp
 | i + 1 => by rw [levelN_succ]; exact flat_nodup _ (level_nodup i)
theorem fits_snoc : ∀ (w : List Nm) (ss : List Sp) (x : Nm) (s : Sp), w.length = ss.length → fitsL (w ++ [x]) (ss ++ [s]) = (fitsL w ss && fits1 x s)
 | [], [], x, s, _ => by simp [fitsL]
 | [], _ :: _, _, _, h => by cases h
 | _ :: _, [], _, _, h => by cases h
 | a :: w, b :: ss, x, s, h => by
  show (fits1 a b && fitsL (w ++ [x]) (ss ++ [s])) = ((fits1 a b && fitsL w ss) && fits1 x s)
  rw [fits_snoc w ss x s (by simpa using h), Bool.and_assoc]
theorem flat_filter {F F' g : Nat → Bool} : ∀ (l : List Nat), (∀ n ∈ l, ∀ j ∈ zP t n, F' j = (F n && g j)) → ((l.filter F).flatMap fun (i : Nat) => zP t i).filter g = (l.flatMap fun (i : Nat) => zP t i).filter F'
 | [], _ => rfl
 | n :: l, h => by
  have ih := flat_filter l fun m hm => h m (.tail _ hm)
  have hn := h n (.head _)
  rw [List.flatMap_cons, List.filter_append, ← ih, List.filter_cons]
  cases hF : F n with
  | true =>
   rw [if_pos rfl, List.flatMap_cons, List.filter_append]
   congr 1
   refine List.filter_congr fun j hj => ?_
   rw [hn j hj, hF]; rfl
  | false =>
   rw [if_neg (by decide)]
   have : (zP t n).filter F' = [] := by
    rw [List.filter_eq_nil_iff]
    intro j hj
    rw [hn j hj, hF]; simp
   rw [this]; rfl
end
end Mine
namespace Mine
open PySem PySem.Calls PyProof.Rows PySem.W
section
variable {t : List (Int × Nm)}
theorem row_level (g : Grown t) (wf : Wft t) (ss : List Sp) (hs : ∀ s ∈ ss, gSp s) : ∀ i, i ≤ ss.length → rowAt t (ss.map keepSp) i = (levelN t [0] i).filter fun j => fitsL (wayL t j) (ss.take i)
 | 0, _ => by
  have : (wayL t 0) = [] := List.length_eq_zero_iff.mp (way_len wf 0 0 (by simp [levelN]))
  unfold rowAt levelN
  simp [this, fitsL]
 | i + 1, h => by
  have hi : i < (ss.map keepSp).length := by rw [List.length_map]; omega
  rw [rowAt_succ t _ i hi, row_level g wf ss hs i (by omega), levelN_succ]
  unfold nextRow
  refine flat_filter _ fun n hn j hj => ?_
  have hi' : i < ss.length := by omega
  rw [List.getElem_map, List.take_succ_eq_append_getElem hi', way_below wf hj, fits_snoc _ _ _ _ (by rw [way_len wf i n hn, List.length_take]; omega)]
  congr 1
  exact (keep_fits _ _ (hs _ (List.getElem_mem hi')) (good_at g j)).symm
theorem fits_all : ∀ (ns : List (Str × Str)) (ss : List Sp), ns.length = ss.length → (fitsL (ns.map some) ss = true ↔ fitsAll ns ss)
 | [], [], _ => by simp [fitsL, fitsAll]
 | [], _ :: _, h => by cases h
 | _ :: _, [], h => by cases h
 | (a, b) :: ns, (x, y) :: ss, h => by
  show (fits1 (some (a, b)) (x, y) && fitsL (ns.map some) ss) = true ↔ fitsP (a, b) (x, y) ∧ fitsAll ns ss
  rw [Bool.and_eq_true, fits_all ns ss (by simpa using h)]
  have : fits1 (some (a, b)) (x, y) = true ↔ fitsP (a, b) (x, y) := by
   unfold fits1 fitsP
   rw [Bool.and_eq_true]
   have one : ∀ (a : Str) (o : Option Str), okOpt a o = true ↔ (o = none ∨ o = some a) := by
    intro a o
    cases o with
    | none => simp [okOpt]
    | some z => simp [okOpt]
   rw [one, one]
  rw [this]
theorem none_fits : ∀ (w : List Nm) (ss : List Sp), w.length = ss.length → allS w = none → fitsL w ss = false
 | [], _, _, h => by cases h
 | none :: w, [], h, _ => by cases h
 | none :: w, s :: ss, _, _ => rfl
 | some p :: w, [], h, _ => by cases h
 | some p :: w, s :: ss, hl, h => by
  have : allS w = none := by
   unfold allS at h
   cases q : allS w with
   | none => rfl
   | some l => rw [q] at h; cases h
  show (fits1 (some p) s && fitsL w ss) = false
  rw [none_fits w ss (by simpa using hl) this, Bool.and_false]
theorem takes_fits (ss : List Sp) (w : List Nm) (hne : ss ≠ []) (hs : ∀ s ∈ ss, gSp s) (hw : ∀ x ∈ w, gNm x) (hl : w.length = ss.length) : takes ss w = fitsL w ss := by
 unfold takes
 cases h : allS w with
 | none => exact (none_fits w ss hl h).symm
 | some ns =>
  have e := allS_map h
  subst e
  have hl' : ns.length = ss.length := by simpa using hl
  have key := taken_fits ss ns hne (fun s q => (hs s q).2.2) hl' (fun s q => gSp_ok (hs s q)) (fun n q => gNm_ok (hw (some n) (List.mem_map_of_mem q)))
  have k2 := fits_all ns ss hl'
  dsimp only
  cases q1 : takenS ((zS (pathT ss)).map st) (st (wayText ns)) <;> cases q2 : fitsL (ns.map some) ss <;> try rfl
  ·rw [q1] at key; rw [q2] at k2
   exact absurd (key.mpr (k2.mp rfl)) (by decide)
  ·rw [q1] at key; rw [q2] at k2
   exact absurd (k2.mpr (key.mp rfl)) (by decide)
theorem partT_len : ∀ (o : Option Str), (∀ x, o = some x → x.cps.toList.length ≤ 4) → (partT o).length ≤ 4 := by
 intro o h
 cases o with
 | none => simp [partT]
 | some x => simp only [partT, List.length_map]; exact h x rfl
theorem gSp_len {s : Sp} (h : gSp s) : (stepT s).length ≤ 10 := by
 have H1 : ∀ a ∈ spS, a.cps.toList.length ≤ 4 := by decide +kernel
 have H2 : ∀ a ∈ wdS, a.cps.toList.length ≤ 4 := by decide +kernel
 have a := partT_len s.1 fun x q => H1 x (h.1 x q)
 have b := partT_len s.2 fun x q => H2 x (h.2.1 x q)
 unfold stepT
 simp only [List.length_cons, List.length_append]
 omega
theorem path_len : ∀ (ss : List Sp), (∀ s ∈ ss, gSp s) → (pathT ss).length ≤ 11 * ss.length
 | [], _ => by simp [pathT]
 | [s], h => by have := gSp_len (h s (.head _)); show (stepT s).length ≤ _; simp; omega
 | s :: u :: r, h => by
  have e : pathT (s :: u :: r) = stepT s ++ .lit 47 :: pathT (u :: r) := rfl
  have h1 := gSp_len (h s (.head _))
  have h2 := path_len (u :: r) fun q hq => h q (.tail _ hq)
  rw [e, List.length_append, List.length_cons]
  simp only [List.length_cons] at *
  omega
theorem chunks_len : ∀ (l : List Tk), (chunks l).1.length ≤ l.length ∧ (chunks l).2.length ≤ l.length ∧ ∀ c ∈ (chunks l).2, c.length ≤ l.length
 | [] => ⟨Nat.le_refl _, Nat.le_refl _, fun c h => by cases h⟩
 | .star :: r => by
  obtain ⟨a, b, c⟩ := chunks_len r
  refine ⟨Nat.zero_le _, by simp [chunks]; omega, fun x hx => ?_⟩
  rcases List.mem_cons.mp hx with q | q
  ·subst q; simp; omega
  ·have := c x q; simp; omega
 | .lit d :: r => by
  obtain ⟨a, b, c⟩ := chunks_len r
  exact ⟨by simp [chunks]; omega, by simp [chunks]; omega, fun x hx => by have := c x hx; simp; omega⟩
 | .cls d :: r => by
  obtain ⟨a, b, c⟩ := chunks_len r
  exact ⟨by simp [chunks]; omega, by simp [chunks]; omega, fun x hx => by have := c x hx; simp; omega⟩
theorem pieces_good (sc : List Int) : goodPieces sc := by
 obtain ⟨h1, h2, h3⟩ := steps_facts sc
 have hl := path_len _ h1
 obtain ⟨a, b, c⟩ := chunks_len (pathT (zH sc))
 obtain ⟨p0, mids, last, e⟩ := pieces_split (pieces_two h3 fun s q => (h1 s q).2.2)
 have bd : bigD = 1000000 := rfl
 refine ⟨by rw [e]; simp, ?_, fun p hp => ?_⟩
 ·unfold zS
  simp only [List.length_cons, List.length_map]
  omega
 ·unfold zS at hp
  rcases List.mem_cons.mp hp with q | q
  ·subst q; rw [List.length_map]; omega
  ·obtain ⟨z, hz, rfl⟩ := List.mem_map.mp q
   have := c z hz
   rw [List.length_map]; omega
end
theorem plain_law (sc : List Int) : (∀ i, (rowAt (zG sc) (ksOf sc) i).length ≤ 100 ∧ ((rowAt (zG sc) (ksOf sc) i).flatMap fun (i : Nat) => zP (zG sc) i).length ≤ 100) ∧ (∀ i, (levelN (zG sc) [0] i).length ≤ 100) ∧ (∀ j ∈ levelN (zG sc) [0] (zH sc).length, j < (zG sc).length) ∧
  rowAt (zG sc) (ksOf sc) (zH sc).length = (levelN (zG sc) [0] (zH sc).length).filter (fun i => takes (zH sc) (wayL (zG sc) i)) ∧ rowAt (zG sc) (ksOf sc) (zH sc).length = (levelN (zG sc) [0] (zH sc).length).filter fun i => fitsL (wayL (zG sc) i) (zH sc) := by
 obtain ⟨g, w, l⟩ := tree_facts sc
 obtain ⟨h1, h2, h3⟩ := steps_facts sc
 have ht := w.len
 have lv : ∀ i, (levelN (zG sc) [0] i).length ≤ 100 := fun i => Nat.le_trans (nodup_len _ _ (level_nodup i) (level_lt w.pos i)) ht
 have rl := row_level g w (zH sc) h1
 have ek : ksOf sc = (zH sc).map keepSp := rfl
 have cap : ∀ i, ∃ i', i' ≤ (zH sc).length ∧ rowAt (zG sc) (ksOf sc) i = rowAt (zG sc) (ksOf sc) i' := by
  intro i
  rcases Nat.le_total i (zH sc).length with q | q
  ·exact ⟨i, q, rfl⟩
  ·refine ⟨(zH sc).length, Nat.le_refl _, ?_⟩
   unfold rowAt
   rw [List.take_of_length_le (by rw [ek, List.length_map]; exact q), List.take_of_length_le (by rw [ek, List.length_map]; exact Nat.le_refl _)]
 have full := rl (zH sc).length (Nat.le_refl _)
 rw [List.take_length] at full
 refine ⟨fun i => ?_, lv, level_lt w.pos _, ?_, full⟩
 ·obtain ⟨i', hi, e⟩ := cap i
  rw [e]
  have e2 := rl i' hi
  rw [← ek] at e2
  rw [e2]
  refine ⟨Nat.le_trans (List.length_filter_le _ _) (lv i'), Nat.le_trans (flat_len _ ((level_nodup i').filter _)) ht⟩
 ·rw [← ek] at full
  rw [full]
  refine List.filter_congr fun j hj => ?_
  exact (takes_fits _ _ h3 h1 (way_good g _ _) (way_len w _ j hj)).symm
end Mine
namespace Mine
open PySem PySem.Calls PyProof.Rows PySem.W
theorem its_len : ∀ (toks : List Tk), (itsOf toks).length ≤ 2 * toks.length
 | [] => Nat.le_refl _
 | .star :: r => by
  have ih := its_len r
  unfold itsOf at ih ⊢
  rw [chunks]
  simp only [List.map_nil, List.nil_append, tailIts, List.length_append, List.length_map, List.length_cons] at ih ⊢
  generalize (chunks r).2 = cs at ih ⊢
  cases cs with
  | nil => simp [tailIts] at ih ⊢; omega
  | cons a b => simp only [List.length_cons, List.length_append, List.length_map, List.length_nil] at ih ⊢; omega
 | .lit c :: r => by
  have ih := its_len r
  unfold itsOf at ih ⊢
  rw [chunks]
  simp only [List.map_cons, List.length_append, List.length_cons] at ih ⊢
  omega
 | .cls c :: r => by
  have ih := its_len r
  unfold itsOf at ih ⊢
  rw [chunks]
  simp only [List.map_cons, List.length_append, List.length_cons] at ih ⊢
  omega
theorem flat_le {α β : Type} {f : α → List β} {m : Nat} : ∀ (l : List α), (∀ a ∈ l, (f a).length ≤ m) → (l.flatMap f).length ≤ l.length * m
 | [], _ => by simp
 | a :: l, h => by
  have h1 := h a (.head _)
  have h2 := flat_le l fun b hb => h b (.tail _ hb)
  rw [List.flatMap_cons, List.length_append, List.length_cons, Nat.succ_mul]
  omega
theorem itText_len (i : It) : (zR i).length ≤ 6 := by
 cases i with
 | cls c => show (clsL c).length ≤ 6; unfold clsL; split <;> simp
 | chr c => show (escL c).length ≤ 6; unfold escL; split <;> simp
 | _ => decide
theorem told_len (toks : List Tk) : (toldL (itsOf toks)).length ≤ 7 + 12 * toks.length := by
 have h := flat_le (itsOf toks) fun a _ => itText_len a
 have h2 := its_len toks
 unfold toldL
 simp only [List.length_append, List.length_cons, List.length_nil]
 omega
theorem tkText_len (t : Tk) : (zQ t).length ≤ 3 := by cases t <;> simp [zQ]
theorem tkStr_len (t : Tk) : (tkStr t).length ≤ 5 := by
 cases t with
 | star => show Str.empty.length ≤ 5; decide
 | lit c => show (escS c).length ≤ 5; unfold escS; rw [st_len]; unfold escL; split <;> simp
 | cls c => show (st ([91] ++ stuffL c ++ [93])).length ≤ 5; rw [st_len]; unfold stuffL; split <;> simp
theorem lensS_app (a b : List Str) : lensS (a ++ b) = lensS a + lensS b := by
 induction a with
 | nil => show lensS b = 0 + _; omega
 | cons x r ih => show x.length + lensS (r ++ b) = x.length + lensS r + lensS b; rw [ih]; omega
theorem lens_map (c : List Tk) : lensS (c.map tkStr) ≤ c.length * 5 := by
 have := lensS_le (xs := c.map tkStr) (m := 5) fun x hx => by
  obtain ⟨t, _, rfl⟩ := List.mem_map.mp hx
  exact tkStr_len t
 rwa [List.length_map] at this
theorem out1_len (c : List Str) (r : List (List Str)) : lensS (match r with | [] => (match c with | [] => [st [46, 42]] | _ => [st [46, 42], jS c]) | _ => [gS (jS c)]) ≤ lensS c + 20 := by
 have hj := jS_len c
 cases r with
 | nil =>
  cases c with
  | nil => show (st [46, 42]).length + 0 ≤ _; rw [st_len]; simp
  | cons a b => show (st [46, 42]).length + ((jS (a :: b)).length + 0) ≤ _; rw [st_len]; simp; omega
 | cons a b =>
  show (gS (jS c)).length + 0 ≤ _
  have : (gS (jS c)).length = (jS c).length + 7 := by
   unfold gS
   simp only [List.foldl_cons, List.foldl_nil]
   rw [strLen_append, strLen_append, strLen_append]
   have l0 : Str.empty.length = 0 := rfl
   have l1 : ("(?>.*?" : Str).length = 6 := rfl
   have l2 : (")" : Str).length = 1 := rfl
   omega
  omega
theorem out_len : ∀ (cs : List (List Str)) (m : Nat), (∀ c ∈ cs, lensS c ≤ m) → lensS (outS cs) ≤ cs.length * (m + 20)
 | [], m, _ => by show 0 ≤ _; omega
 | c :: r, m, h => by
  have h1 := h c (.head _)
  have h2 := out_len r m fun d hd => h d (.tail _ hd)
  have h3 := out1_len c r
  unfold outS
  rw [lensS_app, List.length_cons, Nat.succ_mul]
  refine Nat.le_trans (Nat.add_le_add (Nat.le_trans h3 (Nat.add_le_add_right h1 20)) h2) ?_
  rw [Nat.add_comm]
  exact Nat.le_refl _
end Mine
namespace Mine
open PySem PySem.Calls PyProof.Rows PySem.W PySem.Builtin PySem.Builtin.Re
open Classical in
noncomputable def pick (P : D → Prop) : Option D := if h : ∃ d, P d then some h.choose else none
theorem pick_eq {P : D → Prop} {d : D} (h : P d) (u : ∀ d', P d' → d' = d) : pick P = some d := by
 unfold pick
 have hx : ∃ d, P d := ⟨d, h⟩
 rw [dif_pos hx]
 exact congrArg some (u _ hx.choose_spec)
theorem pick_some {P : D → Prop} {d : D} (h : pick P = some d) : P d := by
 unfold pick at h
 split at h
 ·rename_i hx
  have := Option.some.inj h
  rw [← this]; exact hx.choose_spec
 ·cases h
abbrev Tbl := List (Addr × (List D → D → Prop))
noncomputable def phiOf (T : Tbl) (a : Addr) (ds : List D) : Option D := match T.lookup a with
 | some P => pick (P ds)
 | none => none
def gamL : List (Str × D) := [("len", .blt "len"), ("sum", .blt "sum"), ("isinstance", .blt "isinstance"), ("iter", .blt "iter"), ("range", .typ "range"), ("list", .typ "list"), ("str", .typ "str"), ("slice", .typ "slice"), ("object", .typ "object"), ("zip", .typ "zip"),
 ("escape", .opq 83), ("_special_chars_map", .opq 73), ("_translate", .opq 90), ("_join_translated_parts", .opq 97), ("_SelectorContext", .opq 55), ("_prepare_tag", .opq 38), ("reduce", .opq 106), ("_initial_missing", .opq 98), ("translate", .opq 71),
 ("_law_tree", .opq 113), ("_law_way", .opq 120), ("_law_below", .opq 125), ("_law_node", .opq 132), ("_law_steps", .opq 139), ("_law_text", .opq 144), ("_law_fits", .opq 151), ("_law_pieces", .opq 158), ("_law_taken", .opq 165)]
noncomputable def hookD (K : Kn) (ρ : Rho) (e : Expr) : Option D := pick fun d => ∃ k fp apos ps bd sc lp sp pos, (k = 42 ∨ k = 63 ∨ k = 91) ∧ e = .Call (.Attribute (.Name "_twin_re_1" fp) "sub" apos) [.Lambda ps bd sc lp, .Name "stuff" sp] [] pos ∧ (apos.endLine == pos.line) = true ∧ lamOk ps sc = true ∧
 codeOf K = some ((Value.ref 89, ("_translate.<locals>." : Str)) : Value × Str) ∧ K.lookup ("_twin_re_1" : Str) = some .globalImplicit ∧ ρ.lookup ("stuff" : Str) = some (D.str (st [k])) ∧ d = .str (st [k])
noncomputable def cfT (T : Tbl) : Cf := { Γ := fun x => gamL.lookup x, Φ := phiOf T, H := hookD }
structure Base (G : Gd) (Kf : Frag) (P1 P2 P3 : Addr) : Prop where
 X₀ : Kf.In G.hb
 hC : G.C = 55
 NC : NodeCls Kf 55 52
 hnc : ∃ oc : Obj, Kf.lookup 55 = some oc
 gam : ∀ p ∈ gamL, ∃ v, (G.mg p.1 = some v ∨ (G.mg p.1 = none ∧ G.mb p.1 = some v)) ∧ ∀ X h, Rd G.C X h p.2 v
 rI : ∃ p1 p2 p3 p4 o fd, FnRec G 52 o fd (bInit p1 p2 p3 p4) kInit ["self", "root"]
 r38 : ∃ o fd, FnRec G 38 o fd (pBody 2) (pNames 2) ["tag"]
 r71 : ∃ o fd, FnRec G 71 o fd (pBody 6) (pNames 6) ["pat"]
 r83 : ∃ o fd, FnRec G 83 o fd (pBody 9) (pNames 9) ["pattern"]
 r90 : ∃ o fd, FnRec G 90 o fd (pBody 11) (pNames 11) ["pat", "STAR", "QUESTION_MARK"]
 r97 : ∃ o fd, FnRec G 97 o fd (pBody 12) (pNames 12) ["inp", "STAR"]
 r106 : ∃ o fd, FnRec G 106 o fd (pBody 15) (pNames 15) ["function", "sequence", "initial"]
 r113 : ∃ o fd, FnRec G 113 o fd (pBody 17) (pNames 17) ["numbers"]
 r120 : ∃ o fd, FnRec G 120 o fd (pBody 18) (pNames 18) ["tree", "n"]
 r125 : ∃ o fd, FnRec G 125 o fd (pBody 19) (pNames 19) ["tree", "n"]
 r132 : ∃ o fd, FnRec G 132 o fd (pBody 20) (pNames 20) ["number", "name"]
 r139 : ∃ o fd, FnRec G 139 o fd (pBody 21) (pNames 21) ["way", "digits"]
 r144 : ∃ o fd, FnRec G 144 o fd (pBody 22) (pNames 22) ["step", "quoted"]
 r151 : ∃ o fd, FnRec G 151 o fd (pBody 23) (pNames 23) ["way", "steps"]
 r158 : ∃ o fd, FnRec G 158 o fd (pBody 24) (pNames 24) ["told"]
 r165 : ∃ o fd, FnRec G 165 o fd (pBody 25) (pNames 25) ["pieces", "text"]
 r170 : ∃ o fd, FnRec G 170 o fd (pBody 26) (pNames 26) ["script"]
 re : ∃ a b t1 t2 x vs m ob, G.mg "_twin_re_1" = some (.ref a) ∧ G.hb.get? a = some (patObj b t1 t2 x) ∧ G.hb.get? b = some ob ∧ ob.data = .seq vs m ∧ (vs.map reRawOf).map (·.toNat) = codeL
 t89 : TabG G 89 P1 (("_translate.<locals>." : Str) ++ ("<lambda>" : Str))
 t37 : TabG G 37 P2 (("_prepare_tag.<locals>." : Str) ++ ("select" : Str))
 t169 : TabG G 169 P3 (("law.<locals>." : Str) ++ ("<lambda>" : Str))
 map : ∃ f, G.hb.MapOf (intKind G.prog G.w) 73 f ∧ ∀ c : Nat, (c = 47 ∨ c = 97 ∨ c = 98 ∨ c = 117 ∨ c = 123 ∨ c = 125) → (f c = none ∧ escS c = (⟨#[c]⟩ : Str)) ∨ ∃ a b u, f c = some (.str (⟨#[a, b]⟩ : Str) u) ∧ escS c = (⟨#[a, b]⟩ : Str)
 m98 : ∃ o98 : Obj, G.hb.get? 98 = some o98 ∧ ∀ vs n, o98 ≠ lstObj vs n
structure Con (G : Gd) (k : Nat) (p : Addr × (List D → D → Prop)) : Prop where
 fn : ∃ o fd, G.hb.get? p.1 = some o ∧ o.data = .func fd
 ok : ∀ ds d, p.2 ds d → FnC G k p.1 ds d
theorem Con.le {G : Gd} {k k' : Nat} {p} (h : k ≤ k') (c : Con G k p) : Con G k' p := ⟨c.fn, fun ds d q => (c.ok ds d q).le h⟩
section
variable {G : Gd} {k : Nat} {Kf : Frag} {P1 P2 P3 : Addr}
theorem cf_base (B : Base G Kf P1 P2 P3) : CfOk G { Γ := fun x => gamL.lookup x, Φ := fun _ _ => none, H := fun _ _ _ => none } k where
 gam := fun x d e => B.gam (x, d) (mem_of_lookup e)
 fn := fun a ds d e => by cases e
 hook := fun K ρ e d q => by cases q
 root := root_ok B.X₀ B.NC B.hC
theorem cf_ok (B : Base G Kf P1 P2 P3) (T : Tbl) (h : ∀ p ∈ T, Con G k p) : CfOk G (cfT T) k where
 gam := fun x d e => B.gam (x, d) (mem_of_lookup e)
 fn := fun a ds d e => by
  have e' : phiOf T a ds = some d := e
  unfold phiOf at e'
  split at e'
  ·rename_i P hP
   have hm : (a, P) ∈ T := by
    clear e e' h
    induction T with
    | nil => cases hP
    | cons q r ih =>
     obtain ⟨b, Q⟩ := q
     rw [List.lookup_cons] at hP
     split at hP
     ·rename_i hb
      have := eq_of_beq hb
      cases hP
      subst this
      exact .head _
     ·exact .tail _ (ih hP)
   have c := h _ hm
   obtain ⟨o, fd, h1, h2⟩ := c.fn
   exact ⟨o, fd, h1, h2, fun q => (by have := G.hT a q; rw [h1] at this; cases this), c.ok ds d (pick_some e')⟩
  ·cases e'
 hook := fun K ρ e d q A X s env r cx xok en => by
  obtain ⟨k', fp, apos, ps, bd, sc, lp, sp, pos, hk, rfl, h1, h2, h3, h4, h5, rfl⟩ := pick_some q
  obtain ⟨a, b, t1, t2, x, vs, m, ob, g1, g2, g3, g4, g5⟩ := B.re
  exact hook_sub (cf_base (k := k) B) ⟨r, cx, xok, en⟩ B.t89 h3 h1 h2 g1 h4 hk g2 ⟨ob, g3, g4⟩ g5 h5
 root := root_ok B.X₀ B.NC B.hC
end
end Mine
namespace Mine
open PySem PySem.Calls PyProof.Rows PySem.W
def six (c : Nat) : Prop := c = 47 ∨ c = 97 ∨ c = 98 ∨ c = 117 ∨ c = 123 ∨ c = 125
abbrev tkOf (sc : List Int) : List Tk := pathT (zH sc)
def T1 (sc : List Int) : Tbl := [
 (83, fun ds d => ∃ c, six c ∧ ds = [.str (st [c])] ∧ d = .str (escS c)),
 (97, fun ds d => ∃ S, ds = [.lst ((tkOf sc).map (tkOut S)), .opq S] ∧ d = .str (st (toldL (itsOf (tkOf sc))))),
 (113, fun ds d => ds = [.lst ((numsL sc).map .int)] ∧ d = treeD (zG sc)),
 (120, fun ds d => ∃ n : Nat, n < (zG sc).length ∧ ds = [treeD (zG sc), .int n] ∧ d = .lst ((wayL (zG sc) n).map nmD)),
 (125, fun ds d => ∃ n : Int, ds = [treeD (zG sc), .int n] ∧ d = .lst ((zP (zG sc) n).map fun (k : Nat) => .int (k : Int))),
 (132, fun ds d => ∃ (i : Int) (nm : Nm), gNm nm ∧ ds = [.int i, nmD nm] ∧ d = ndD (i, tagN nm)),
 (139, fun ds d => ∃ (l : List Nm) (e : Int), l.length ≤ 900 ∧ ds = [.lst (l.map nmD), .int e] ∧ d = .lst ((stepsL l e).map zT)),
 (144, fun ds d => ∃ s q, gSp s ∧ ds = [zT s, .bool q] ∧ d = .str (textS q s)),
 (151, fun ds d => ∃ (l : List Nm) (ss : List Sp), ds = [.lst (l.map nmD), .lst (ss.map zT)] ∧ d = .bool (fitsL l ss)),
 (158, fun ds d => ds = [.str (st (toldL (itsOf (tkOf sc))))] ∧ d = .lst (lsD (zS (tkOf sc)))),
 (165, fun ds d => ∃ (ps : List Str) (x : Str), 2 ≤ ps.length ∧ ps.length ≤ 1000 ∧ (∀ p ∈ ps, p.length ≤ bigD) ∧ x.length ≤ bigD ∧ ds = [.lst (ps.map .str), .str x] ∧ d = .bool (takenS ps x))]
def T2 (sc : List Int) : Tbl := (90, fun ds d => ∃ S, ds = [.str (st ((tkOf sc).flatMap zQ)), .opq S, .str "."] ∧ d = .lst ((tkOf sc).map (tkOut S))) :: T1 sc
def T3 (sc : List Int) : Tbl := (71, fun ds d => ds = [.str (st ((tkOf sc).flatMap zQ))] ∧ d = .str (st (toldL (itsOf (tkOf sc))))) :: T2 sc
theorem phi_at {T : Tbl} {a : Addr} {P : List D → D → Prop} {ds : List D} {d : D} (hl : T.lookup a = some P) (h : P ds d) (u : ∀ d', P ds d' → d' = d) : (cfT T).Φ a ds = some d := by
 show phiOf T a ds = _
 unfold phiOf
 rw [hl]
 exact pick_eq h u
theorem map_inj {α : Type} {f : α → D} (hf : ∀ a b, f a = f b → a = b) : ∀ {l l' : List α}, l.map f = l'.map f → l = l'
 | [], [], _ => rfl
 | [], _ :: _, h => by cases h
 | _ :: _, [], h => by cases h
 | a :: l, b :: l', h => by
  simp only [List.map_cons, List.cons.injEq] at h
  rw [hf _ _ h.1, map_inj hf h.2]
theorem nmD_inj : ∀ a b : Nm, nmD a = nmD b → a = b
 | none, none, _ => rfl
 | none, some (_, _), h => by cases h
 | some (_, _), none, h => by cases h
 | some (a, b), some (c, d), h => by simp only [nmD, D.tup.injEq, List.cons.injEq, D.str.injEq, and_true] at h; rw [h.1, h.2]
theorem optD_inj : ∀ a b : Option Str, optD a = optD b → a = b
 | none, none, _ => rfl
 | none, some _, h => by cases h
 | some _, none, h => by cases h
 | some a, some b, h => by simp only [optD, D.str.injEq] at h; rw [h]
theorem stepD_inj (a b : Sp) (h : zT a = zT b) : a = b := by
 obtain ⟨a1, a2⟩ := a; obtain ⟨b1, b2⟩ := b
 simp only [zT, D.tup.injEq, List.cons.injEq, and_true] at h
 rw [optD_inj _ _ h.1, optD_inj _ _ h.2]
theorem strD_inj (a b : Str) (h : D.str a = D.str b) : a = b := by simpa using h
section
variable {G : Gd} {k : Nat} {Kf : Frag} {P1 P2 P3 : Addr} {sc : List Int}
theorem gam_at {T : Tbl} {x : Str} {d : D} (h : gamL.lookup x = some d) : (cfT T).Γ x = some d := h
theorem path_small (sc : List Int) : (tkOf sc).length ≤ 121 ∧ (∀ t ∈ tkOf sc, tkOk t) ∧ noTwo false (tkOf sc) := by
 obtain ⟨h1, h2, h3⟩ := steps_facts sc
 have := path_len _ h1
 exact ⟨by show (pathT (zH sc)).length ≤ 121; omega, path_ok _ fun s hs => gSp_ok (h1 s hs), noTwo_path _ _⟩
theorem con_97 (B : Base G Kf P1 P2 P3) (ok : CfOk G (cfT []) k) (S : Addr) : FnC G (k + 1) 97 [.lst ((tkOf sc).map (tkOut S)), .opq S] (.str (st (toldL (itsOf (tkOf sc))))) := by
 obtain ⟨o, fd, fr⟩ := B.r97
 obtain ⟨h1, h2, h3⟩ := path_small sc
 have e := chunks_out S (tkOf sc)
 rw [e, ← told_eq _ h2]
 obtain ⟨a, b, c⟩ := chunks_len (tkOf sc)
 have hl : (((chunks (tkOf sc)).1.map tkStr).map D.str ++ starD S ((chunks (tkOf sc)).2.map (·.map tkStr))).length = (tkOf sc).length := by rw [← e, List.length_map]
 have hL : ∀ c ∈ (chunks (tkOf sc)).2.map (·.map tkStr), lensS c ≤ 605 := fun x hx => by
  obtain ⟨y, hy, rfl⟩ := List.mem_map.mp hx
  have g1 := lens_map y
  have g2 := c y hy
  omega
 refine fn_ok ok fr rfl (join_run _ (gam_at rfl) S _ _ ?_ (chunks_full _ _ h3).1 ?_ ?_ ?_)
 ·rw [hl]; omega
 ·rw [List.length_map, List.length_map]; omega
 ·exact fun c hc => Nat.le_trans (hL c hc) (by omega)
 ·rw [lensS_app]
  have g1 := lens_map (chunks (tkOf sc)).1
  have g2 := out_len _ 605 hL
  rw [List.length_map] at g2
  have : (chunks (tkOf sc)).2.length * (605 + 20) ≤ 121 * 625 := Nat.mul_le_mul (by omega) (by omega)
  omega
theorem con_158 (B : Base G Kf P1 P2 P3) (ok : CfOk G (cfT []) k) : FnC G (k + 1) 158 [.str (st (toldL (itsOf (tkOf sc))))] (.lst (lsD (zS (tkOf sc)))) := by
 obtain ⟨o, fd, fr⟩ := B.r158
 obtain ⟨h1, h2, h3⟩ := path_small sc
 obtain ⟨s, g1, g2⟩ := its_run _ h2
 have l1 := told_len (tkOf sc)
 have l2 := its_len (tkOf sc)
 exact fn_ok ok fr rfl (pieces_run _ (gam_at rfl) _ _ s g1 g2 (by omega) (by omega))
theorem text_ok {s : Sp} (h : gSp s) : (∀ y, s.1 = some y → y.length ≤ 1000 ∧ (quoteS y).length ≤ 3000) ∧ (∀ y, s.2 = some y → y.length ≤ 1000 ∧ (quoteS y).length ≤ 3000) := by
 have H1 : ∀ a ∈ spS, a.length ≤ 1000 ∧ (quoteS a).length ≤ 3000 := by decide +kernel
 have H2 : ∀ a ∈ wdS, a.length ≤ 1000 ∧ (quoteS a).length ≤ 3000 := by decide +kernel
 exact ⟨fun y q => H1 y (h.1 y q), fun y q => H2 y (h.2.1 y q)⟩
theorem con_all1 (B : Base G Kf P1 P2 P3) : ∀ p ∈ T1 sc, Con G 3 p := by
 have ok : CfOk G (cfT []) 0 := cf_ok B [] fun p h => by cases h
 obtain ⟨gr, w, l⟩ := tree_facts sc
 have hn := numsL_len sc
 unfold T1
 refine List.forall_mem_cons.mpr ⟨?_, List.forall_mem_cons.mpr ⟨?_, List.forall_mem_cons.mpr ⟨?_, List.forall_mem_cons.mpr ⟨?_, List.forall_mem_cons.mpr ⟨?_, List.forall_mem_cons.mpr ⟨?_, List.forall_mem_cons.mpr ⟨?_, List.forall_mem_cons.mpr ⟨?_, List.forall_mem_cons.mpr ⟨?_, List.forall_mem_cons.mpr ⟨?_, List.forall_mem_cons.mpr ⟨?_, fun p h => by cases h⟩⟩⟩⟩⟩⟩⟩⟩⟩⟩⟩
 ·obtain ⟨o, fd, fr⟩ := B.r83
  refine ⟨⟨o, fd, fr.ho, fr.hd⟩, fun ds d ⟨c, hc, e1, e2⟩ => ?_⟩
  subst e1 e2
  obtain ⟨f, hm, hv⟩ := B.map
  exact (escape_ok ok fr (gam_at rfl) (gam_at rfl) (gam_at rfl) (by decide) hm (by rcases hc with h | h | h | h | h | h <;> omega) (hv c hc)).le (by omega)
 ·obtain ⟨o, fd, fr⟩ := B.r97
  refine ⟨⟨o, fd, fr.ho, fr.hd⟩, fun ds d ⟨S, e1, e2⟩ => ?_⟩
  subst e1 e2
  exact (con_97 B ok S).le (by omega)
 ·obtain ⟨o, fd, fr⟩ := B.r113
  refine ⟨⟨o, fd, fr.ho, fr.hd⟩, fun ds d ⟨e1, e2⟩ => ?_⟩
  subst e1 e2
  exact FnC.le (k := 1) (by omega) (fn_ok ok fr rfl (tree_run _ (gam_at rfl) _ (by omega)))
 ·obtain ⟨o, fd, fr⟩ := B.r120
  refine ⟨⟨o, fd, fr.ho, fr.hd⟩, fun ds d ⟨n, h, e1, e2⟩ => ?_⟩
  subst e1 e2
  exact FnC.le (k := 1) (by omega) (fn_ok ok fr rfl (way_run _ w h))
 ·obtain ⟨o, fd, fr⟩ := B.r125
  refine ⟨⟨o, fd, fr.ho, fr.hd⟩, fun ds d ⟨n, e1, e2⟩ => ?_⟩
  subst e1 e2
  exact FnC.le (k := 1) (by omega) (fn_ok ok fr rfl (below_run _ (gam_at rfl) (gam_at rfl) w.len w.pos n))
 ·obtain ⟨o, fd, fr⟩ := B.r132
  obtain ⟨p1, p2, p3, p4, oI, fdI, frI⟩ := B.rI
  refine ⟨⟨o, fd, fr.ho, fr.hd⟩, fun ds d ⟨i, nm, h, e1, e2⟩ => ?_⟩
  subst e1 e2
  refine node_ok (k := 0) ok B.X₀ B.NC frI fr (gam_at rfl) B.hC B.hnc ?_
  cases nm with
  | none => exact .inl ⟨rfl, rfl⟩
  | some p =>
   obtain ⟨a, b⟩ := p
   obtain ⟨g1, g2⟩ := h a b rfl
   have H1 : ∀ a ∈ spS, a.length ≤ 1000 := by decide +kernel
   have H2 : ∀ a ∈ wdS, a.length ≤ 1000 := by decide +kernel
   exact .inr ⟨a, b, rfl, H1 a g1, H2 b g2, rfl⟩
 ·obtain ⟨o, fd, fr⟩ := B.r139
  refine ⟨⟨o, fd, fr.ho, fr.hd⟩, fun ds d ⟨l, e, h, e1, e2⟩ => ?_⟩
  subst e1 e2
  exact FnC.le (k := 1) (by omega) (fn_ok ok fr rfl (steps_run _ l e h))
 ·obtain ⟨o, fd, fr⟩ := B.r144
  refine ⟨⟨o, fd, fr.ho, fr.hd⟩, fun ds d ⟨s, q, h, e1, e2⟩ => ?_⟩
  subst e1 e2
  obtain ⟨t1, t2⟩ := text_ok h
  exact FnC.le (k := 1) (by omega) (fn_ok ok fr rfl (text_run _ q s t1 t2))
 ·obtain ⟨o, fd, fr⟩ := B.r151
  refine ⟨⟨o, fd, fr.ho, fr.hd⟩, fun ds d ⟨l, ss, e1, e2⟩ => ?_⟩
  subst e1 e2
  exact FnC.le (k := 1) (by omega) (fits_ok ok fr (gam_at rfl) l ss)
 ·obtain ⟨o, fd, fr⟩ := B.r158
  refine ⟨⟨o, fd, fr.ho, fr.hd⟩, fun ds d ⟨e1, e2⟩ => ?_⟩
  subst e1 e2
  exact (con_158 B ok).le (by omega)
 ·obtain ⟨o, fd, fr⟩ := B.r165
  refine ⟨⟨o, fd, fr.ho, fr.hd⟩, fun ds d ⟨ps, x, h1, h2, h3, h4, e1, e2⟩ => ?_⟩
  subst e1 e2
  exact FnC.le (k := 1) (by omega) (fn_ok ok fr rfl (taken_run _ (gam_at rfl) ps x h1 h2 h3 h4))
end
end Mine
namespace Mine
open PySem PySem.Calls PyProof.Rows PySem.W
section
variable {G : Gd} {k : Nat} {Kf : Frag} {P1 P2 P3 : Addr} {sc : List Int}
theorem trCf (sc : List Int) : TrCf (cfT (T1 sc)) where
 len := gam_at rfl
 esc := gam_at rfl
 re := rfl
 phi := fun c hc => phi_at rfl ⟨c, hc, rfl, rfl⟩ (by
  rintro d' ⟨c', _, e, rfl⟩
  simp only [List.cons.injEq, D.str.injEq, and_true] at e
  have := st_inj.mp e
  simp only [List.cons.injEq, and_true] at this
  rw [this])
 hook := fun k hk K ρ fp apos ps bd sc lp sp pos h1 h2 h3 h4 h5 => by
  show hookD K ρ _ = _
  unfold hookD
  refine pick_eq ⟨k, fp, apos, ps, bd, sc, lp, sp, pos, hk, rfl, h1, h2, h3, h4, h5, rfl⟩ ?_
  rintro d' ⟨k', fp', apos', ps', bd', sc', lp', sp', pos', hk', e, _, _, _, _, h5', rfl⟩
  rw [h5] at h5'
  simp only [Option.some.injEq, D.str.injEq] at h5'
  rw [h5']
theorem con_90 (B : Base G Kf P1 P2 P3) : ∀ p ∈ T2 sc, Con G 4 p := by
 have h1 := con_all1 (sc := sc) B
 have ok : CfOk G (cfT (T1 sc)) 3 := cf_ok B _ h1
 obtain ⟨g1, g2, g3⟩ := path_small sc
 unfold T2
 refine List.forall_mem_cons.mpr ⟨?_, fun p h => (h1 p h).le (by omega)⟩
 obtain ⟨o, fd, fr⟩ := B.r90
 refine ⟨⟨o, fd, fr.ho, fr.hd⟩, fun ds d ⟨S, e1, e2⟩ => ?_⟩
 subst e1 e2
 have hb := flat_le (tkOf sc) fun a _ => tkText_len a
 exact fn_ok ok fr rfl (tr_run _ (trCf sc) S _ g2 g3 (by omega) (by omega))
theorem con_71 (B : Base G Kf P1 P2 P3) : ∀ p ∈ T3 sc, Con G 5 p := by
 have h1 := con_90 (sc := sc) B
 have ok : CfOk G (cfT (T2 sc)) 4 := cf_ok B _ h1
 unfold T3
 refine List.forall_mem_cons.mpr ⟨?_, fun p h => (h1 p h).le (by omega)⟩
 obtain ⟨o, fd, fr⟩ := B.r71
 refine ⟨⟨o, fd, fr.ho, fr.hd⟩, fun ds d ⟨e1, e2⟩ => ?_⟩
 subst e1 e2
 refine translate_ok ok fr (gam_at rfl) (gam_at rfl) (gam_at rfl) (ps := fun S => .lst ((tkOf sc).map (tkOut S))) (fun S => ?_) (fun S => rfl) fun S => ?_
 ·refine phi_at rfl ⟨S, rfl, rfl⟩ ?_
  rintro d' ⟨S', e, rfl⟩
  simp only [List.cons.injEq, D.opq.injEq, and_true, true_and] at e
  rw [e]
 ·refine phi_at rfl ⟨S, rfl, rfl⟩ ?_
  rintro d' ⟨S', e, rfl⟩
  rfl
theorem lawCf (sc : List Int) : LawCf (cfT (T3 sc)) sc where
 sum := gam_at rfl
 len := gam_at rfl
 range := gam_at rfl
 list := gam_at rfl
 iter := gam_at rfl
 mis := gam_at rfl
 gtree := gam_at rfl
 gway := gam_at rfl
 gbelow := gam_at rfl
 gnode := gam_at rfl
 gsteps := gam_at rfl
 gtext := gam_at rfl
 gfits := gam_at rfl
 gpieces := gam_at rfl
 gtaken := gam_at rfl
 greduce := gam_at rfl
 gtrans := gam_at rfl
 gprep := gam_at rfl
 tree := phi_at rfl ⟨rfl, rfl⟩ (by rintro d' ⟨_, rfl⟩; rfl)
 way := fun n h => phi_at rfl ⟨n, h, rfl, rfl⟩ (by
  rintro d' ⟨n', _, e, rfl⟩
  simp only [List.cons.injEq, D.int.injEq, and_true, true_and] at e
  have : n = n' := by exact_mod_cast e
  rw [this])
 below := fun n => phi_at rfl ⟨n, rfl, rfl⟩ (by
  rintro d' ⟨n', e, rfl⟩
  simp only [List.cons.injEq, D.int.injEq, and_true, true_and] at e
  rw [e])
 node := fun i nm h => phi_at rfl ⟨i, nm, h, rfl, rfl⟩ (by
  rintro d' ⟨i', nm', _, e, rfl⟩
  simp only [List.cons.injEq, D.int.injEq, and_true] at e
  rw [e.1, nmD_inj _ _ e.2])
 steps := fun l d h => phi_at rfl ⟨l, d, h, rfl, rfl⟩ (by
  rintro d' ⟨l', e', _, e, rfl⟩
  simp only [List.cons.injEq, D.lst.injEq, D.int.injEq, and_true] at e
  rw [map_inj nmD_inj e.1, e.2])
 text := fun s q h => phi_at rfl ⟨s, q, h, rfl, rfl⟩ (by
  rintro d' ⟨s', q', _, e, rfl⟩
  simp only [List.cons.injEq, D.bool.injEq, and_true] at e
  rw [stepD_inj _ _ e.1, e.2])
 trans := phi_at rfl ⟨rfl, rfl⟩ (by rintro d' ⟨_, rfl⟩; rfl)
 pieces := phi_at rfl ⟨rfl, rfl⟩ (by rintro d' ⟨_, rfl⟩; rfl)
 taken := fun ps x h1 h2 h3 h4 => phi_at rfl ⟨ps, x, h1, h2, h3, h4, rfl, rfl⟩ (by
  rintro d' ⟨ps', x', _, _, _, _, e, rfl⟩
  simp only [List.cons.injEq, D.lst.injEq, D.str.injEq, and_true] at e
  rw [map_inj strD_inj e.1, e.2])
 fits := fun l ss => phi_at rfl ⟨l, ss, rfl, rfl⟩ (by
  rintro d' ⟨l', ss', e, rfl⟩
  simp only [List.cons.injEq, D.lst.injEq, and_true] at e
  rw [map_inj nmD_inj e.1, map_inj stepD_inj e.2])
theorem law_final (B : Base G Kf P1 P2 P3) (sc : List Int) (hs : sc.length ≤ 63) : FnC G 9 170 [.lst (sc.map .int)] (.bool true) := by
 have ok : CfOk G (cfT (T3 sc)) 5 := cf_ok B _ (con_71 B)
 obtain ⟨o, fd, fr⟩ := B.r170
 obtain ⟨h1, h2, h3, h4, h5⟩ := plain_law sc
 exact law_ok (k := 5) (lawCf sc) ⟨⟨ok, B.X₀, B.NC, B.t37, gam_at rfl, gam_at rfl, gam_at rfl, gam_at rfl⟩, B.hC, B.r38, B.r106, B.m98⟩ B.t169 fr hs (pieces_good sc) h1 h2 h3 h4 h5
end
end Mine
namespace Mine
open PySem PySem.W PyProof.Rows
set_option maxHeartbeats 8000000 in
open_top hd for PySem.Challenge.rw_ik0160_01
end Mine
namespace Mine
open PySem PySem.Calls PyProof.Rows PySem.W
set_option maxHeartbeats 4000000
section
theorem hr38 {G : Gd} (P : Params) (X : (hd.heap_39 P).In G.hb) : ∃ o fd, FnRec G 38 o fd (pBody 2) (pNames 2) ["tag"] := by
 refine ⟨_, _, fnRec_of X (by first | rfl | kernel_rfl) rfl ?_ ?_ ?_ ?_ ?_ ?_ ?_ ?_ ?_ ?_ ?_ ?_ ?_ ?_⟩
 iterate 4 rfl
 ·kernel_rfl
 iterate 4 rfl
 ·intro vals h
  match vals, h with
  | [a], _ => rfl
 iterate 3 decide
 ·intro c h
  cases h; exact ⟨rfl, rfl⟩
theorem hr71 {G : Gd} (P : Params) (X : (hd.heap_39 P).In G.hb) : ∃ o fd, FnRec G 71 o fd (pBody 6) (pNames 6) ["pat"] := by
 refine ⟨_, _, fnRec_of X (by first | rfl | kernel_rfl) rfl ?_ ?_ ?_ ?_ ?_ ?_ ?_ ?_ ?_ ?_ ?_ ?_ ?_ ?_⟩
 iterate 4 rfl
 ·kernel_rfl
 iterate 4 rfl
 ·intro vals h
  match vals, h with
  | [a], _ => rfl
 iterate 3 decide
 ·intro c h
  cases h
theorem hr83 {G : Gd} (P : Params) (X : (hd.heap_39 P).In G.hb) : ∃ o fd, FnRec G 83 o fd (pBody 9) (pNames 9) ["pattern"] := by
 refine ⟨_, _, fnRec_of X (by first | rfl | kernel_rfl) rfl ?_ ?_ ?_ ?_ ?_ ?_ ?_ ?_ ?_ ?_ ?_ ?_ ?_ ?_⟩
 iterate 4 rfl
 ·kernel_rfl
 iterate 4 rfl
 ·intro vals h
  match vals, h with
  | [a], _ => rfl
 iterate 3 decide
 ·intro c h
  cases h
theorem hr90 {G : Gd} (P : Params) (X : (hd.heap_39 P).In G.hb) : ∃ o fd, FnRec G 90 o fd (pBody 11) (pNames 11) ["pat", "STAR", "QUESTION_MARK"] := by
 refine ⟨_, _, fnRec_of X (by first | rfl | kernel_rfl) rfl ?_ ?_ ?_ ?_ ?_ ?_ ?_ ?_ ?_ ?_ ?_ ?_ ?_ ?_⟩
 iterate 4 rfl
 ·kernel_rfl
 iterate 4 rfl
 ·intro vals h
  match vals, h with
  | [a, b, c], _ => rfl
 iterate 3 decide
 ·intro c h
  cases h; exact ⟨rfl, rfl⟩
theorem hr97 {G : Gd} (P : Params) (X : (hd.heap_39 P).In G.hb) : ∃ o fd, FnRec G 97 o fd (pBody 12) (pNames 12) ["inp", "STAR"] := by
 refine ⟨_, _, fnRec_of X (by first | rfl | kernel_rfl) rfl ?_ ?_ ?_ ?_ ?_ ?_ ?_ ?_ ?_ ?_ ?_ ?_ ?_ ?_⟩
 iterate 4 rfl
 ·kernel_rfl
 iterate 4 rfl
 ·intro vals h
  match vals, h with
  | [a, b], _ => rfl
 iterate 3 decide
 ·intro c h
  cases h
theorem hr106 {G : Gd} (P : Params) (X : (hd.heap_39 P).In G.hb) : ∃ o fd, FnRec G 106 o fd (pBody 15) (pNames 15) ["function", "sequence", "initial"] := by
 refine ⟨_, _, fnRec_ofB X (by first | rfl | kernel_rfl) rfl ?_ ?_ ?_ ?_ ?_ ?_ ?_ ?_ ?_ ?_ ?_ ?_ ?_ ?_⟩
 iterate 4 rfl
 ·kernel_rfl
 iterate 4 rfl
 ·intro vals h s kk
  match vals, h with
  | [a, b, c], _ => exact BindsTo.of_defaults rfl (kk _ _ (X _ _ (by first | rfl | kernel_rfl))) rfl rfl rfl
 iterate 3 decide
 ·intro c h
  cases h
theorem hr113 {G : Gd} (P : Params) (X : (hd.heap_39 P).In G.hb) : ∃ o fd, FnRec G 113 o fd (pBody 17) (pNames 17) ["numbers"] := by
 refine ⟨_, _, fnRec_of X (by first | rfl | kernel_rfl) rfl ?_ ?_ ?_ ?_ ?_ ?_ ?_ ?_ ?_ ?_ ?_ ?_ ?_ ?_⟩
 iterate 4 rfl
 ·kernel_rfl
 iterate 4 rfl
 ·intro vals h
  match vals, h with
  | [a], _ => rfl
 iterate 3 decide
 ·intro c h
  cases h
theorem hr120 {G : Gd} (P : Params) (X : (hd.heap_39 P).In G.hb) : ∃ o fd, FnRec G 120 o fd (pBody 18) (pNames 18) ["tree", "n"] := by
 refine ⟨_, _, fnRec_of X (by first | rfl | kernel_rfl) rfl ?_ ?_ ?_ ?_ ?_ ?_ ?_ ?_ ?_ ?_ ?_ ?_ ?_ ?_⟩
 iterate 4 rfl
 ·kernel_rfl
 iterate 4 rfl
 ·intro vals h
  match vals, h with
  | [a, b], _ => rfl
 iterate 3 decide
 ·intro c h
  cases h
theorem hr125 {G : Gd} (P : Params) (X : (hd.heap_39 P).In G.hb) : ∃ o fd, FnRec G 125 o fd (pBody 19) (pNames 19) ["tree", "n"] := by
 refine ⟨_, _, fnRec_of X (by first | rfl | kernel_rfl) rfl ?_ ?_ ?_ ?_ ?_ ?_ ?_ ?_ ?_ ?_ ?_ ?_ ?_ ?_⟩
 iterate 4 rfl
 ·kernel_rfl
 iterate 4 rfl
 ·intro vals h
  match vals, h with
  | [a, b], _ => rfl
 iterate 3 decide
 ·intro c h
  cases h
theorem hr132 {G : Gd} (P : Params) (X : (hd.heap_39 P).In G.hb) : ∃ o fd, FnRec G 132 o fd (pBody 20) (pNames 20) ["number", "name"] := by
 refine ⟨_, _, fnRec_of X (by first | rfl | kernel_rfl) rfl ?_ ?_ ?_ ?_ ?_ ?_ ?_ ?_ ?_ ?_ ?_ ?_ ?_ ?_⟩
 iterate 4 rfl
 ·kernel_rfl
 iterate 4 rfl
 ·intro vals h
  match vals, h with
  | [a, b], _ => rfl
 iterate 3 decide
 ·intro c h
  cases h
theorem hr139 {G : Gd} (P : Params) (X : (hd.heap_39 P).In G.hb) : ∃ o fd, FnRec G 139 o fd (pBody 21) (pNames 21) ["way", "digits"] := by
 refine ⟨_, _, fnRec_of X (by first | rfl | kernel_rfl) rfl ?_ ?_ ?_ ?_ ?_ ?_ ?_ ?_ ?_ ?_ ?_ ?_ ?_ ?_⟩
 iterate 4 rfl
 ·kernel_rfl
 iterate 4 rfl
 ·intro vals h
  match vals, h with
  | [a, b], _ => rfl
 iterate 3 decide
 ·intro c h
  cases h
theorem hr144 {G : Gd} (P : Params) (X : (hd.heap_39 P).In G.hb) : ∃ o fd, FnRec G 144 o fd (pBody 22) (pNames 22) ["step", "quoted"] := by
 refine ⟨_, _, fnRec_of X (by first | rfl | kernel_rfl) rfl ?_ ?_ ?_ ?_ ?_ ?_ ?_ ?_ ?_ ?_ ?_ ?_ ?_ ?_⟩
 iterate 4 rfl
 ·kernel_rfl
 iterate 4 rfl
 ·intro vals h
  match vals, h with
  | [a, b], _ => rfl
 iterate 3 decide
 ·intro c h
  cases h
theorem hr151 {G : Gd} (P : Params) (X : (hd.heap_39 P).In G.hb) : ∃ o fd, FnRec G 151 o fd (pBody 23) (pNames 23) ["way", "steps"] := by
 refine ⟨_, _, fnRec_of X (by first | rfl | kernel_rfl) rfl ?_ ?_ ?_ ?_ ?_ ?_ ?_ ?_ ?_ ?_ ?_ ?_ ?_ ?_⟩
 iterate 4 rfl
 ·kernel_rfl
 iterate 4 rfl
 ·intro vals h
  match vals, h with
  | [a, b], _ => rfl
 iterate 3 decide
 ·intro c h
  cases h
theorem hr158 {G : Gd} (P : Params) (X : (hd.heap_39 P).In G.hb) : ∃ o fd, FnRec G 158 o fd (pBody 24) (pNames 24) ["told"] := by
 refine ⟨_, _, fnRec_of X (by first | rfl | kernel_rfl) rfl ?_ ?_ ?_ ?_ ?_ ?_ ?_ ?_ ?_ ?_ ?_ ?_ ?_ ?_⟩
 iterate 4 rfl
 ·kernel_rfl
 iterate 4 rfl
 ·intro vals h
  match vals, h with
  | [a], _ => rfl
 iterate 3 decide
 ·intro c h
  cases h
theorem hr165 {G : Gd} (P : Params) (X : (hd.heap_39 P).In G.hb) : ∃ o fd, FnRec G 165 o fd (pBody 25) (pNames 25) ["pieces", "text"] := by
 refine ⟨_, _, fnRec_of X (by first | rfl | kernel_rfl) rfl ?_ ?_ ?_ ?_ ?_ ?_ ?_ ?_ ?_ ?_ ?_ ?_ ?_ ?_⟩
 iterate 4 rfl
 ·kernel_rfl
 iterate 4 rfl
 ·intro vals h
  match vals, h with
  | [a, b], _ => rfl
 iterate 3 decide
 ·intro c h
  cases h
theorem hr170 {G : Gd} (P : Params) (X : (hd.heap_39 P).In G.hb) : ∃ o fd, FnRec G 170 o fd (pBody 26) (pNames 26) ["script"] := by
 refine ⟨_, _, fnRec_of X (by first | rfl | kernel_rfl) rfl ?_ ?_ ?_ ?_ ?_ ?_ ?_ ?_ ?_ ?_ ?_ ?_ ?_ ?_⟩
 iterate 4 rfl
 ·kernel_rfl
 iterate 4 rfl
 ·intro vals h
  match vals, h with
  | [a], _ => rfl
 iterate 3 decide
 ·intro c h
  cases h; exact ⟨rfl, rfl⟩
theorem hrI {G : Gd} (P : Params) (X : (hd.heap_39 P).In G.hb) : ∃ p1 p2 p3 p4 o fd, FnRec G 52 o fd (bInit p1 p2 p3 p4) kInit ["self", "root"] := by
 refine ⟨⟨44, 8, 44, 12⟩, ⟨44, 8, 44, 17⟩, ⟨44, 20, 44, 24⟩, ⟨44, 8, 44, 24⟩, _, _, fnRec_of X (by first | rfl | kernel_rfl) rfl ?_ ?_ ?_ ?_ ?_ ?_ ?_ ?_ ?_ ?_ ?_ ?_ ?_ ?_⟩
 iterate 4 rfl
 ·kernel_rfl
 iterate 4 rfl
 ·intro vals h
  match vals, h with
  | [a, b], _ => rfl
 iterate 3 decide
 ·intro c h
  cases h
end
end Mine
namespace Mine
open PySem PySem.Calls PyProof.Rows PySem.W PySem.Builtin PySem.Builtin.Re
set_option maxHeartbeats 4000000
theorem hNC (P : Params) : NodeCls (hd.heap_39 P) 55 52 := by
 constructor <;> kernel_rfl
theorem hnt (P : Params) : noTabs (hd.heap_39 P) = true := by kernel_rfl
theorem hoc (P : Params) : ∃ oc : Obj, (hd.heap_39 P).lookup 55 = some oc := ⟨_, by first | rfl | kernel_rfl⟩
def globOk (Kf : Frag) (p : Str × D) : Bool := match p.2 with
 | .opq a => nsIn Kf mainGlobals p.1 == some (some (.ref a))
 | .blt n => nsIn Kf mainGlobals p.1 == some none && bootBuiltins p.1 == some (.builtin n) && p.1 != "__name__"
 | .typ n => nsIn Kf mainGlobals p.1 == some none && bootBuiltins p.1 == some (.type n) && p.1 != "__name__"
 | _ => false
theorem hgl (P : Params) : gamL.all (globOk (hd.heap_39 P)) = true := by kernel_rfl
theorem gam_of {Kf : Frag} {h : Heap} {p : Program} {loose : List Str} {mean : ExcName → Option Value} {mg mb : Str → Option Value} (X : Kf.In h) (T : Top p loose mean mg mb h) {q : Str × D} (e : globOk Kf q = true) {C : Addr} : ∃ v, (mg q.1 = some v ∨ (mg q.1 = none ∧ mb q.1 = some v)) ∧ ∀ X h, Rd C X h q.2 v := by
 obtain ⟨x, d⟩ := q
 unfold globOk at e
 split at e
 ·rename_i a hd
  have := eq_of_beq e
  refine ⟨_, .inl (mg_of X T.g this), fun X h => ?_⟩
  rw [hd]; exact Rd.opq'
 ·rename_i n hd
  simp only [Bool.and_eq_true, bne_iff_ne] at e
  refine ⟨.builtin n, .inr ⟨mg_none_of X T.g (eq_of_beq e.1.1), (T.builtins _ e.2).trans (eq_of_beq e.1.2)⟩, fun X h => ?_⟩
  rw [hd]; exact Rd.blt'
 ·rename_i n hd
  simp only [Bool.and_eq_true, bne_iff_ne] at e
  refine ⟨.type n, .inr ⟨mg_none_of X T.g (eq_of_beq e.1.1), (T.builtins _ e.2).trans (eq_of_beq e.1.2)⟩, fun X h => ?_⟩
  rw [hd]; exact Rd.typ'
 ·cases e
def intKeys (es : List DictEntry) : Bool := es.all fun e => match e.key with
 | .int i _ => e.hash == hashInt i
 | _ => false
theorem keys_of {prog : Program} {w : World} {es : Array DictEntry} (h : intKeys es.toList = true) : KeysOf (intKind prog w) es := by
 intro e he
 have := List.all_eq_true.mp h e (by simpa using he)
 split at this
 ·rename_i i t hk
  refine ⟨i, ?_, eq_of_beq this⟩
  rw [hk]
  show Value.isInt i (.int i t) = true
  simp [Value.isInt]
 ·cases this
theorem hmap (P : Params) : ∃ o es ep, (hd.heap_39 P).lookup 73 = some o ∧ o.ExactDict ∧ o.data = .dict es ep ∧ intKeys es.toList = true ∧ findBy Value.isInt es 47 = none ∧ findBy Value.isInt es 97 = none ∧ findBy Value.isInt es 98 = none ∧ findBy Value.isInt es 117 = none ∧
  (∃ u, findBy Value.isInt es 123 = some (.str (⟨#[92, 123]⟩ : Str) u)) ∧ ∃ u, findBy Value.isInt es 125 = some (.str (⟨#[92, 125]⟩ : Str) u) :=
 ⟨_, _, _, by first | rfl | kernel_rfl, ⟨rfl, rfl, rfl⟩, rfl, by kernel_rfl, by kernel_rfl, by kernel_rfl, by kernel_rfl, by kernel_rfl, ⟨_, by first | rfl | kernel_rfl⟩, ⟨_, by first | rfl | kernel_rfl⟩⟩
theorem hre (P : Params) : ∃ b t1 t2 x vs m ob, nsIn (hd.heap_39 P) mainGlobals "_twin_re_1" = some (some (.ref 64)) ∧ (hd.heap_39 P).lookup 64 = some (patObj b t1 t2 x) ∧ (hd.heap_39 P).lookup b = some ob ∧ ob.data = .seq vs m ∧ (vs.map reRawOf).map (·.toNat) = codeL :=
 ⟨_, _, _, _, _, _, _, by kernel_rfl, by first | rfl | kernel_rfl, by first | rfl | kernel_rfl, rfl, by first | rfl | kernel_rfl⟩
theorem h98 (P : Params) : ∃ o98 : Obj, (hd.heap_39 P).lookup 98 = some o98 ∧ ∀ vs n, o98 ≠ lstObj vs n :=
 ⟨_, by first | rfl | kernel_rfl, fun vs n q => by have := congrArg Obj.data q; cases this⟩
end Mine
namespace Mine
open PySem PySem.Calls PyProof.Rows PySem.W PySem.Builtin PySem.Builtin.Re
abbrev tabs3 : List (Addr × Addr) := [(89, 85), (37, 33), (169, 167)]
def qOf (P : Addr) : Str := if P = 85 then ("_translate.<locals>." : Str) ++ ("<lambda>" : Str) else if P = 33 then ("_prepare_tag.<locals>." : Str) ++ ("select" : Str) else ("law.<locals>." : Str) ++ ("<lambda>" : Str)
theorem ghost_bi {h : Heap} {tabs : List (Addr × Addr)} {p : Program} {loose : List Str} {mean : ExcName → Option Value} {mg mb : Str → Option Value} (T : Top p loose mean mg mb h) (hT : TabsAt tabs h) {P : Addr} (hP : P ∈ tabs.map (·.2)) : (ghostOf h tabs).BuiltinsAt mg P := by
 obtain ⟨bm, ob, a1, a2, a3, a4, a5, a6⟩ := (ghost_top hT T).bmain
 obtain ⟨o, es, ep, e, hd', _⟩ := T.g
 refine ⟨bm, ob, a1, a2, fun q => ?_, fun q => ?_, a3, a4, a5, a6⟩
 ·have := of_hideAll _ a3
  rw [q, e] at this; cases this
  rw [hd'] at a6; cases a6
 ·rw [q, hideAll_none _ hP] at a3; cases a3
theorem base_mk {prog : Program} {w : World} {h : Heap} {p : Program} {loose : List Str} {mean : ExcName → Option Value} {mg mb : Str → Option Value} (KX : (hd.heap_39 w.params).In h) (T : Top p loose mean mg mb h) (hT : TabsAt tabs3 h) :
  ∃ G : Gd, G.prog = prog ∧ G.w = w ∧ G.T = tabs3.map (·.2) ∧ Base G (hd.heap_39 w.params) 85 33 167 ∧ Cx G h := by
 have X : (hd.heap_39 w.params).In (ghostOf h tabs3) := ghost_K hT KX (hnt w.params)
 have T' := ghost_top hT T
 have hc := ghost_code hT
 refine ⟨mkGd prog w (ghostOf h tabs3) (tabs3.map (·.2)) qOf 55 mg mb (ghost_ns hT T.g) (ghost_ns hT T.b) T'.nolimit (fun a ha => hideAll_none _ ha), rfl, rfl, rfl, ?_, cx_start hT⟩
 obtain ⟨hc1, hc2, hc3, _⟩ := hc
 obtain ⟨oC, hoC⟩ := hoc w.params
 obtain ⟨b, t1, t2, x, vs, m, ob, g1, g2, g3, g4, g5⟩ := hre w.params
 obtain ⟨o73, es, ep, m1, m2, m3, m4, m5, m6, m7, m8, ⟨u1, m9⟩, ⟨u2, m10⟩⟩ := hmap w.params
 obtain ⟨o98, n1, n2⟩ := h98 w.params
 exact
  {X₀ := X
   hC := rfl
   NC := hNC _
   hnc := ⟨oC, hoC⟩
   gam := fun q hq => gam_of X T' (List.all_eq_true.mp (hgl w.params) q hq)
   rI := hrI _ X
   r38 := hr38 _ X
   r71 := hr71 _ X
   r83 := hr83 _ X
   r90 := hr90 _ X
   r97 := hr97 _ X
   r106 := hr106 _ X
   r113 := hr113 _ X
   r120 := hr120 _ X
   r125 := hr125 _ X
   r132 := hr132 _ X
   r139 := hr139 _ X
   r144 := hr144 _ X
   r151 := hr151 _ X
   r158 := hr158 _ X
   r165 := hr165 _ X
   r170 := hr170 _ X
   re := ⟨64, b, t1, t2, x, vs, m, ob, mg_of X T'.g g1, X _ _ g2, X _ _ g3, g4, g5⟩
   t89 := tabG_mk hc1 (by simp) (ghost_bi T hT (by simp))
   t37 := tabG_mk hc2 (by simp) (ghost_bi T hT (by simp))
   t169 := tabG_mk hc3 (by simp) (ghost_bi T hT (by simp))
   map := ⟨fun k => findBy Value.isInt es k, ⟨o73, es, ep, X _ _ m1, m2, m3, keys_of m4, fun k => rfl⟩, fun c hc => by
    rcases hc with rfl | rfl | rfl | rfl | rfl | rfl
    ·exact .inl ⟨m5, rfl⟩
    ·exact .inl ⟨m6, rfl⟩
    ·exact .inl ⟨m7, rfl⟩
    ·exact .inl ⟨m8, rfl⟩
    ·exact .inr ⟨92, 123, u1, m9, rfl⟩
    ·exact .inr ⟨92, 125, u2, m10, rfl⟩⟩
   m98 := ⟨o98, X _ _ n1, n2⟩ }
theorem ints_rd {P : Params} {h : Heap} {C : Addr} {X : List Addr} : ∀ {ns : List Int} {vs : List Value}, WellAll P h vs (ofPys (ns.map .int)) → RdL C X h (ns.map .int) vs
 | [], vs, w => by cases w; exact .nil
 | n :: ns, vs, w => by
  cases w with
  | cons a b =>
   cases a with
   | int i t => exact .cons (by unfold Rd; exact ⟨t, rfl⟩) (ints_rd b)
theorem law_call {prog : Program} {w : World} {s : Shared} {p : Program} {loose : List Str} {mean : ExcName → Option Value} {mg mb : Str → Option Value} (KX : (hd.heap_39 w.params).In s.heap) (T : Top p loose mean mg mb s.heap) (hT : TabsAt tabs3 s.heap) {sc : List Int} (hs : sc.length ≤ 63) {a : Addr}
  (hw : Well w.params s.heap (.ref a) (ofPy (.list (sc.map .int)))) {E : Value → Shared → Prop} {Q : Value → Shared → Prop}
  (hQ : ∀ s', OldK s.heap s'.heap → s'.os = s.os → (AllBare s.gens → AllBare s'.gens) → Q (.bool true) s') : wpAny (model prog w) callerA (call (.ref 170) [.ref a]) Q E s := by
 obtain ⟨G, rfl, rfl, hGT, B, cx⟩ := base_mk (prog := prog) KX T hT
 have key := law_final B sc hs
 cases hw with
 | list e wl =>
  rename_i vs
  have xok : XOk G G.T s.heap := ⟨fun _ h => h, fun b hb => by
   obtain ⟨us, e⟩ := G.tabs _ cx.ti b hb
   exact ⟨_, e⟩⟩
  have nT : a ∉ G.T := cx.notTab e zI
  refine wpAny_mono (key callerA G.T s [.ref a] ?_ cx xok (.cons (Rd.lst' nT e (ints_rd wl)) .nil) E) (fun v s' h => ?_) fun _ _ e => e
  ·exact ⟨rfl, by decide, by decide⟩
  ·obtain ⟨g, r⟩ := h
   have hv : v = .bool true := by unfold Rd at r; exact r
   subst hv
   have grown : ∀ b o, b ∈ tabs3.map (·.2) → s.heap.get? b = some o → isCodeTable s.heap b ∧ o = tabObj #[] ∧ ∃ ps, s'.heap.get? b = some (tabObj ps) := fun b o hb e => by
    obtain ⟨q, hq, rfl⟩ := List.mem_map.mp hb
    have e2 := (hT q hq).2
    rw [e] at e2
    exact ⟨((hT q hq).1.tab (hT q hq).2).isCodeTable, Option.some.inj e2, G.tabs _ (g.ti cx.ti) _ (by rw [hGT]; exact hb)⟩
   refine hQ s' ⟨fun b o e => ?_, fun b o e => ?_⟩ g.os g.bare
   ·by_cases hb : b ∈ tabs3.map (·.2)
    ·obtain ⟨ht, rfl, ps, hP⟩ := grown b o hb e
     exact .inr (.inl ⟨ht, rfl, #[], ps, rfl, by rw [Array.empty_append]; exact hP⟩)
    ·exact .inl (g.heap b o (by rw [hGT]; exact hb) e)
   ·by_cases hb : b ∈ tabs3.map (·.2)
    ·obtain ⟨_, _, ps, hP⟩ := grown b o hb e
     exact ⟨_, hP⟩
    ·exact ⟨o, g.heap b o (by rw [hGT]; exact hb) e⟩
theorem fa_is (P : Params) : nsIn (hd.heap_39 P) mainGlobals "law" = some (some (.ref 170)) := by kernel_rfl
end Mine
open PySem PySem.W PyProof.Rows
set_option maxHeartbeats 8000000 in
theorem PySem.Challenge.cw_ik0160_01_holds : PySem.Challenge.rw_ik0160_01.Holds := by
 refine Mine.hd (by
  k_fill
  intro w s₀ s₁ mg mb G Y fa o pm cd doc dV kV ho hd' hcd hD hmg hg args vals as hpre hlay hrd hwl hlo
  have KX := km_in_of Y
  km_tabs Y
  have X := (Ground.X G).1
  have V := (Ground.X G).2
  refine Ground.open G ?_
  intro T B D TE TW
  try (refine guard_noD D (by decide +kernel) ?_; clear D)
  km_lay T hmg ho hd' cd
  have hfa : fa = 170 := by
   have h1 : mg "law" = some (.ref fa) := hmg
   have h2 := mg_of KX T.g (Mine.fa_is w.params)
   rw [h2] at h1
   exact (Value.ref.inj (Option.some.inj h1)).symm
  clear ho hd' hcd hD hmg
  subst hfa
  wrow_args hpre hlay hrd hwl hlo
  all_goals (
   rename Well _ _ _ _ => hWW
   refine Mine.law_call KX T hT9 (by omega) hWW fun s' h1 h2 h3 => ?_
   refine ⟨.inl ⟨.bool true, .bool true, [], rfl, raisesW_false ?_, .bool true, ?_, fun _ => ⟨List.nodup_nil, fun a ha => by cases ha⟩⟩, h1, h2, h3 (.of_eq hg)⟩
   ·wrow_none_raised
   ·wrow_post))
