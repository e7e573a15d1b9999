import PyProof.Rows.All
import Wide.All
import OpenK.AllK
import Wide.FinOn
import KE.KNest
import Lean
import PySem.Challenge.RW_uc0056_01
open PySem PySem.W PyProof.Rows
set_option Elab.async false
set_option linter.unusedVariables false
set_option genInjectivity false
set_option genSizeOf false
set_option bootstrap.genMatcherCode false
section
set_option tactic.hygienic false
set_option hygiene false
namespace Mine
inductive PV where
  | none | bool (b : Bool) | int (i : Int) | str (x : List Nat)
  | ref (a : Addr) | blt (n : String) | typ (n : String)
  | tup (l : List PV) | lst (l : List PV)
  | fin (C : Addr) (fs : List (Str × PV))
  | clo (n q : Str) (ps : Arguments) (b : List Stmt) (sc : Scope) (cs : List (Str × PV))
  | rng (a b : Int)
  | bm (f a : Addr)
  | dct (hs : Str → Int) (l : List (Str × PV))
  | dit (hs : Str → Int) (l : List (Str × PV))
noncomputable abbrev FM := Addr → Obj → Prop
noncomputable def tupleObj (vs : Array Value) (n : Nat) : Obj := { cls := .type "tuple", data := .seq vs n }
noncomputable def rangeObj (a b c : Int) (t u v : Tok) : Obj := { cls := .type "range", data := .fields #[.int a t, .int b u, .int c v] }
mutual
noncomputable def VRel (F : FM) : PV → Value → Prop
  | .none, v => v = .none
  | .bool b, v => v = .bool b
  | .int i, v => ∃ t, v = .int i t
  | .str x, v => ∃ t, v = .str ⟨x.toArray⟩ t
  | .ref a, v => v = .ref a
  | .blt n, v => v = .builtin n
  | .typ n, v => v = .type n
  | .tup l, v => ∃ a vs n, v = .ref a ∧ F a (tupleObj vs n) ∧ VRels F l vs.toList
  | .lst l, v => ∃ a vs n, v = .ref a ∧ F a (listOf vs n) ∧ VRels F l vs.toList
  | .fin C fs, v => ∃ a d es n, v = .ref a ∧ F a (instObj C d) ∧ F d ⟨.type "dict", Option.none, .dict es n, #[]⟩ ∧ StrKeys es ∧ FRels F fs (nsFind es)
  | .clo nm q ps b sc cs, v => ∃ a o c oc vs t ct doc pm cl, v = .ref a ∧ F a o ∧ o.cls = .type "function" ∧ o.data = .func (fnX nm q ps b sc cl .none .none doc pm Option.none (.ref c) ct) ∧ F c oc ∧ oc.cls = .type "code" ∧ oc.data = .fields vs ∧ vs[1]? = some (.str q t) ∧ CRels F cs cl
  | .rng a b, v => ∃ r t u w, v = .ref r ∧ F r (rangeObj a b 1 t u w)
  | .bm f a, v => ∃ r, v = .ref r ∧ F r (methodObj (.ref f) (.ref a))
  | .dct hs l, v => ∃ a es n, v = .ref a ∧ F a ⟨.type "dict", Option.none, .dict es n, #[]⟩ ∧ (a == sysModules) = false ∧ DRels F hs l es.toList
  | .dit hs l, v => ∃ r a es n, v = .ref r ∧ F r { cls := .type "dict_items", data := .fields #[.ref a] } ∧ F a ⟨.type "dict", Option.none, .dict es n, #[]⟩ ∧ (a == sysModules) = false ∧ DRels F hs l es.toList
noncomputable def VRels (F : FM) : List PV → List Value → Prop
  | [], vs => vs = []
  | p :: l, vs => ∃ v ws, vs = v :: ws ∧ VRel F p v ∧ VRels F l ws
noncomputable def FRels (F : FM) : List (Str × PV) → (Str → Option Value) → Prop
  | [], _ => True
  | (x, p) :: l, m => (∃ v, m x = some v ∧ VRel F p v) ∧ FRels F l m
noncomputable def CRels (F : FM) : List (Str × PV) → List (Str × Addr) → Prop
  | [], cl => cl = []
  | (x, p) :: l, cl => ∃ c o v r, cl = (x, c) :: r ∧ F c o ∧ o.cls = .type "cell" ∧ o.data = .cell (some v) ∧ VRel F p v ∧ CRels F l r
noncomputable def DRels (F : FM) (hs : Str → Int) : List (Str × PV) → List DictEntry → Prop
  | [], es => es = []
  | (x, p) :: l, es => ∃ t v r, es = ⟨hs x, .str x t, v⟩ :: r ∧ VRel F p v ∧ DRels F hs l r
end
noncomputable def iterCls : Value → Bool
  | .type n => ["list_iterator", "tuple_iterator", "str_iterator", "str_ascii_iterator", "range_iterator", "zip", "dict_itemiterator"].contains n
  | _ => false
mutual
theorem VRel.mono2 {F F' : FM} (hF : ∀ a o, iterCls o.cls = false → F a o → F' a o) : ∀ {p : PV} {v : Value}, VRel F p v → VRel F' p v
  | .none, _, h => h
  | .bool _, _, h => h
  | .int _, _, h => h
  | .str _, _, h => h
  | .ref _, _, h => h
  | .blt _, _, h => h
  | .typ _, _, h => h
  | .tup _, _, h => by obtain ⟨a, vs, n, e, f, r⟩ := h; exact ⟨a, vs, n, e, hF _ _ rfl f, VRels.mono2 hF r⟩
  | .lst _, _, h => by obtain ⟨a, vs, n, e, f, r⟩ := h; exact ⟨a, vs, n, e, hF _ _ rfl f, VRels.mono2 hF r⟩
  | .fin _ _, _, h => by obtain ⟨a, d, es, n, e, f, g, k, r⟩ := h; exact ⟨a, d, es, n, e, hF _ _ rfl f, hF _ _ rfl g, k, FRels.mono2 hF r⟩
  | .clo .., _, h => by obtain ⟨a, o, c, oc, vs, t, ct, doc, pm, cl, e, f, k, d, f2, k2, d2, v2, r⟩ := h; exact ⟨a, o, c, oc, vs, t, ct, doc, pm, cl, e, hF _ _ (by rw [k]; rfl) f, k, d, hF _ _ (by rw [k2]; rfl) f2, k2, d2, v2, CRels.mono2 hF r⟩
  | .rng _ _, _, h => by obtain ⟨r, t, u, w, e, f⟩ := h; exact ⟨r, t, u, w, e, hF _ _ rfl f⟩
  | .bm _ _, _, h => by obtain ⟨r, e, f⟩ := h; exact ⟨r, e, hF _ _ rfl f⟩
  | .dct _ _, _, h => by obtain ⟨a, es, n, e, f, z, r⟩ := h; exact ⟨a, es, n, e, hF _ _ rfl f, z, DRels.mono2 hF r⟩
  | .dit _ _, _, h => by obtain ⟨r, a, es, n, e, f, g, z, q⟩ := h; exact ⟨r, a, es, n, e, hF _ _ rfl f, hF _ _ rfl g, z, DRels.mono2 hF q⟩
theorem VRels.mono2 {F F' : FM} (hF : ∀ a o, iterCls o.cls = false → F a o → F' a o) : ∀ {l : List PV} {vs : List Value}, VRels F l vs → VRels F' l vs
  | [], _, h => h
  | _ :: _, _, h => by obtain ⟨v, ws, e, a, b⟩ := h; exact ⟨v, ws, e, VRel.mono2 hF a, VRels.mono2 hF b⟩
theorem FRels.mono2 {F F' : FM} (hF : ∀ a o, iterCls o.cls = false → F a o → F' a o) : ∀ {l : List (Str × PV)} {m : Str → Option Value}, FRels F l m → FRels F' l m
  | [], _, _ => trivial
  | (_, _) :: _, _, h => by obtain ⟨⟨v, e, a⟩, b⟩ := h; exact ⟨⟨v, e, VRel.mono2 hF a⟩, FRels.mono2 hF b⟩
theorem CRels.mono2 {F F' : FM} (hF : ∀ a o, iterCls o.cls = false → F a o → F' a o) : ∀ {l : List (Str × PV)} {cl : List (Str × Addr)}, CRels F l cl → CRels F' l cl
  | [], _, h => h
  | (_, _) :: _, _, h => by obtain ⟨c, o, v, r, e, f, z, d, a, b⟩ := h; exact ⟨c, o, v, r, e, hF _ _ (by rw [z]; rfl) f, z, d, VRel.mono2 hF a, CRels.mono2 hF b⟩
theorem DRels.mono2 {F F' : FM} (hF : ∀ a o, iterCls o.cls = false → F a o → F' a o) {hs : Str → Int} : ∀ {l : List (Str × PV)} {es : List DictEntry}, DRels F hs l es → DRels F' hs l es
  | [], _, h => h
  | (_, _) :: _, _, h => by obtain ⟨t, v, r, e, a, b⟩ := h; exact ⟨t, v, r, e, VRel.mono2 hF a, DRels.mono2 hF b⟩
end
theorem VRel.mono {F F' : FM} (hF : ∀ a o, F a o → F' a o) {p : PV} {v : Value} (h : VRel F p v) : VRel F' p v := VRel.mono2 (fun a o _ => hF a o) h
theorem VRels.mono {F F' : FM} (hF : ∀ a o, F a o → F' a o) {l : List PV} {vs : List Value} (h : VRels F l vs) : VRels F' l vs := VRels.mono2 (fun a o _ => hF a o) h
theorem VRels.length {F : FM} : ∀ {l : List PV} {vs : List Value}, VRels F l vs → vs.length = l.length
  | [], _, h => by rw [show _ = [] from h]; rfl
  | _ :: _, _, h => by obtain ⟨v, ws, rfl, _, b⟩ := h; rw [List.length_cons, List.length_cons, VRels.length b]
theorem VRels.append {F : FM} : ∀ {l l' : List PV} {vs vs' : List Value}, VRels F l vs → VRels F l' vs' → VRels F (l ++ l') (vs ++ vs')
  | [], _, _, _, h, h' => by rw [show _ = [] from h]; exact h'
  | _ :: _, _, _, _, h, h' => by obtain ⟨v, ws, rfl, a, b⟩ := h; exact ⟨v, _, rfl, a, VRels.append b h'⟩
theorem VRels.get {F : FM} : ∀ {l : List PV} {vs : List Value} {i : Nat} {p : PV}, VRels F l vs → l[i]? = some p → ∃ v, vs[i]? = some v ∧ VRel F p v
  | _ :: _, _, 0, _, h, e => by obtain ⟨v, ws, rfl, a, b⟩ := h; cases e; exact ⟨v, rfl, a⟩
  | _ :: _, _, i + 1, _, h, e => by obtain ⟨v, ws, rfl, a, b⟩ := h; exact VRels.get (i := i) b e
theorem VRels.set {F : FM} : ∀ {l : List PV} {vs : List Value} {i : Nat} {p : PV} {v : Value}, VRels F l vs → VRel F p v → VRels F (l.set i p) (vs.set i v)
  | [], _, _, _, _, h, _ => by rw [show _ = [] from h]; rfl
  | _ :: _, _, 0, _, _, h, hp => by obtain ⟨v, ws, rfl, a, b⟩ := h; exact ⟨_, _, rfl, hp, b⟩
  | _ :: _, _, i + 1, _, _, h, hp => by obtain ⟨v, ws, rfl, a, b⟩ := h; exact ⟨_, _, rfl, a, VRels.set b hp⟩
theorem VRels.drop {F : FM} : ∀ {l : List PV} {vs : List Value} {i : Nat}, VRels F l vs → VRels F (l.drop i) (vs.drop i)
  | _, _, 0, h => h
  | [], _, _ + 1, h => by rw [show _ = [] from h]; rfl
  | _ :: _, _, i + 1, h => by obtain ⟨v, ws, rfl, a, b⟩ := h; exact VRels.drop (i := i) b
theorem VRels.take {F : FM} : ∀ {l : List PV} {vs : List Value} {i : Nat}, VRels F l vs → VRels F (l.take i) (vs.take i)
  | _, _, 0, h => rfl
  | [], _, _ + 1, h => by rw [show _ = [] from h]; rfl
  | _ :: _, _, i + 1, h => by obtain ⟨v, ws, rfl, a, b⟩ := h; exact ⟨_, _, rfl, a, VRels.take (i := i) b⟩
theorem VRels.one {F : FM} {p : PV} {v : Value} (h : VRel F p v) : VRels F [p] [v] := ⟨v, [], rfl, h, rfl⟩
inductive AObj where
  | list (l : List PV)
  | inst (C d : Addr) (fs : Str → Option PV) (n : Nat)
  | part (a : Addr)
  | frame (m : Str → Option PV)
  | cell (p : Option PV)
  | citer (p : PV) (done : Bool)
  | own
noncomputable abbrev Sig := Addr → Option AObj
noncomputable def Sig.upd (σ : Sig) (a : Addr) (o : AObj) : Sig := fun b => if b = a then some o else σ b
noncomputable def Sig.del (σ : Sig) (a : Addr) : Sig := fun b => if b = a then Option.none else σ b
noncomputable def Fresh (σ : Sig) (a : Addr) : Prop := ∀ b, a ≤ b → σ b = Option.none
noncomputable def fset (m : Str → Option PV) (x : Str) (p : PV) : Str → Option PV := fun y => if y = x then some p else m y
theorem upd_same (σ : Sig) (a : Addr) (o : AObj) : (σ.upd a o) a = some o := if_pos rfl
theorem upd_ne {σ : Sig} {a b : Addr} {o : AObj} (h : b ≠ a) : (σ.upd a o) b = σ b := if_neg h
theorem fset_same (m : Str → Option PV) (x : Str) (p : PV) : fset m x p x = some p := if_pos rfl
theorem fset_ne {m : Str → Option PV} {x y : Str} {p : PV} (h : y ≠ x) : fset m x p y = m y := if_neg h
noncomputable def Fz (σ : Sig) (h : Heap) : FM := fun a o => σ a = Option.none ∧ h.get? a = some o ∧ o.cls ≠ .none
noncomputable def ORl (F : FM) : Option PV → Option Value → Prop
  | some p, v => ∃ w, v = some w ∧ VRel F p w
  | Option.none, v => v = Option.none
noncomputable def OLe (F : FM) : Option PV → Option Value → Prop
  | some p, v => ∃ w, v = some w ∧ VRel F p w
  | Option.none, _ => True
noncomputable def citerObj (v : Value) (t : Tok) (b : Bool) : Obj := { cls := .type "callable_iterator", data := .fields (if b then #[.none, .none, .bool true] else #[v, .str ⟨#[]⟩ t, .bool false]) }
noncomputable def OR (σ : Sig) (h : Heap) (a : Addr) : AObj → Prop
  | .list l => ∃ vs n, h.get? a = some (listOf vs n) ∧ VRels (Fz σ h) l vs.toList
  | .inst C d fs n => h.get? a = some (instObj C d) ∧ d < a ∧ σ d = some (.part a) ∧ ∃ es ep, h.get? d = some ⟨.type "dict", Option.none, .dict es ep, #[]⟩ ∧ StrKeys es ∧ es.size ≤ n ∧ ∀ x, ORl (Fz σ h) (fs x) (nsFind es x)
  | .part _ => ∃ o, h.get? a = some o
  | .frame m => ∃ mc, h.Ns a mc ∧ ∀ x, OLe (Fz σ h) (m x) (mc x)
  | .cell p => ∃ o v, h.get? a = some o ∧ o.cls = .type "cell" ∧ o.data = .cell v ∧ ORl (Fz σ h) p v
  | .citer p b => ∃ v t, h.get? a = some (citerObj v t b) ∧ VRel (Fz σ h) p v
  | .own => ∃ o, h.get? a = some o
structure Wd where
  K : Frag
  prog : Program
  w : World
  h₁ : Heap
  os : OsState
  mg : Str → Option Value
  mb : Str → Option Value
  tP : Addr
  tpos : Pos
  tq : Str
  tlt : tP < h₁.objs.size
  kn : FM → Prop
  knm : ∀ {F F' : FM}, (∀ a o, iterCls o.cls = false → F a o → F' a o) → kn F → kn F'
noncomputable def TabInv (W : Wd) (F : FM) (h : Heap) : Prop := W.kn F ∧ ∃ ps, h.get? W.tP = some (tabObj ps) ∧ (ps = #[] ∨ ∃ c oc vs t, ps = #[rawInt W.tpos.line, rawInt W.tpos.col, .ref c] ∧ F c oc ∧ oc.cls = .type "code" ∧ oc.data = .fields vs ∧ vs[1]? = some (.str W.tq t))
theorem TabInv.keep {W : Wd} {F F' : FM} {h h' : Heap} (x : TabInv W F h) (hF : ∀ a o, iterCls o.cls = false → F a o → F' a o) (e : h'.get? W.tP = h.get? W.tP) : TabInv W F' h' := by
  obtain ⟨h0, ps, h1, h2⟩ := x
  refine ⟨W.knm hF h0, ps, e.trans h1, ?_⟩
  rcases h2 with rfl | ⟨c, oc, vs, t, e1, f, e2, r⟩
  · exact .inl rfl
  · exact .inr ⟨c, oc, vs, t, e1, hF _ _ (by rw [e2]; rfl) f, e2, r⟩
theorem TabInv.there {W : Wd} {F : FM} {h : Heap} (x : TabInv W F h) : ∃ o, h.get? W.tP = some o := by obtain ⟨_, ps, h1, _⟩ := x; exact ⟨_, h1⟩
structure St (W : Wd) (σ : Sig) (s : Shared) : Prop where
  hr : ∀ a o, σ a = some o → OR σ s.heap a o
  old : OldK W.h₁ s.heap
  above : ∀ a, σ a ≠ Option.none → W.h₁.objs.size ≤ a
  sz : W.h₁.objs.size ≤ s.heap.objs.size
  lim : s.heap.NoLimit
  os : s.os = W.os
  gens : AllBare s.gens
  tab : TabInv W (Fz σ s.heap) s.heap
noncomputable abbrev FrOf (σ : Sig) (s : Shared) : FM := Fz σ s.heap
noncomputable def FLe (F F' : FM) : Prop := ∀ a o, F a o → F' a o
theorem FLe.refl (F : FM) : FLe F F := fun _ _ h => h
theorem FLe.trans {F F' F'' : FM} (h : FLe F F') (h' : FLe F' F'') : FLe F F'' := fun a o x => h' a o (h a o x)
noncomputable def Room (A : Around) (k : Nat) : Prop := A.handled = Option.none ∧ A.depth + k ≤ 900 ∧ A.units + 8 * k ≤ 9000
noncomputable def G (W : Wd) (k : Nat) (P : FM → Prop) {α β : Type} (R : FM → β → α → Prop) (t : Sem α) (σ : Sig) (K : β → Sig → Prop) : Prop :=
  ∀ A, Room A k → ∀ s, St W σ s → P (FrOf σ s) →
    wpAny (model W.prog W.w) A t (fun v s' => ∃ b σ', St W σ' s' ∧ FLe (FrOf σ s) (FrOf σ' s') ∧ R (FrOf σ' s') b v ∧ K b σ') (fun _ _ => False) s
noncomputable def PT : FM → Prop := fun _ => True
noncomputable def REq {α : Type} : FM → α → α → Prop := fun _ a b => b = a
inductive AFlow where
  | next | brk | cont | ret (p : PV)
noncomputable def LRel (F : FM) : AFlow → Flow → Prop
  | .next, f => f = .next
  | .brk, f => f = .brk
  | .cont, f => f = .cont
  | .ret p, f => ∃ v, f = .ret v ∧ VRel F p v
section
variable {W : Wd} {k : Nat} {P : FM → Prop} {α β γ δ : Type} {R : FM → β → α → Prop} {t : Sem α} {σ : Sig} {K : β → Sig → Prop}
theorem G.use {Q : α → Shared → Prop} {E : Value → Shared → Prop} (h : G W k P R t σ K) (A : Around) (hA : Room A k) (s : Shared) (hs : St W σ s) (hP : P (FrOf σ s)) (f : ∀ v s' b σ', St W σ' s' → FLe (FrOf σ s) (FrOf σ' s') → R (FrOf σ' s') b v → K b σ' → Q v s') (e : ∀ e s', False → E e s') : wpAny (model W.prog W.w) A t Q E s :=
  wpAny_mono (h A hA s hs hP) (fun v s' hpat => by obtain ⟨b, σ', a1, a2, a3, a4⟩ := hpat; exact f v s' b σ' a1 a2 a3 a4) e
theorem G.imp {K' : β → Sig → Prop} (h : G W k P R t σ K) (hK : ∀ b σ', K b σ' → K' b σ') : G W k P R t σ K' :=
  fun A hA s hs hP => G.use h A hA s hs hP (fun _ _ b σ' a1 a2 a3 a4 => ⟨b, σ', a1, a2, a3, hK _ _ a4⟩) fun _ _ x => x
theorem G.pre {P' : FM → Prop} (h : G W k P R t σ K) (hP' : ∀ F, P' F → P F) : G W k P' R t σ K := fun A hA s hs hP => h A hA s hs (hP' _ hP)
end
noncomputable def res (n : Addr) (σ : Sig) : Sig := fun a => if a < n then σ a else Option.none
theorem res_lt {n : Addr} {σ : Sig} {a : Addr} (h : a < n) : res n σ a = σ a := if_pos h
theorem res_ge {n : Addr} {σ : Sig} {a : Addr} (h : n ≤ a) : res n σ a = Option.none := if_neg (Nat.not_lt.mpr h)
theorem res_upd_lt {n : Addr} {σ : Sig} {a : Addr} {o : AObj} (h : a < n) : res n (σ.upd a o) = (res n σ).upd a o := by
  funext b
  unfold res Sig.upd
  by_cases q : b = a
  · subst q; simp [h]
  · simp [q]
theorem res_upd_ge {n : Addr} {σ : Sig} {a : Addr} {o : AObj} (h : n ≤ a) : res n (σ.upd a o) = res n σ := by
  funext b
  unfold res Sig.upd
  by_cases q : b = a
  · subst q; simp [Nat.not_lt.mpr h]
  · simp [q]
theorem res_fresh {n : Addr} {σ : Sig} (h : Fresh σ n) : res n σ = σ := by
  funext b
  unfold res
  split
  · rfl
  · rename_i q; exact (h b (Nat.not_lt.mp q)).symm
theorem upd_upd {σ : Sig} {a : Addr} {o o' : AObj} : (σ.upd a o).upd a o' = σ.upd a o' := by
  funext b; unfold Sig.upd; by_cases q : b = a <;> simp [q]
theorem upd_comm {σ : Sig} {a b : Addr} {o o' : AObj} (h : a ≠ b) : (σ.upd a o).upd b o' = (σ.upd b o').upd a o := by
  funext c; unfold Sig.upd
  by_cases q : c = a
  · subst q; simp [h]
  · simp [q]
theorem z0 (i : Nat) : ((0 : Int) + (i : Int)).toNat = i := by rw [Int.zero_add]; rfl
theorem z1 (i : Nat) : (0 : Int) ≤ 0 + (i : Int) := by rw [Int.zero_add]; exact Int.natCast_nonneg _
theorem z2 {i n : Nat} {m : Int} (h : i < n) (hm : (n : Int) ≤ m) : (i : Int) < m := Int.lt_of_lt_of_le (Int.ofNat_lt.mpr h) hm
theorem z3 {i n : Nat} {m : Int} (h : i < n) (hm : (n : Int) ≤ m) : (0 : Int) + (i : Int) < m := by rw [Int.zero_add]; exact z2 h hm
theorem z4 (j : Nat) : (1 : Int) + (j : Int) = ((j + 1 : Nat) : Int) := by rw [Int.add_comm]; rfl
theorem z6 {a b c : Nat} (h : a < b) (k : b ≤ c) : a ≤ c := Nat.le_of_lt (Nat.lt_of_lt_of_le h k)
theorem z9 {a b c : Nat} (h : a = b) (k : b ≤ c) : a ≤ c := h ▸ k
theorem sub_s {n k : Nat} (h : k < n) : n - k = (n - (k + 1)) + 1 := by rw [Nat.sub_add_eq, Nat.sub_one_add_one (Nat.sub_ne_zero_of_lt h)]
end Mine
end
section
set_option tactic.hygienic false
set_option hygiene false
namespace Mine
theorem ORl.mono {F F' : FM} (hF : FLe F F') {p : Option PV} {v : Option Value} (h : ORl F p v) : ORl F' p v := by
  cases p with
  | none => exact h
  | some p => obtain ⟨w, e, r⟩ := h; exact ⟨w, e, r.mono hF⟩
theorem OLe.mono {F F' : FM} (hF : FLe F F') {p : Option PV} {v : Option Value} (h : OLe F p v) : OLe F' p v := by
  cases p with
  | none => trivial
  | some p => obtain ⟨w, e, r⟩ := h; exact ⟨w, e, r.mono hF⟩
theorem Ns.of_get {h h' : Heap} {a : Addr} {m} (x : h.Ns a m) (e : h'.get? a = h.get? a) : h'.Ns a m :=
  by obtain ⟨o, es, ep, ho, r⟩ := x; exact ⟨o, es, ep, e.trans ho, r⟩
theorem OR.keep {σ σ' : Sig} {h h' : Heap} {a : Addr} {ao : AObj} (x : OR σ h a ao) (hF : FLe (Fz σ h) (Fz σ' h')) (ha : h'.get? a = h.get? a)
    (hd : ∀ C d fs n, ao = .inst C d fs n → h'.get? d = h.get? d ∧ σ' d = σ d) : OR σ' h' a ao := by
  cases ao with
  | list l => obtain ⟨vs, n, e, r⟩ := x; exact ⟨vs, n, ha.trans e, r.mono hF⟩
  | inst C d fs n =>
    obtain ⟨e, lt, p, es, ep, ho, hk, hz, r⟩ := x
    obtain ⟨q1, q2⟩ := hd C d fs n rfl
    exact ⟨ha.trans e, lt, q2.trans p, es, ep, q1.trans ho, hk, hz, fun y => (r y).mono hF⟩
  | part _ => obtain ⟨o, e⟩ := x; exact ⟨o, ha.trans e⟩
  | frame m => obtain ⟨mc, hn, r⟩ := x; exact ⟨mc, Ns.of_get hn ha, fun y => (r y).mono hF⟩
  | cell p => obtain ⟨o, v, ho, hc, hd, r⟩ := x; exact ⟨o, v, ha.trans ho, hc, hd, r.mono hF⟩
  | citer _ _ => obtain ⟨v, t, e, r⟩ := x; exact ⟨v, t, ha.trans e, r.mono hF⟩
  | own => obtain ⟨o, e⟩ := x; exact ⟨o, ha.trans e⟩
theorem OR.there {σ : Sig} {h : Heap} {a : Addr} {ao : AObj} (x : OR σ h a ao) : ∃ o, h.get? a = some o := by
  cases ao with
  | list l => obtain ⟨vs, n, e, r⟩ := x; exact ⟨_, e⟩
  | inst C d fs n => obtain ⟨e, _⟩ := x; exact ⟨_, e⟩
  | part _ => exact x
  | frame m => obtain ⟨mc, ⟨o, es, ep, ho, _⟩, r⟩ := x; exact ⟨_, ho⟩
  | cell p => obtain ⟨o, v, ho, r⟩ := x; exact ⟨_, ho⟩
  | citer _ _ => obtain ⟨v, t, e, r⟩ := x; exact ⟨_, e⟩
  | own => exact x
theorem St.lt {W : Wd} {σ : Sig} {s : Shared} (S : St W σ s) {a : Addr} (h : σ a ≠ none) : a < s.heap.objs.size := by
  cases e : σ a with
  | none => exact absurd e h
  | some o => obtain ⟨o', ho⟩ := (S.hr a o e).there; exact Heap.lt_size ho
theorem St.fresh {W : Wd} {σ : Sig} {s : Shared} (S : St W σ s) : Fresh σ s.heap.objs.size := fun b hb => by
  cases e : σ b with
  | none => rfl
  | some o => exact absurd (S.lt (a := b) (by rw [e]; simp)) (Nat.not_lt.mpr hb)
theorem St.same {W : Wd} {σ : Sig} {s s' : Shared} (S : St W σ s) (h : s'.heap = s.heap) (o : s'.os = s.os) (g : s'.gens = s.gens) : St W σ s' :=
  ⟨fun a ao e => by rw [h]; exact S.hr a ao e, by rw [h]; exact S.old, S.above, by rw [h]; exact S.sz, by rw [h]; exact S.lim, o.trans S.os, by rw [g]; exact S.gens, by rw [h]; exact S.tab⟩
theorem fle_push {σ : Sig} {h : Heap} {o : Obj} : FLe (Fz σ h) (Fz σ (h.push o)) := fun b o' hpat => by obtain ⟨e1, e2, e3⟩ := hpat; exact ⟨e1, Heap.get?_push_of_some _ e2, e3⟩
theorem fle_push_upd {σ : Sig} {h : Heap} {o : Obj} {ao : AObj} : FLe (Fz σ h) (Fz (σ.upd h.objs.size ao) (h.push o)) := fun b o' ⟨e1, e2, e3⟩ =>
  ⟨(upd_ne (Nat.ne_of_lt (Heap.lt_size e2))).trans e1, Heap.get?_push_of_some _ e2, e3⟩
theorem get_push_old {h : Heap} {o : Obj} {a : Addr} (x : ∃ o', h.get? a = some o') : (h.push o).get? a = h.get? a := by
  obtain ⟨o', e⟩ := x; rw [e]; exact Heap.get?_push_of_some _ e
theorem St.dict_there {W : Wd} {σ : Sig} {s : Shared} (S : St W σ s) {a : Addr} {C d fs n} (e : σ a = some (.inst C d fs n)) : σ d = some (.part a) ∧ ∃ o, s.heap.get? d = some o :=
  by obtain ⟨_, _, p, _, _, ho, _⟩ := S.hr a _ e; exact ⟨p, _, ho⟩
theorem St.dict_lt {W : Wd} {σ : Sig} {s : Shared} (S : St W σ s) {a : Addr} {C d fs n} (e : σ a = some (.inst C d fs n)) : d < a := (S.hr a _ e).2.1
theorem St.push {W : Wd} {σ : Sig} {s : Shared} (S : St W σ s) (o : Obj) : St W σ { s with heap := s.heap.push o } :=
  ⟨fun a ao e => (S.hr a ao e).keep fle_push (get_push_old (S.hr a ao e).there) fun C d fs n q => ⟨get_push_old (S.dict_there (q ▸ e)).2, rfl⟩,
   S.old.step_keeps fun b o' e => Heap.get?_push_of_some _ e, S.above, by rw [Heap.size_push]; exact Nat.le_succ_of_le S.sz, S.lim.push o, S.os, S.gens, S.tab.keep (fun a o _ => fle_push a o) (get_push_old S.tab.there)⟩
theorem St.pushUpd {W : Wd} {σ : Sig} {s : Shared} (S : St W σ s) (o : Obj) (ao : AObj) (hx : OR (σ.upd s.heap.objs.size ao) (s.heap.push o) s.heap.objs.size ao) :
    St W (σ.upd s.heap.objs.size ao) { s with heap := s.heap.push o } := by
  refine ⟨fun a ao' e => ?_, S.old.step_keeps fun b o' e => Heap.get?_push_of_some _ e, fun a h => ?_, by rw [Heap.size_push]; exact Nat.le_succ_of_le S.sz, S.lim.push o, S.os, S.gens, S.tab.keep (fun a o _ => fle_push_upd a o) (get_push_old S.tab.there)⟩
  · by_cases q : a = s.heap.objs.size
    · subst q; rw [upd_same] at e; cases e; exact hx
    · rw [upd_ne q] at e
      exact (S.hr a ao' e).keep fle_push_upd (get_push_old (S.hr a ao' e).there) fun C d fs n z => by
        obtain ⟨z1, o', z2⟩ := S.dict_there (z ▸ e)
        exact ⟨get_push_old ⟨o', z2⟩, upd_ne (Nat.ne_of_lt (Heap.lt_size z2))⟩
  · by_cases q : a = s.heap.objs.size
    · subst q; exact S.sz
    · exact S.above a (by rw [upd_ne q] at h; exact h)
theorem fle_upd {σ : Sig} {h h' : Heap} {a : Addr} {ao : AObj} (ha : σ a ≠ none) (hs : Heap.SameBut a h h') : FLe (Fz σ h) (Fz (σ.upd a ao) h') := fun b o ⟨e1, e2, e3⟩ =>
  have hb : b ≠ a := fun q => ha (q ▸ e1)
  ⟨(upd_ne hb).trans e1, (hs.2 b hb).trans e2, e3⟩
theorem St.tab_ne {W : Wd} {σ : Sig} {s : Shared} (S : St W σ s) {a : Addr} (ha : σ a ≠ none) : W.tP ≠ a := fun q => Nat.lt_irrefl _ (Nat.lt_of_lt_of_le W.tlt (q ▸ S.above a ha))
theorem St.lim_ne {W : Wd} {σ : Sig} {s : Shared} (S : St W σ s) {a : Addr} (ha : σ a ≠ none) (hl : W.h₁.NoLimit) : cStatics ≠ a := by
  rintro rfl
  obtain ⟨mc, hn, _⟩ := hl
  exact absurd hn.lt (Nat.not_lt.mpr (S.above _ ha))
theorem St.update {W : Wd} {σ : Sig} {s : Shared} (S : St W σ s) (hl : W.h₁.NoLimit) {a : Addr} {ao₀ ao : AObj} (ha : σ a = some ao₀) (hp : ∀ b, ao₀ ≠ .part b) {h' : Heap} (hs : Heap.SameBut a s.heap h')
    (hx : OR (σ.upd a ao) h' a ao) {tk : Nat} : St W (σ.upd a ao) { s with heap := h', toks := tk } := by
  have hn : σ a ≠ none := by rw [ha]; simp
  refine ⟨fun b bo e => ?_, S.old.step_same (S.above a hn) hs, fun b h => ?_, by show W.h₁.objs.size ≤ h'.objs.size; rw [hs.1]; exact S.sz, S.lim.sameBut hs (S.lim_ne hn hl), S.os, S.gens, S.tab.keep (fun a o _ => fle_upd hn hs a o) (hs.2 _ (S.tab_ne hn))⟩
  · by_cases q : b = a
    · subst q; rw [upd_same] at e; cases e; exact hx
    · rw [upd_ne q] at e
      refine (S.hr b bo e).keep (fle_upd hn hs) (hs.2 b q) fun C d fs n z => ?_
      obtain ⟨z1, o', z2⟩ := S.dict_there (z ▸ e)
      have : d ≠ a := fun w => hp b (by rw [w, ha] at z1; exact Option.some.inj z1)
      exact ⟨hs.2 d this, upd_ne this⟩
  · by_cases q : b = a
    · subst q; exact S.above _ hn
    · exact S.above b (by rw [upd_ne q] at h; exact h)
theorem St.updateInst {W : Wd} {σ : Sig} {s : Shared} (S : St W σ s) (hl : W.h₁.NoLimit) {a : Addr} {C d : Addr} {fs fs' : Str → Option PV} {n n' : Nat} (ha : σ a = some (.inst C d fs n)) {h' : Heap} (hs : Heap.SameBut d s.heap h')
    {es : Array DictEntry} {ep : Nat} (ho : h'.get? d = some ⟨.type "dict", Option.none, .dict es ep, #[]⟩) (hk : StrKeys es) (hz : es.size ≤ n') (hx : ∀ x, ORl (Fz (σ.upd a (.inst C d fs' n')) h') (fs' x) (nsFind es x)) {tk : Nat} :
    St W (σ.upd a (.inst C d fs' n')) { s with heap := h', toks := tk } := by
  obtain ⟨p, od, hod⟩ := S.dict_there ha
  have hd : σ d ≠ none := by rw [p]; simp
  have hna : σ a ≠ none := by rw [ha]; simp
  have da : d ≠ a := fun q => by rw [q, ha] at p; cases p
  have F1 : FLe (Fz σ s.heap) (Fz (σ.upd a (.inst C d fs' n')) h') := fun b o ⟨e1, e2, e3⟩ =>
    have h1 : b ≠ d := fun q => hd (q ▸ e1)
    have h2 : b ≠ a := fun q => hna (q ▸ e1)
    ⟨(upd_ne h2).trans e1, (hs.2 b h1).trans e2, e3⟩
  refine ⟨fun b bo e => ?_, S.old.step_same (S.above d hd) hs, fun b h => ?_, by show W.h₁.objs.size ≤ h'.objs.size; rw [hs.1]; exact S.sz, S.lim.sameBut hs (S.lim_ne hd hl), S.os, S.gens, S.tab.keep (fun a o _ => F1 a o) (hs.2 _ (S.tab_ne hd))⟩
  · by_cases q : b = a
    · subst q; rw [upd_same] at e; cases e
      exact ⟨(hs.2 b (Ne.symm da)).trans (S.hr b _ ha).1, S.dict_lt ha, (upd_ne da).trans p, es, ep, ho, hk, hz, hx⟩
    · rw [upd_ne q] at e
      by_cases qd : b = d
      · subst qd
        rw [p] at e; cases e
        exact ⟨_, ho⟩
      · refine (S.hr b bo e).keep F1 (hs.2 b qd) fun C' d' fs'' n'' z => ?_
        obtain ⟨z1, o', z2⟩ := S.dict_there (z ▸ e)
        have h1 : d' ≠ d := fun w => by rw [w, p] at z1; cases z1; exact q rfl
        have h2 : d' ≠ a := fun w => by rw [w, ha] at z1; cases z1
        exact ⟨hs.2 d' h1, upd_ne h2⟩
  · by_cases q : b = a
    · subst q; exact S.above _ hna
    · exact S.above b (by rw [upd_ne q] at h; exact h)
theorem fle_updInst {W : Wd} {σ : Sig} {s : Shared} (S : St W σ s) {a : Addr} {C d : Addr} {fs fs' : Str → Option PV} {n n' : Nat} (ha : σ a = some (.inst C d fs n)) {h' : Heap} (hs : Heap.SameBut d s.heap h') : FLe (Fz σ s.heap) (Fz (σ.upd a (.inst C d fs' n')) h') := by
  obtain ⟨p, od, hod⟩ := S.dict_there ha
  have hd : σ d ≠ none := by rw [p]; simp
  have hna : σ a ≠ none := by rw [ha]; simp
  exact fun b o ⟨e1, e2, e3⟩ =>
    have h1 : b ≠ d := fun q => hd (q ▸ e1)
    have h2 : b ≠ a := fun q => hna (q ▸ e1)
    ⟨(upd_ne h2).trans e1, (hs.2 b h1).trans e2, e3⟩
noncomputable def Sub (σ' σ : Sig) : Prop := (∀ a o, σ' a = some o → σ a = some o) ∧ ∀ a C d fs n, σ' a = some (.inst C d fs n) → σ' d = some (.part a)
theorem fle_sub {σ σ' : Sig} {h : Heap} (x : Sub σ' σ) : FLe (Fz σ h) (Fz σ' h) := fun b o hpat => by
  obtain ⟨e1, e2, e3⟩ := hpat
  refine ⟨?_, e2, e3⟩
  cases q : σ' b with
  | none => rfl
  | some o' => rw [x.1 b o' q] at e1; cases e1
theorem St.sub {W : Wd} {σ σ' : Sig} {s : Shared} (S : St W σ s) (x : Sub σ' σ) : St W σ' s :=
  ⟨fun a ao e => (S.hr a ao (x.1 a ao e)).keep (fle_sub x) rfl fun C d fs n q => by
      subst q
      have h1 := x.2 a C d fs n e
      exact ⟨rfl, h1.trans (x.1 _ _ h1).symm⟩,
   S.old, fun a h => S.above a fun q => (by
    cases z : σ' a with
    | none => exact h z
    | some o => rw [x.1 a o z] at q; cases q), S.sz, S.lim, S.os, S.gens, S.tab.keep (fun a o _ => fle_sub x a o) rfl⟩
theorem sub_res {W : Wd} {σ : Sig} {s : Shared} (S : St W σ s) (n : Addr) : Sub (res n σ) σ := by
  refine ⟨fun a o e => ?_, fun a C d fs m e => ?_⟩
  · unfold res at e; split at e
    · exact e
    · cases e
  · unfold res at e; split at e
    · rename_i h; rw [res_lt (Nat.lt_trans (S.dict_lt e) h)]; exact (S.dict_there e).1
    · cases e
end Mine
end
section
set_option tactic.hygienic false
set_option hygiene false
namespace Mine
structure Top (W : Wd) : Prop where
  last : ∃ o, W.h₁.get? (W.h₁.objs.size - 1) = some o
  kin : W.K.In W.h₁
  kcls : ∀ a o, W.K.lookup a = some o → o.cls ≠ .none
  lim : W.h₁.NoLimit
  glob : ∃ o, W.h₁.get? mainGlobals = some o ∧ o.cls ≠ .none
  globN : W.h₁.Ns mainGlobals W.mg
  blt : ∃ o, W.h₁.get? builtinsNs = some o ∧ o.cls ≠ .none
  bltN : W.h₁.Ns builtinsNs W.mb
theorem St.none_of_base {W : Wd} {σ : Sig} {s : Shared} (S : St W σ s) {a : Addr} {o : Obj} (h : W.h₁.get? a = some o) : σ a = none := by
  cases e : σ a with
  | none => rfl
  | some x => exact absurd (Heap.lt_size h) (Nat.not_lt.mpr (S.above a (by rw [e]; simp)))
theorem St.base {W : Wd} {σ : Sig} {s : Shared} (S : St W σ s) {a : Addr} {o : Obj} (h : W.h₁.get? a = some o) (hc : o.cls ≠ .none) : Fz σ s.heap a o :=
  ⟨S.none_of_base h, S.old.get_of_cls h hc, hc⟩
theorem St.kin {W : Wd} {σ : Sig} {s : Shared} (S : St W σ s) (T : Top W) : W.K.In s.heap := fun a o e => S.old.get_of_cls (T.kin a o e) (T.kcls a o e)
theorem St.globN {W : Wd} {σ : Sig} {s : Shared} (S : St W σ s) (T : Top W) : s.heap.Ns mainGlobals W.mg := by
  obtain ⟨o, h, hc⟩ := T.glob
  exact Ns.of_get T.globN ((S.old.get_of_cls h hc).trans h.symm)
theorem St.bltN {W : Wd} {σ : Sig} {s : Shared} (S : St W σ s) (T : Top W) : s.heap.Ns builtinsNs W.mb := by
  obtain ⟨o, h, hc⟩ := T.blt
  exact Ns.of_get T.bltN ((S.old.get_of_cls h hc).trans h.symm)
noncomputable abbrev E (W : Wd) (k : Nat) (env : Env) (e : Expr) (σ : Sig) (K : PV → Sig → Prop) : Prop := G W k PT VRel (eval e env) σ K
noncomputable abbrev T (W : Wd) (k : Nat) (env : Env) (e : Expr) (σ : Sig) (K : Bool → Sig → Prop) : Prop := G W k PT REq (isTrue e env (eval e env)) σ K
noncomputable abbrev X (W : Wd) (k : Nat) (env : Env) (st : Stmt) (σ : Sig) (K : AFlow → Sig → Prop) : Prop := G W k PT LRel (exec st env) σ K
noncomputable abbrev XS (W : Wd) (k : Nat) (env : Env) (sts : List Stmt) (σ : Sig) (K : AFlow → Sig → Prop) : Prop := G W k PT LRel (execs sts env) σ K
noncomputable abbrev O1 {α β : Type} (W : Wd) (k : Nat) (R : FM → β → α → Prop) (f : Value → Sem α) (a : PV) (σ : Sig) (K : β → Sig → Prop) : Prop := ∀ v, G W k (fun F => VRel F a v) R (f v) σ K
noncomputable abbrev O2 {α β : Type} (W : Wd) (k : Nat) (R : FM → β → α → Prop) (f : Value → Value → Sem α) (a b : PV) (σ : Sig) (K : β → Sig → Prop) : Prop := ∀ va vb, G W k (fun F => VRel F a va ∧ VRel F b vb) R (f va vb) σ K
section
variable {W : Wd} {k : Nat} {env : Env} {σ : Sig} {P : FM → Prop}
theorem G.id {α β : Type} {R : FM → β → α → Prop} {t : Sem α} {K : β → Sig → Prop} {b : β} (hK : K b σ)
    (h : ∀ A, Room A k → ∀ s, St W σ s → P (FrOf σ s) → ∀ Q : α → Shared → Prop, (∀ v s', s'.heap = s.heap → s'.os = s.os → s'.gens = s.gens → R (FrOf σ s) b v → Q v s') → wpAny (model W.prog W.w) A t Q (fun _ _ => False) s) : G W k P R t σ K :=
  fun A hA s hs hP => h A hA s hs hP _ fun v s' e1 e2 e3 r => ⟨b, σ, hs.same e1 e2 e3, by show FLe (Fz σ s.heap) (Fz σ s'.heap); rw [e1]; exact FLe.refl _, by show R (Fz σ s'.heap) b v; rw [e1]; exact r, hK⟩
theorem E_int {i : Int} {n : Nat} {pos : Pos} {K : PV → Sig → Prop} (h : K (.int i) σ) : E W k env (.Constant (.int i) n pos) σ K :=
  .id h fun A hA s hs hP Q q => wpAny_Constant_int (q _ _ rfl rfl rfl ⟨_, rfl⟩)
theorem E_str {x : Str} {n : Nat} {pos : Pos} {K : PV → Sig → Prop} (h : K (.str x.cps.toList) σ) : E W k env (.Constant (.str x) n pos) σ K :=
  .id h fun A hA s hs hP Q q => wpAny_Constant_str (q _ _ rfl rfl rfl ⟨s.toks, by cases x; simp⟩)
theorem E_none {n : Nat} {pos : Pos} {K : PV → Sig → Prop} (h : K .none σ) : E W k env (.Constant .none n pos) σ K :=
  .id h fun A hA s hs hP Q q => wpAny_Constant_none (q _ _ rfl rfl rfl rfl)
theorem E_bool {b : Bool} {n : Nat} {pos : Pos} {K : PV → Sig → Prop} (h : K (.bool b) σ) : E W k env (.Constant (.bool b) n pos) σ K :=
  .id h fun A hA s hs hP Q q => wpAny_Constant_bool (q _ _ rfl rfl rfl rfl)
theorem L_local {x : Str} {m : Str → Option PV} {p : PV} {K : PV → Sig → Prop} (hk : env.scope.kind = .function) (hl : env.kindOf x = some .local) (hσ : σ env.locals = some (.frame m)) (hm : m x = some p)
    (h : K p σ) : G W k P VRel (loadName env x) σ K := .id h fun A hA s hs hP Q q => by
  obtain ⟨mc, hn, r⟩ := hs.hr _ _ hσ
  have := r x
  rw [hm] at this
  obtain ⟨w, e, rw⟩ := this
  exact wpAny_loadName_local hk hl hn e (q _ _ rfl rfl rfl rw)
theorem L_cell {x : Str} {c : Addr} {p : PV} {K : PV → Sig → Prop} (hk : env.scope.kind = .function) (hl : env.kindOf x = some .cell) (hc : env.cells.lookup x = some c) (hσ : σ c = some (.cell (some p)))
    (h : K p σ) : G W k P VRel (loadName env x) σ K := .id h fun A hA s hs hP Q q => by
  obtain ⟨o, v, ho, _, hd, w, e, r⟩ := hs.hr _ _ hσ
  subst e
  exact wpAny_loadName_cell hk hl hc ⟨o, ho, hd⟩ (q _ _ rfl rfl rfl r)
theorem crels_get {F : FM} : ∀ {cs : List (Str × PV)} {cl : List (Str × Addr)} {x : Str} {p : PV}, CRels F cs cl → cs.lookup x = some p → ∃ c o v, cl.lookup x = some c ∧ F c o ∧ o.data = .cell (some v) ∧ VRel F p v
  | (y, p') :: l, _, x, p, h, e => by
    obtain ⟨c, o, v, r, rfl, f, z, d, a, b⟩ := h
    rw [List.lookup_cons] at e ⊢
    cases q : x == y with
    | true => rw [q] at e; cases e; exact ⟨c, o, v, rfl, f, d, a⟩
    | false => rw [q] at e; exact crels_get b e
theorem E_name {x : Str} {pos : Pos} {K : PV → Sig → Prop} (h : G W k P VRel (loadName env x) σ K) (hd : (x == ("__debug__" : Str)) = false := by decide) : G W k P VRel (eval (.Name x pos) env) σ K :=
  fun A hA s hs hP => wpAny_Name (h A hA s hs hP) hd
theorem E_glob (T : Top W) {x : Str} {pos : Pos} {a : Addr} {K : PV → Sig → Prop} (hk : env.scope.kind = .function) (hx : env.kindOf x = some .globalImplicit) (hg : env.globals = mainGlobals) (hv : W.mg x = some (.ref a))
    (h : K (.ref a) σ) (hd : (x == ("__debug__" : Str)) = false := by decide) : G W k P VRel (eval (.Name x pos) env) σ K := .id h fun A hA s hs hP Q q =>
  Calls.Name_function_global hk hx (Calls.loadGlobal_global (by rw [hg]; exact hs.globN T) hv (q _ _ rfl rfl rfl rfl)) hd
theorem E_blt (T : Top W) {x : Str} {pos : Pos} {p : PV} {v : Value} {K : PV → Sig → Prop} (hk : env.scope.kind = .function) (hx : env.kindOf x = some .globalImplicit) (hg : env.globals = mainGlobals) (hb : env.builtins = builtinsNs)
    (hm : W.mg x = none) (hv : W.mb x = some v) (hp : ∀ F, VRel F p v)
    (h : K p σ) (hd : (x == ("__debug__" : Str)) = false := by decide) : G W k P VRel (eval (.Name x pos) env) σ K := .id h fun A hA s hs hP Q q =>
  Calls.Name_function_global hk hx (Calls.loadGlobal_builtin (by rw [hg]; exact hs.globN T) hm (by rw [hb]; exact hs.bltN T) hv (q _ _ rfl rfl rfl (hp _))) hd
theorem vmono : ∀ F F' b v, FLe F F' → VRel F b v → VRel F' b v := fun _ _ _ _ m r => VRel.mono m r
theorem G.and2 {α β γ δ ε ζ : Type} {R : FM → β → α → Prop} {S : FM → δ → γ → Prop} {U : FM → ζ → ε → Prop} {t : Sem α} {u : Sem γ} {f : α → γ → Sem ε} {K : ζ → Sig → Prop}
    (hm : ∀ F F' b v, FLe F F' → R F b v → R F' b v)
    (h : G W k P R t σ fun a σ₁ => G W k P S u σ₁ fun b σ₂ => ∀ va vb, G W k (fun F => R F a va ∧ S F b vb) U (f va vb) σ₂ K) (hPm : ∀ F F', FLe F F' → P F → P F') :
    ∀ A, Room A k → ∀ s, St W σ s → P (FrOf σ s) → wpAny (model W.prog W.w) A t (fun va s₁ => wpAny (model W.prog W.w) A u (fun vb s₂ => wpAny (model W.prog W.w) A (f va vb)
      (fun v s' => ∃ b σ', St W σ' s' ∧ FLe (FrOf σ s) (FrOf σ' s') ∧ U (FrOf σ' s') b v ∧ K b σ') (fun _ _ => False) s₂) (fun _ _ => False) s₁) (fun _ _ => False) s :=
  fun A hA s hs hP => G.use h A hA s hs hP (fun va s₁ a σ₁ a1 a2 a3 a4 => G.use a4 A hA s₁ a1 (hPm _ _ a2 hP) (fun vb s₂ b σ₂ b1 b2 b3 b4 =>
    G.use (b4 va vb) A hA s₂ b1 ⟨hm _ _ _ _ b2 a3, b3⟩ (fun v s' c σ₃ c1 c2 c3 c4 => ⟨c, σ₃, c1, (a2.trans b2).trans c2, c3, c4⟩) fun _ _ x => x) fun _ _ x => x) fun _ _ x => x
theorem E_BinOp {l r : Expr} {op : Operator} {pos : Pos} {K : PV → Sig → Prop} (h : E W k env l σ fun a σ₁ => E W k env r σ₁ fun b σ₂ => O2 W k VRel (binaryOp op) a b σ₂ K) : E W k env (.BinOp l op r pos) σ K :=
  fun A hA s hs hP => wpAny_BinOp (G.and2 (R := VRel) (S := VRel) vmono h (fun _ _ _ x => x) A hA s hs hP)
theorem E_Compare {l r : Expr} {op : CmpOp} {pos : Pos} {K : PV → Sig → Prop} (h : E W k env l σ fun a σ₁ => E W k env r σ₁ fun b σ₂ => O2 W k VRel (compareOp op) a b σ₂ K)
    (hm : behindInMarks op r = false := by with_unfolding_all rfl) : E W k env (.Compare l [op] [r] pos) σ K :=
  fun A hA s hs hP => wpAny_Compare1 (G.and2 (R := VRel) (S := VRel) vmono h (fun _ _ _ x => x) A hA s hs hP) hm
theorem T_Compare {l r : Expr} {op : CmpOp} {pos : Pos} {K : Bool → Sig → Prop} (h : E W k env l σ fun a σ₁ => E W k env r σ₁ fun b σ₂ => O2 W k VRel (compareOp op) a b σ₂ fun c σ₃ => O1 W k REq truthy c σ₃ K)
    (hm : behindInMarks op r = false := by with_unfolding_all rfl) : T W k env (.Compare l [op] [r] pos) σ K :=
  fun A hA s hs hP => wpAny_isTrue_Compare1 (wpAny_mono (G.and2 (R := VRel) (S := VRel) vmono h (fun _ _ _ x => x) A hA s hs hP) (fun va s₁ h₁ => wpAny_mono h₁ (fun vb s₂ h₂ => wpAny_mono h₂ (fun vc s₃ ⟨c, σ₃, c1, c2, c3, c4⟩ =>
    G.use (c4 vc) A hA s₃ c1 c3 (fun v s' d σ₄ d1 d2 d3 d4 => ⟨d, σ₄, d1, c2.trans d2, d3, d4⟩) fun _ _ x => x) fun _ _ x => x) fun _ _ x => x) fun _ _ x => x) hm
theorem truthy_bool {b : Bool} {K : Bool → Sig → Prop} (h : K b σ) : O1 W k REq truthy (.bool b) σ K := fun v => .id h fun A hA s hs hP Q q => by
  obtain rfl : v = .bool b := hP
  exact wpAny_truthy_bool (q _ _ rfl rfl rfl rfl)
theorem T_val {e : Expr} {K : Bool → Sig → Prop} (h : E W k env e σ fun c σ₃ => O1 W k REq truthy c σ₃ K) (hs : ∀ whole, isTrue e env whole = (do let v ← whole; standAt e.pos; holding [v] (truthy v)) := by intro _; rfl) : T W k env e σ K :=
  fun A hA s hs' hP => by
    rw [hs]
    refine wpAny_bind (G.use h A hA s hs' hP (fun vc s₃ c σ₃ c1 c2 c3 c4 => wpAny_bind (wpAny_standAt (wpAny_holding
      (G.use (c4 vc) A hA s₃ c1 c3 (fun v s' d σ₄ d1 d2 d3 d4 => ⟨d, σ₄, d1, c2.trans d2, d3, d4⟩) fun _ _ x => x)))) fun _ _ x => x)
theorem T_not {e : Expr} {pos : Pos} {K : Bool → Sig → Prop} (h : T W k env e σ fun b σ₁ => K (!b) σ₁) : T W k env (.UnaryOp .Not e pos) σ K :=
  fun A hA s hs hP => wpAny_isTrue_Not (G.use h A hA s hs hP (fun v s' d σ₄ d1 d2 d3 d4 => by cases d3; exact ⟨_, σ₄, d1, d2, rfl, d4⟩) fun _ _ x => x)
theorem T_and {x y : Expr} {pos : Pos} {K : Bool → Sig → Prop} (h : T W k env x σ fun b σ₁ => if b then T W k env y σ₁ K else K false σ₁) : T W k env (.BoolOp .And [x, y] pos) σ K :=
  fun A hA s hs hP => wpAny_isTrue_BoolOp (wpAny_allTrue_And_cons (G.use h A hA s hs hP (fun v s' d σ₄ d1 d2 d3 d4 => by
    cases d3
    cases v with
    | false => exact ⟨_, σ₄, d1, d2, rfl, d4⟩
    | true => exact wpAny_allTrue_And_cons (G.use d4 A hA s' d1 trivial (fun v' s'' e σ₅ e1 e2 e3 e4 => by
        cases e3
        cases v' with
        | false => exact ⟨_, σ₅, e1, d2.trans e2, rfl, e4⟩
        | true => exact wpAny_allTrue_And_nil ⟨_, σ₅, e1, d2.trans e2, rfl, e4⟩) fun _ _ x => x)) fun _ _ x => x))
theorem T_or {x y : Expr} {pos : Pos} {K : Bool → Sig → Prop} (h : T W k env x σ fun b σ₁ => if b then K true σ₁ else T W k env y σ₁ K) : T W k env (.BoolOp .Or [x, y] pos) σ K :=
  fun A hA s hs hP => wpAny_isTrue_BoolOp (wpAny_allTrue_Or_cons (G.use h A hA s hs hP (fun v s' d σ₄ d1 d2 d3 d4 => by
    cases d3
    cases v with
    | true => exact ⟨_, σ₄, d1, d2, rfl, d4⟩
    | false => exact wpAny_allTrue_Or_cons (G.use d4 A hA s' d1 trivial (fun v' s'' e σ₅ e1 e2 e3 e4 => by
        cases e3
        cases v' with
        | true => exact ⟨_, σ₅, e1, d2.trans e2, rfl, e4⟩
        | false => exact wpAny_allTrue_Or_nil ⟨_, σ₅, e1, d2.trans e2, rfl, e4⟩) fun _ _ x => x)) fun _ _ x => x))
theorem E_IfExp {t b o : Expr} {pos : Pos} {K : PV → Sig → Prop} (h : T W k env t σ fun c σ₁ => if c then E W k env b σ₁ K else E W k env o σ₁ K) : E W k env (.IfExp t b o pos) σ K :=
  fun A hA s hs hP => wpAny_IfExp (G.use h A hA s hs hP (fun v s' d σ₄ d1 d2 d3 d4 => by
    cases d3
    cases v <;> exact G.use d4 A hA s' d1 trivial (fun v' s'' e σ₅ e1 e2 e3 e4 => ⟨e, σ₅, e1, d2.trans e2, e3, e4⟩) fun _ _ x => x) fun _ _ x => x)
theorem XS_nil {K : AFlow → Sig → Prop} (h : K .next σ) : XS W k env [] σ K := fun A hA s hs hP => wpAny_execs_nil ⟨AFlow.next, σ, hs, FLe.refl _, rfl, h⟩
theorem XS_cons {st : Stmt} {rest : List Stmt} {K : AFlow → Sig → Prop} (h : X W k env st σ fun f σ₁ => match f with | .next => XS W k env rest σ₁ K | f => K f σ₁) : XS W k env (st :: rest) σ K :=
  fun A hA s hs hP => wpAny_execs_cons (G.use h A hA s hs hP (fun f s' d σ₄ d1 d2 d3 d4 => by
    cases d with
    | next => cases d3; exact G.use d4 A hA s' d1 trivial (fun v' s'' e σ₅ e1 e2 e3 e4 => ⟨e, σ₅, e1, d2.trans e2, e3, e4⟩) fun _ _ x => x
    | brk => cases d3; exact ⟨AFlow.brk, σ₄, d1, d2, rfl, d4⟩
    | cont => cases d3; exact ⟨AFlow.cont, σ₄, d1, d2, rfl, d4⟩
    | ret p => obtain ⟨v, rfl, r⟩ := d3; exact ⟨.ret p, σ₄, d1, d2, ⟨v, rfl, r⟩, d4⟩) fun _ _ x => x)
theorem X_If {t : Expr} {b o : List Stmt} {pos : Pos} {K : AFlow → Sig → Prop} (h : T W k env t σ fun c σ₁ => if c then XS W k env b σ₁ K else XS W k env o σ₁ K) : X W k env (.If t b o pos) σ K :=
  fun A hA s hs hP => wpAny_If (G.use h A hA s hs hP (fun v s' d σ₄ d1 d2 d3 d4 => by
    cases d3
    cases v <;> exact G.use d4 A hA s' d1 trivial (fun v' s'' e σ₅ e1 e2 e3 e4 => ⟨e, σ₅, e1, d2.trans e2, e3, e4⟩) fun _ _ x => x) fun _ _ x => x)
theorem X_Return {e : Expr} {pos : Pos} {K : AFlow → Sig → Prop} (h : E W k env e σ fun p σ₁ => K (.ret p) σ₁) : X W k env (.Return (some e) pos) σ K :=
  fun A hA s hs hP => wpAny_Return_some (G.use h A hA s hs hP (fun v s' d σ₄ d1 d2 d3 d4 => ⟨.ret d, σ₄, d1, d2, ⟨v, rfl, d3⟩, d4⟩) fun _ _ x => x)
theorem X_Continue {pos : Pos} {K : AFlow → Sig → Prop} (h : K .cont σ) : X W k env (.Continue pos) σ K := .id h fun A hA s hs hP Q q => wpAny_Continue (q _ _ rfl rfl rfl rfl)
theorem X_Break {pos : Pos} {K : AFlow → Sig → Prop} (h : K .brk σ) : X W k env (.Break pos) σ K := .id h fun A hA s hs hP Q q => wpAny_Break (q _ _ rfl rfl rfl rfl)
theorem S_local (T : Top W) {x : Str} {m : Str → Option PV} {p : PV} {K : Unit → Sig → Prop} (hk : env.scope.kind = .function) (hl : env.kindOf x = some .local) (hσ : σ env.locals = some (.frame m))
    (h : K () (σ.upd env.locals (.frame (fset m x p)))) : O1 W k REq (storeName env x) p σ K := fun v A hA s hs hP => by
  obtain ⟨mc, hn, r⟩ := hs.hr _ _ hσ
  have hne : σ env.locals ≠ none := by rw [hσ]; simp
  refine wpAny_storeName_local hl hn (fun h' hn' hsb => ?_) (by show (env.scope.kind == .class || (env.scope.kind == .module && env.locals != env.globals)) = false; rw [hk]; rfl)
  have F1 : FLe (Fz σ s.heap) (Fz (σ.upd env.locals (.frame (fset m x p))) h') := fle_upd hne hsb
  refine ⟨(), _, hs.update (ao := .frame (fset m x p)) T.lim hσ (fun b q => by cases q) hsb ⟨_, hn', fun y => ?_⟩, F1, rfl, h⟩
  by_cases q : y = x
  · subst q
    rw [fset_same]
    exact ⟨v, if_pos rfl, VRel.mono F1 hP⟩
  · rw [fset_ne q]
    simp only [q, if_false]
    exact OLe.mono F1 (r y)
theorem S_cell (T : Top W) {x : Str} {c : Addr} {p₀ : Option PV} {p : PV} {K : Unit → Sig → Prop} (hk : env.scope.kind = .function) (hl : env.kindOf x = some .cell) (hc : env.cells.lookup x = some c) (hσ : σ c = some (.cell p₀))
    (h : K () (σ.upd c (.cell (some p)))) : O1 W k REq (storeName env x) p σ K := fun v A hA s hs hP => by
  obtain ⟨o, v₀, ho, hcl, hd, r⟩ := hs.hr _ _ hσ
  have hne : σ c ≠ none := by rw [hσ]; simp
  unfold storeName
  simp only [hl, hk]
  refine wpAny_bind (wpAny_cellOf hc ?_)
  unfold cellSet
  refine wpAny_bind (wpAny_load ho ?_)
  rw [hd]
  have hsb := Heap.SameBut.update s.heap c fun o => { o with data := .cell (some v) }
  refine wpAny_update ho ?_
  have F1 : FLe (Fz σ s.heap) (Fz (σ.upd c (.cell (some p))) (s.heap.update c fun o => { o with data := .cell (some v) })) := fle_upd hne hsb
  exact ⟨(), _, hs.update (ao := .cell (some p)) T.lim hσ (fun b q => by cases q) hsb ⟨{ o with data := .cell (some v) }, some v, Heap.get?_update_self _ ho rfl, hcl, rfl, v, rfl, VRel.mono F1 hP⟩, F1, rfl, h⟩
theorem X_Assign {x : Str} {value : Expr} {pos pos' : Pos} {K : AFlow → Sig → Prop} (h : E W k env value σ fun p σ₁ => O1 W k REq (storeName env x) p σ₁ fun _ σ₂ => K .next σ₂)
    (hsw : swapsWith value (some (.Name x pos')) pos.line env = Pure.pure false := by rfl) : X W k env (.Assign [.Name x pos'] value pos) σ K :=
  fun A hA s hs hP => wpAny_Assign_Name (G.use h A hA s hs hP (fun v s' d σ₄ d1 d2 d3 d4 => G.use (d4 v) A hA s' d1 d3 (fun u s'' e σ₅ e1 e2 e3 e4 => ⟨.next, σ₅, e1, d2.trans e2, rfl, e4⟩) fun _ _ x => x) fun _ _ x => x) hsw
theorem X_AugName {x : Str} {op : Operator} {value : Expr} {pos pos' : Pos} {K : AFlow → Sig → Prop}
    (h : G W k PT VRel (loadName env x) σ fun a σ₁ => E W k env value σ₁ fun b σ₂ => O2 W k VRel (inplaceOp op) a b σ₂ fun p σ₃ => O1 W k REq (storeName env x) p σ₃ fun _ σ₄ => K .next σ₄) :
    X W k env (.AugAssign (.Name x pos') op value pos) σ K :=
  fun A hA s hs hP => wpAny_AugAssign_Name (wpAny_mono (G.and2 (R := VRel) (S := VRel) vmono h (fun _ _ _ x => x) A hA s hs hP) (fun va s₁ h₁ => wpAny_mono h₁ (fun vb s₂ h₂ => wpAny_mono h₂ (fun vc s₃ ⟨c, σ₃, c1, c2, c3, c4⟩ =>
    G.use (c4 vc) A hA s₃ c1 c3 (fun v s' d σ₄ d1 d2 d3 d4 => ⟨.next, σ₄, d1, c2.trans d2, rfl, d4⟩) fun _ _ x => x) fun _ _ x => x) fun _ _ x => x) fun _ _ x => x)
theorem X_Expr {e : Expr} {pos : Pos} {K : AFlow → Sig → Prop} (h : E W k env e σ fun p σ₁ => p = .none ∧ K .next σ₁)
    (hi : interactive env = false := by rfl) (hsw : swapsWith e none pos.line env = Pure.pure false := by rfl) : X W k env (.Expr e pos) σ K :=
  fun A hA s hs hP => wpAny_Expr (wpAny_mono (h A hA s hs hP) (fun v s' hpat => by obtain ⟨d, σ₄, d1, d2, d3, d4, d5⟩ := hpat; subst d4; cases d3; exact ⟨.next, σ₄, d1, d2, rfl, d5⟩) fun _ _ x => x) hi hsw
end
end Mine
end
section
set_option tactic.hygienic false
set_option hygiene false
namespace Mine
theorem vint {F : FM} {i : Int} {t : Tok} : VRel F (.int i) (.int i t) := ⟨t, rfl⟩
theorem vint' {F : FM} {i j : Int} {t : Tok} (e : i = j) : VRel F (.int i) (.int j t) := ⟨t, by rw [e]⟩
theorem vstr {F : FM} {x : List Nat} {y : Str} {t : Tok} (e : y = ⟨x.toArray⟩) : VRel F (.str x) (.str y t) := ⟨t, by rw [e]⟩
theorem vbool {F : FM} {b b' : Bool} (e : b' = b) : VRel F (.bool b) (.bool b') := by rw [e]; exact rfl
section
variable {W : Wd} {k : Nat} {σ : Sig} {K : PV → Sig → Prop} {a b : Int} {x y : List Nat}
theorem add_ii (h : K (.int (a + b)) σ) : O2 W k VRel (binaryOp .Add) (.int a) (.int b) σ K := fun va vb => .id h fun A hA s hs hP Q q => by
  obtain ⟨⟨t, rfl⟩, u, rfl⟩ := hP; with_reducible exact add_int (q _ _ rfl rfl rfl vint)
theorem iadd_ii (h : K (.int (a + b)) σ) : O2 W k VRel (inplaceOp .Add) (.int a) (.int b) σ K := fun va vb => .id h fun A hA s hs hP Q q => by
  obtain ⟨⟨t, rfl⟩, u, rfl⟩ := hP; with_reducible exact iadd_int (q _ _ rfl rfl rfl vint)
theorem sub_ii (h : K (.int (a - b)) σ) : O2 W k VRel (binaryOp .Sub) (.int a) (.int b) σ K := fun va vb => .id h fun A hA s hs hP Q q => by
  obtain ⟨⟨t, rfl⟩, u, rfl⟩ := hP; with_reducible exact sub_int (q _ _ rfl rfl rfl vint)
theorem mul_ii (h : K (.int (a * b)) σ) (hm : IntMulOk a b := by mul_fits) : O2 W k VRel (binaryOp .Mult) (.int a) (.int b) σ K := fun va vb => .id h fun A hA s hs hP Q q => by
  obtain ⟨⟨t, rfl⟩, u, rfl⟩ := hP; with_reducible exact mul_int (q _ _ rfl rfl rfl vint) hm
theorem div_ii (hb : 0 < b) (hb2 : b < 1000000000) (h : K (.int (a / b)) σ) : O2 W k VRel (binaryOp .FloorDiv) (.int a) (.int b) σ K := fun va vb => .id h fun A hA s hs hP Q q => by
  obtain ⟨⟨t, rfl⟩, u, rfl⟩ := hP; with_reducible exact floordiv_int (by lia) (q _ _ rfl rfl rfl (vint' (by rw [Int.fdiv_eq_ediv_of_nonneg _ (by lia)]))) (.inl (PyProof.noPylong_small (by lia)))
theorem mod_ii (hb : 0 < b) (h : K (.int (a % b)) σ) : O2 W k VRel (binaryOp .Mod) (.int a) (.int b) σ K := fun va vb => .id h fun A hA s hs hP Q q => by
  obtain ⟨⟨t, rfl⟩, u, rfl⟩ := hP; with_reducible exact mod_int' (by lia) (q _ _ rfl rfl rfl (vint' (by rw [Int.fmod_eq_emod_of_nonneg _ (by lia)])))
theorem shl_ii (hb : 0 ≤ b) (hb2 : b ≤ 1000) (ha : a.natAbs < 2 ^ 64) (h : K (.int (a * 2 ^ b.toNat)) σ) : O2 W k VRel (binaryOp .LShift) (.int a) (.int b) σ K := fun va vb => .id h fun A hA s hs hP Q q => by
  obtain ⟨⟨t, rfl⟩, u, rfl⟩ := hP; with_reducible exact lshift_int_small hb (by lia) ha (q _ _ rfl rfl rfl vint)
theorem shr_ii (hb : 0 ≤ b) (h : K (.int (a / 2 ^ b.toNat)) σ) : O2 W k VRel (binaryOp .RShift) (.int a) (.int b) σ K := fun va vb => .id h fun A hA s hs hP Q q => by
  obtain ⟨⟨t, rfl⟩, u, rfl⟩ := hP
  with_reducible exact rshift_int hb (q _ _ rfl rfl rfl (vint' (by rw [Int.fdiv_eq_ediv_of_nonneg _ (Int.pow_nonneg (by decide))])))
theorem pow_ii (hb : 0 ≤ b) (hs' : (Builtin.Int.intBits a : Int) * b ≤ 2 ^ 27) (h : K (.int (a ^ b.toNat)) σ) : O2 W k VRel (binaryOp .Pow) (.int a) (.int b) σ K := fun va vb => .id h fun A hA s hs hP Q q => by
  obtain ⟨⟨t, rfl⟩, u, rfl⟩ := hP; with_reducible exact pow_int hb hs' (q _ _ rfl rfl rfl vint)
theorem and_ii (h : K (.int (Builtin.bitAnd a b)) σ) : O2 W k VRel (binaryOp .BitAnd) (.int a) (.int b) σ K := fun va vb => .id h fun A hA s hs hP Q q => by
  obtain ⟨⟨t, rfl⟩, u, rfl⟩ := hP; with_reducible exact and_int (q _ _ rfl rfl rfl vint)
theorem ixor_ii (h : K (.int (Builtin.bitXor a b)) σ) : O2 W k VRel (inplaceOp .BitXor) (.int a) (.int b) σ K := fun va vb => .id h fun A hA s hs hP Q q => by
  obtain ⟨⟨t, rfl⟩, u, rfl⟩ := hP; with_reducible exact ixor_int (q _ _ rfl rfl rfl vint)
theorem eq_ii (h : K (.bool (decide (a = b))) σ) : O2 W k VRel (compareOp .Eq) (.int a) (.int b) σ K := fun va vb => .id h fun A hA s hs hP Q q => by
  obtain ⟨⟨t, rfl⟩, u, rfl⟩ := hP; with_reducible exact eq_int (q _ _ rfl rfl rfl (vbool (by rw [Bool.beq_eq_decide_eq])))
theorem lt_ii (h : K (.bool (decide (a < b))) σ) : O2 W k VRel (compareOp .Lt) (.int a) (.int b) σ K := fun va vb => .id h fun A hA s hs hP Q q => by
  obtain ⟨⟨t, rfl⟩, u, rfl⟩ := hP; with_reducible exact lt_int (q _ _ rfl rfl rfl (vbool rfl))
theorem le_ii (h : K (.bool (decide (a ≤ b))) σ) : O2 W k VRel (compareOp .LtE) (.int a) (.int b) σ K := fun va vb => .id h fun A hA s hs hP Q q => by
  obtain ⟨⟨t, rfl⟩, u, rfl⟩ := hP; with_reducible exact le_int (q _ _ rfl rfl rfl (vbool rfl))
theorem gt_ii (h : K (.bool (decide (a > b))) σ) : O2 W k VRel (compareOp .Gt) (.int a) (.int b) σ K := fun va vb => .id h fun A hA s hs hP Q q => by
  obtain ⟨⟨t, rfl⟩, u, rfl⟩ := hP; with_reducible exact gt_int (q _ _ rfl rfl rfl (vbool rfl))
theorem str_app (x y : List Nat) : (⟨x.toArray⟩ ++ ⟨y.toArray⟩ : Str) = ⟨(x ++ y).toArray⟩ := by
  apply Str.ext'
  rw [Str.cps_append]
  simp
theorem str_len (x : List Nat) : (⟨x.toArray⟩ : Str).length = x.length := by show x.toArray.size = _; simp
theorem add_ss (hz : x.length + y.length ≤ 16000000) (h : K (.str (x ++ y)) σ) : O2 W k VRel (binaryOp .Add) (.str x) (.str y) σ K := fun va vb => .id h fun A hA s hs hP Q q => by
  obtain ⟨⟨t, rfl⟩, u, rfl⟩ := hP
  with_reducible exact add_str (fun t' tk => q _ _ rfl rfl rfl (vstr (by rw [str_app]))) (by rw [str_len, str_len, sizeLine_eq]; exact Nat.le_trans (by assumption) (by decide))
theorem iadd_ss (hz : x.length + y.length ≤ 16000000) (h : K (.str (x ++ y)) σ) : O2 W k VRel (inplaceOp .Add) (.str x) (.str y) σ K := fun va vb => .id h fun A hA s hs hP Q q => by
  obtain ⟨⟨t, rfl⟩, u, rfl⟩ := hP
  with_reducible exact iadd_str (fun t' tk => q _ _ rfl rfl rfl (vstr (by rw [str_app]))) (by rw [str_len, str_len, sizeLine_eq]; exact Nat.le_trans (by assumption) (by decide))
theorem eq_ss (h : K (.bool (decide (x = y))) σ) : O2 W k VRel (compareOp .Eq) (.str x) (.str y) σ K := fun va vb => .id h fun A hA s hs hP Q q => by
  obtain ⟨⟨t, rfl⟩, u, rfl⟩ := hP; with_reducible exact eq_str (q _ _ rfl rfl rfl (vbool (by rw [Bool.beq_eq_decide_eq]; simp)))
theorem in_cs {c : Nat} (h : K (.bool (decide (c ∈ x))) σ) : O2 W k VRel (compareOp .In) (.str [c]) (.str x) σ K := fun va vb => .id h fun A hA s hs hP Q q => by
  obtain ⟨⟨t, rfl⟩, u, rfl⟩ := hP
  with_reducible refine in_str (q _ _ rfl rfl rfl ?_)
  show _ = _
  rw [show (⟨[c].toArray⟩ : Str) = ⟨#[c]⟩ from rfl, StrLaws.found_one]
noncomputable def subOf (x y : List Nat) : Bool := !(Builtin.Str.occurrences ⟨x.toArray⟩ ⟨y.toArray⟩ 0 x.length 1).isEmpty
end
end Mine
end
section
namespace Mine
section
variable {M : Model} {A : Around} {E : Value → Shared → Prop} {s : Shared}
theorem evalArgs_wp {f : Value} {args : List (Bool × Sem Value)} {kws : List (Option Str × Sem Value)} {Q : Args → Shared → Prop} (h1 : ∀ x, args ≠ [(true, x)]) (h2 : kws.all (·.1.isSome) = true)
    (h : wpAny M A (spliced args) (fun pos s₁ => wpAny M A (evalAll (kws.map (·.2))) (fun vs s₂ => Q ⟨pos, (kws.filterMap (·.1)).zip vs⟩ s₂) E s₁) E s) : wpAny M A (evalArgs f true args kws) Q E s := by
  unfold evalArgs
  dsimp only
  split
  · rename_i x e; exact absurd rfl (h1 x)
  · refine wpAny_bind (wpAny_mono h (fun pos s₁ h₁ => wpAny_bind (wpAny_pure ?_)) fun _ _ x => x)
    dsimp only
    refine wpAny_holding ?_
    rw [if_pos h2]
    exact wpAny_bind (wpAny_mono h₁ (fun vs s₂ h₂ => wpAny_bind (wpAny_pure (wpAny_pure h₂))) fun _ _ x => x)
theorem callTail {t : Sem Value} {Q : Value → Shared → Prop} (ht : wpAny M A t Q E s) : wpAny M A (t >>= fun r => holding [r] point >>= fun _ => pure r) Q E s :=
  wpAny_bind (wpAny_mono ht (fun r s₂ hr => wpAny_bind (wpAny_holding (wpAny_point (wpAny_pure hr)))) fun _ _ x => x)
theorem callWith_wp {pos : Pos} {f : Value} {first : List Value} {args : List (Bool × Sem Value)} {kws : List (Option Str × Sem Value)} {Q : Value → Shared → Prop} {kp : Keeper} (hkp : kp = .frame ∨ kp = .machine ∨ kp = .boundFrame)
    (h0 : args.any (·.1) = false) (h2 : kws.all (·.1.isSome) = true)
    (h : wpAny M A (spliced args) (fun ps s₁ => wpAny M A (evalAll (kws.map (·.2))) (fun vs s₂ => (∀ Q', Q' kp s₂ → wpAny M A (keeperOf f) Q' E s₂) ∧ wpAny M A (call f (first ++ ps) ((kws.filterMap (·.1)).zip vs)) Q E s₂) E s₁) E s) :
    wpAny M A (callWith pos f first args kws) Q E s := by
  unfold callWith
  have h1 : ∀ x, args ≠ [(true, x)] := fun x e => by rw [e] at h0; simp at h0
  have h3 : kws.any (·.1.isNone) = false := by
    rw [List.any_eq_false]
    intro x hx
    have := List.all_eq_true.mp h2 x hx
    cases q : x.1 <;> simp_all
  refine wpAny_bind (wpAny_holding (evalArgs_wp h1 h2 (wpAny_mono h (fun ps s₁ h₁ => wpAny_mono h₁ (fun vs s₂ ⟨hk, hc⟩ => wpAny_bind (wpAny_standAt ?_)) fun _ _ x => x) fun _ _ x => x)))
  simp only [h0, h3, Bool.or_false]
  refine wpAny_bind (hk _ ?_)
  rcases hkp with rfl | rfl | rfl
  · dsimp only
    split
    · exact callTail hc
    · exact callTail (by unfold callMarked; exact Calls.wpAny_keep hc)
  · exact callTail hc
  · dsimp only
    split
    · exact callTail hc
    · exact callTail (by unfold callMarked; exact Calls.wpAny_keep hc)
end
noncomputable abbrev EL (W : Wd) (k : Nat) (env : Env) (pos : Pos) (es : List Expr) (σ : Sig) (K : List PV → Sig → Prop) : Prop := G W k PT VRels (spliced (backTo pos (starEach es env))) σ K
noncomputable abbrev EK (W : Wd) (k : Nat) (env : Env) (pos : Pos) (ks : List Keyword) (σ : Sig) (K : List PV → Sig → Prop) : Prop := G W k PT VRels (evalAll ((backToKw pos (keywordEach ks env)).map (·.2))) σ K
noncomputable abbrev C (W : Wd) (k : Nat) (f : PV) (args : List PV) (kn : List Str) (kv : List PV) (σ : Sig) (K : PV → Sig → Prop) : Prop :=
  ∀ v vs ws, G W k (fun F => VRel F f v ∧ VRels F args vs ∧ VRels F kv ws) VRel (call v vs (kn.zip ws)) σ K
noncomputable def KP (W : Wd) (kp : Keeper) (f : PV) (σ : Sig) : Prop := ∀ A, A.handled = Option.none → ∀ s, St W σ s → ∀ v, VRel (FrOf σ s) f v → ∀ Q' : Keeper → Shared → Prop, Q' kp s → wpAny (model W.prog W.w) A (keeperOf v) Q' (fun _ _ => False) s
section
variable {W : Wd} {k : Nat} {env : Env} {σ : Sig} {P : FM → Prop}
theorem EL_nil {pos : Pos} {K : List PV → Sig → Prop} (h : K [] σ) : EL W k env pos [] σ K := fun A hA s hs hP => wpAny_items_nil ⟨[], σ, hs, FLe.refl _, rfl, h⟩
theorem EL_cons {pos : Pos} {e : Expr} {rest : List Expr} {K : List PV → Sig → Prop} (h : E W k env e σ fun p σ₁ => EL W k env pos rest σ₁ fun ps σ₂ => K (p :: ps) σ₂)
    (he : starEach (e :: rest) env = (false, eval e env) :: starEach rest env := by rfl) : EL W k env pos (e :: rest) σ K := fun A hA s hs hP =>
  wpAny_items_cons (G.use h A hA s hs hP (fun v s₁ p σ₁ a1 a2 a3 a4 => G.use a4 A hA s₁ a1 trivial (fun vs s₂ ps σ₂ b1 b2 b3 b4 =>
    ⟨p :: ps, σ₂, b1, a2.trans b2, ⟨v, vs, rfl, a3.mono b2, b3⟩, b4⟩) fun _ _ x => x) fun _ _ x => x) he
theorem EK_nil {pos : Pos} {K : List PV → Sig → Prop} (h : K [] σ) : EK W k env pos [] σ K := fun A hA s hs hP => wpAny_pure ⟨[], σ, hs, FLe.refl _, rfl, h⟩
theorem EK_cons {pos : Pos} {n : Option Str} {e : Expr} {p' : Pos} {rest : List Keyword} {K : List PV → Sig → Prop} (h : E W k env e σ fun p σ₁ => EK W k env pos rest σ₁ fun ps σ₂ => K (p :: ps) σ₂) : EK W k env pos (⟨n, e, p'⟩ :: rest) σ K := fun A hA s hs hP => by
  show wpAny _ A (do let v ← (do let v ← eval e env; standAt pos; pure v); return v :: (← holding [v] (evalAll ((backToKw pos (keywordEach rest env)).map (·.2))))) _ _ s
  refine wpAny_bind (wpAny_bind (G.use h A hA s hs hP (fun v s₁ p σ₁ a1 a2 a3 a4 => wpAny_bind (wpAny_standAt (wpAny_pure (wpAny_bind (wpAny_holding (G.use a4 A hA s₁ a1 trivial (fun vs s₂ ps σ₂ b1 b2 b3 b4 => wpAny_pure
    ⟨p :: ps, σ₂, b1, a2.trans b2, ⟨v, vs, rfl, a3.mono b2, b3⟩, b4⟩) fun _ _ x => x)))))) fun _ _ x => x))
theorem G_callWith {pos : Pos} {f : PV} {fst : List PV} {es : List Expr} {ks : List Keyword} {kp : Keeper} {K : PV → Sig → Prop} (hkp : kp = .frame ∨ kp = .machine ∨ kp = .boundFrame)
    (h0 : (backTo pos (starEach es env)).any (·.1) = false) (h2 : (backToKw pos (keywordEach ks env)).all (·.1.isSome) = true)
    (kn : List Str) (hkn : (backToKw pos (keywordEach ks env)).filterMap (·.1) = kn)
    (h : EL W k env pos es σ fun ps σ₁ => EK W k env pos ks σ₁ fun qs σ₂ => KP W kp f σ₂ ∧ C W k f (fst ++ ps) kn qs σ₂ K) :
    ∀ v fv, G W k (fun F => VRel F f v ∧ VRels F fst fv) VRel (callWith pos v fv (backTo pos (starEach es env)) (backToKw pos (keywordEach ks env))) σ K := fun v fv A hA s hs ⟨hv, hf⟩ =>
  callWith_wp hkp h0 h2 (G.use h A hA s hs trivial (fun ps s₁ pp σ₁ a1 a2 a3 a4 => wpAny_mono (a4 A hA s₁ a1 trivial) (fun vs s₂ hpat => by
    obtain ⟨qq, σ₂, b1, b2, b3, b4, b5⟩ := hpat
    refine ⟨fun Q' hq => b4 A hA.1 s₂ b1 v (VRel.mono (a2.trans b2) hv) Q' hq, ?_⟩
    rw [hkn]
    exact G.use (b5 v (fv ++ ps) vs) A hA s₂ b1 ⟨VRel.mono (a2.trans b2) hv, VRels.append (VRels.mono (a2.trans b2) hf) (VRels.mono b2 a3), b3⟩ (fun r s₃ p σ₃ c1 c2 c3 c4 => ⟨p, σ₃, c1, (a2.trans b2).trans c2, c3, c4⟩) fun _ _ x => x) fun _ _ x => x) fun _ _ x => x)
theorem KP_blt {n : String} : KP W .machine (.blt n) σ := fun A hA s hs v hv Q' q => by
  obtain rfl : v = .builtin n := hv
  exact wpAny_pure q
theorem KP_typ {n : String} : KP W .machine (.typ n) σ := fun A hA s hs v hv Q' q => by
  obtain rfl : v = .type n := hv
  exact wpAny_pure q
theorem KP_fn {a : Addr} {o : Obj} {fd : FuncData} (ho : W.h₁.get? a = some o) (hc : o.cls ≠ .none) (hd : o.data = .func fd) : KP W .frame (.ref a) σ := fun A hA s hs v hv Q' q => by
  obtain rfl : v = .ref a := hv
  unfold keeperOf
  refine wpAny_bind (wpAny_load (hs.base ho hc).2.1 ?_)
  rw [hd]; exact wpAny_pure q
theorem E_Call {x : Str} {p' pos : Pos} {es : List Expr} {ks : List Keyword} {kp : Keeper} {K : PV → Sig → Prop} (kn : List Str)
    (h : E W k env (.Name x p') σ fun f σ₀ => EL W k env pos es σ₀ fun ps σ₁ => EK W k env pos ks σ₁ fun qs σ₂ => KP W kp f σ₂ ∧ C W k f ps kn qs σ₂ K)
    (hkp : kp = .frame ∨ kp = .machine ∨ kp = .boundFrame := by first | exact .inl rfl | exact .inr (.inl rfl) | exact .inr (.inr rfl))
    (h0 : (backTo pos (starEach es env)).any (·.1) = false := by rfl) (h2 : (backToKw pos (keywordEach ks env)).all (·.1.isSome) = true := by rfl)
    (hkn : (backToKw pos (keywordEach ks env)).filterMap (·.1) = kn := by rfl) : E W k env (.Call (.Name x p') es ks pos) σ K := fun A hA s hs hP => by
  show wpAny _ A (do callWith pos (← eval (.Name x p') env) [] (backTo pos (starEach es env)) (backToKw pos (keywordEach ks env))) _ _ s
  exact wpAny_bind (G.use h A hA s hs trivial (fun v s₁ f σ₁ a1 a2 a3 a4 => wpAny_mono (G_callWith (fst := []) hkp h0 h2 kn hkn a4 v [] A hA s₁ a1 ⟨a3, rfl⟩)
    (fun r s₃ hpat => by obtain ⟨p, σ₃, c1, c2, c3, c4⟩ := hpat; exact ⟨p, σ₃, c1, a2.trans c2, c3, c4⟩) fun _ _ x => x) fun _ _ x => x)
end
end Mine
end
section
set_option tactic.hygienic false
set_option hygiene false
namespace Mine
noncomputable def BRels (F : FM) : List (Str × PV) → List (Str × Value) → Prop
  | [], l => l = []
  | (x, p) :: r, l => ∃ v l', l = (x, v) :: l' ∧ VRel F p v ∧ BRels F r l'
theorem BRels.mono {F F' : FM} (hF : FLe F F') : ∀ {b : List (Str × PV)} {l : List (Str × Value)}, BRels F b l → BRels F' b l
  | [], _, h => h
  | (_, _) :: _, _, h => by obtain ⟨v, l', e, a, b⟩ := h; exact ⟨v, l', e, a.mono hF, BRels.mono hF b⟩
noncomputable def cellsUpd : Nat → List (Str × NameKind) → Sig → Sig
  | _, [], σ => σ
  | n, (x, kd) :: r, σ => if kd == .cell then cellsUpd (n + 1) r (σ.upd n (.cell none)) else cellsUpd n r σ
theorem St.cells {W : Wd} : ∀ (names : List (Str × NameKind)) {σ : Sig} {s : Shared}, St W σ s → St W (cellsUpd s.heap.objs.size names σ) { s with heap := pushCells s.heap names } ∧ FLe (Fz σ s.heap) (Fz (cellsUpd s.heap.objs.size names σ) (pushCells s.heap names))
  | [], σ, s, S => ⟨S, FLe.refl _⟩
  | (x, kd) :: r, σ, s, S => by
    unfold cellsUpd pushCells
    split
    · have S1 := S.pushUpd { cls := .type "cell", data := .cell none } (.cell none) ⟨_, none, Heap.get?_push_size _ rfl, rfl, rfl, rfl⟩
      have := St.cells r S1
      rw [show ({ s with heap := s.heap.push { cls := .type "cell", data := .cell none } } : Shared).heap.objs.size = s.heap.objs.size + 1 from Heap.size_push ..] at this
      exact ⟨this.1, fle_push_upd.trans this.2⟩
    · exact St.cells r S
noncomputable def SB (W : Wd) (k : Nat) (env : Env) : List (Str × PV) → Sig → (Sig → Prop) → Prop
  | [], σ, K => K σ
  | (x, p) :: r, σ, K => O1 W k REq (storeName env x) p σ fun _ σ' => SB W k env r σ' K
theorem SB.imp {W : Wd} {k : Nat} {env : Env} : ∀ {bp : List (Str × PV)} {σ : Sig} {K K' : Sig → Prop}, SB W k env bp σ K → (∀ σ, K σ → K' σ) → SB W k env bp σ K'
  | [], _, _, _, h, f => f _ h
  | (_, _) :: _, _, _, _, h, f => fun v => (h v).imp fun _ _ z => SB.imp z f
theorem SB_loop {W : Wd} {k : Nat} {env : Env} (f : Str × Value → PUnit → Sem (ForInStep PUnit)) (hf : ∀ n v u, f (n, v) u = (do storeName env n v; pure (.yield ⟨⟩))) : ∀ (bp : List (Str × PV)) {σ : Sig} {K : Sig → Prop}, SB W k env bp σ K →
    ∀ bv, G W k (fun F => BRels F bp bv) REq (forIn bv PUnit.unit f) σ fun _ σ' => K σ'
  | [], σ, K, h, bv => fun A hA s hs hP => by
    obtain rfl : bv = [] := hP
    rw [List.forIn_nil]; exact wpAny_pure ⟨_, σ, hs, FLe.refl _, rfl, h⟩
  | (x, p) :: r, σ, K, h, bv => fun A hA s hs hP => by
    obtain ⟨v, l', rfl, hv, hr⟩ := hP
    rw [List.forIn_cons, hf]
    refine wpAny_bind (wpAny_bind (G.use (h v) A hA s hs hv (fun u s₁ _ σ₁ a1 a2 a3 a4 => wpAny_pure ?_) fun _ _ x => x))
    exact G.use (SB_loop f hf r a4 l') A hA s₁ a1 (BRels.mono a2 hr) (fun u s₂ _ σ₂ b1 b2 b3 b4 => ⟨_, σ₂, b1, a2.trans b2, rfl, b4⟩) fun _ _ x => x
theorem newEnv_G {W : Wd} {k : Nat} {σ : Sig} {scope : Scope} {globals : Addr} {closure : List (Str × Addr)} {bp : List (Str × PV)} {qual : Str} {func : Option Addr} {code : Value} {around : Option Env} {builtins : Addr} {K : Env → Sig → Prop}
    (h : ∀ L, Fresh σ L → SB W k (newEnv scope L globals (cellsFrom (L + 1) scope.names closure) qual func code around builtins) bp (cellsUpd (L + 1) scope.names (σ.upd L (.frame fun _ => none)))
      fun σ' => K (newEnv scope L globals (cellsFrom (L + 1) scope.names closure) qual func code around builtins) σ') :
    ∀ bv, G W k (fun F => BRels F bp bv) REq (newFunctionEnv scope globals closure bv qual func code around builtins) σ K := fun bv A hA s hs hP => by
  unfold newFunctionEnv
  dsimp only
  refine wpAny_bind (wpAny_alloc ?_)
  have S1 := hs.pushUpd { cls := .type (if around.isSome = true then "dict" else "frame"), data := .dict #[] } (.frame fun _ => none) ⟨_, Heap.Ns.new _ _, fun x => trivial⟩
  refine wpAny_bind (wpAny_layCells _ (fun name kind cells => by cases hkc : kind == NameKind.cell <;> simp [hkc]) _ _ _ _ ?_)
  have S2 := S1.cells scope.names
  rw [show ({ s with heap := s.heap.push { cls := .type (if around.isSome = true then "dict" else "frame"), data := .dict #[] } } : Shared).heap.objs.size = s.heap.objs.size + 1 from Heap.size_push ..] at S2 ⊢
  have hL := h s.heap.objs.size hs.fresh
  have F2 := (fle_push_upd (σ := σ) (h := s.heap) (o := { cls := .type (if around.isSome = true then "dict" else "frame"), data := .dict #[] }) (ao := .frame fun _ => none)).trans S2.2
  cases around with
  | none =>
    refine wpAny_bind (G.use (SB_loop _ (fun _ _ _ => rfl) bp hL bv) A hA _ S2.1 (BRels.mono F2 hP) (fun u s₂ _ σ₂ b1 b2 b3 b4 => wpAny_pure ⟨_, σ₂, b1, F2.trans b2, rfl, b4⟩) fun _ _ x => x)
  | some outer =>
    refine wpAny_bind (G.use (SB_loop _ (fun _ _ _ => rfl) bp hL bv) A hA _ S2.1 (BRels.mono F2 hP) (fun u s₂ _ σ₂ b1 b2 b3 b4 => wpAny_pure ⟨_, σ₂, b1, F2.trans b2, rfl, b4⟩) fun _ _ x => x)
noncomputable def retOf : AFlow → PV
  | .ret p => p
  | _ => .none
theorem Room.in1 {A : Around} {k : Nat} (h : Room A (k + 1)) : Room A.in1 k := ⟨h.1, by have := h.2.1; show A.depth + k ≤ 900; lia, by have := h.2.2; show A.units + 1 + 8 * k ≤ 9000; lia⟩
theorem Room.deeper {A : Around} {k : Nat} {env : Env} (h : Room A (k + 1)) : Room (A.deeper env) k := ⟨h.1, by have := h.2.1; show A.depth + 1 + k ≤ 900; lia, by have := h.2.2; show A.units + 3 + 8 * k ≤ 9000; lia⟩
theorem Room.lim {A : Around} {k : Nat} (h : Room A k) : A.depth < recursionLimit := by have := h.2.1; show A.depth < 1000; lia
noncomputable def CodeAt (W : Wd) (cd : Value) (q : Str) : Prop := ∃ c o vs t, cd = .ref c ∧ W.h₁.get? c = some o ∧ o.cls ≠ .none ∧ o.data = .fields vs ∧ vs[1]? = some (.str q t)
theorem CodeAt.rec {W : Wd} {cd : Value} {q : Str} {σ : Sig} {s : Shared} (x : CodeAt W cd q) (S : St W σ s) : s.heap.CodeRec cd q :=
  by obtain ⟨c, o, vs, t, e, h, hc, hd, hv⟩ := x; exact ⟨c, o, vs, t, e, S.old.get_of_cls h hc, hd, hv⟩
noncomputable abbrev envFn (fd : FuncData) (cl : List (Str × Addr)) (L a : Addr) : Env := newEnv fd.scope L fd.globals (cellsFrom (L + 1) fd.scope.names cl) (fd.qualname ++ ".<locals>.") (some a) fd.code none fd.builtins
noncomputable def CPost (W : Wd) (σ : Sig) (s : Shared) (K : PV → Sig → Prop) (r : Result) (s' : Shared) : Prop := match r with
  | .ok (.ret v) => ∃ b σ', St W σ' s' ∧ FLe (FrOf σ s) (FrOf σ' s') ∧ VRel (FrOf σ' s') b v ∧ K b σ'
  | .ok _ => False
  | .error e => False
noncomputable abbrev CC (W : Wd) (k : Nat) (f : PV) (args : List PV) (kn : List Str) (kv : List PV) (σ : Sig) (K : PV → Sig → Prop) : Prop :=
  ∀ v vs ws A, Room A k → ∀ s, St W σ s → VRel (FrOf σ s) f v → VRels (FrOf σ s) args vs → VRels (FrOf σ s) kv ws → codeAny (model W.prog W.w) A (.call v ⟨vs, kn.zip ws⟩) (CPost W σ s K) s
theorem CC.call {W : Wd} {k : Nat} {f : PV} {args : List PV} {kn : List Str} {kv : List PV} {σ : Sig} {K : PV → Sig → Prop} (h : CC W k f args kn kv σ K) : C W k f args kn kv σ K := fun v vs ws A hA s hs ⟨h1, h2, h3⟩ =>
  wpAny_call (codeAny_mono (h v vs ws A hA s hs h1 h2 h3) fun r s' z => by
    unfold CPost at z
    rcases r with e | (v | _ | _ | _) <;> exact z)
theorem body_code {W : Wd} {k : Nat} {σ : Sig} {a : Addr} {o : Obj} {fd : FuncData} {body : List Stmt} {K : PV → Sig → Prop} {P : FM → Prop} (hPm : ∀ F F', FLe F F' → P F → P F')
    (hbody : fd.body = .stmts body) (hco : fd.scope.isCoroutine = false) (hgen : fd.scope.isGenerator = false) {vs : List Value} {kw : List (Str × Value)}
    (hat : ∀ s, St W σ s → P (FrOf σ s) → s.heap.get? a = some o ∧ o.data = .func fd ∧ s.heap.CodeRec fd.code fd.qualname)
    (hb : G W k P BRels (bindArgs fd ⟨vs, kw⟩) σ fun bp σ₁ => ∀ L, Fresh σ₁ L → SB W k (envFn fd fd.closure L a) bp (cellsUpd (L + 1) fd.scope.names (σ₁.upd L (.frame fun _ => none)))
      fun σ₂ => G W k P LRel (execs body (envFn fd fd.closure L a)) σ₂ fun fl σ₃ => ∃ σ₄, (σ₄ = res L σ₃ ∨ ∀ s, St W σ₃ s → Sub σ₄ σ₃) ∧ K (retOf fl) σ₄) :
    ∀ A, Room A (k + 1) → ∀ s, St W σ s → P (FrOf σ s) → codeAny (model W.prog W.w) A (.call (.ref a) ⟨vs, kw⟩) (CPost W σ s K) s := fun A hA s hs hP => by
  obtain ⟨ho, hd, hcd⟩ := hat s hs hP
  refine codeAny_call_function hA.lim ho hd hco hgen hbody hcd ?_
  refine G.use hb A.in1 hA.in1 s hs hP (fun binds s₁ bp σ₁ a1 a2 a3 a4 => ?_) fun _ _ x => x.elim
  refine G.use (newEnv_G (K := fun env σ₂ => G W k P LRel (execs body env) σ₂ fun fl σ₃ => ∃ σ₄, (σ₄ = res env.locals σ₃ ∨ ∀ s, St W σ₃ s → Sub σ₄ σ₃) ∧ K (retOf fl) σ₄) (fun L hL => SB.imp (a4 L hL) fun _ y => y) binds) A.in1 hA.in1 s₁ a1 a3 (fun env s₂ e σ₂ b1 b2 b3 b4 => ?_) fun _ _ x => x.elim
  cases b3
  refine ⟨b1.lim, codeAny_func ?_⟩
  refine wpAny_mono (b4 (A.deeper _) hA.deeper s₂ b1 (hPm _ _ (a2.trans b2) hP)) (fun f s₃ hpat => ?_) fun _ _ x => x.elim
  obtain ⟨fl, σ₃, c1, c2, c3, σ₄, c4', c5⟩ := hpat
  have c4 : Sub σ₄ σ₃ := c4'.elim (fun z => z ▸ sub_res c1 _) (fun z => z _ c1)
  refine ⟨_, σ₄, c1.sub c4, ((a2.trans b2).trans c2).trans (fle_sub c4), ?_, c5⟩
  cases fl with
  | ret p => obtain ⟨v, rfl, r⟩ := c3; exact VRel.mono (fle_sub c4) r
  | next => cases c3; exact (Eq.refl _ : Value.none = Value.none)
  | brk => cases c3; exact (Eq.refl _ : Value.none = Value.none)
  | cont => cases c3; exact (Eq.refl _ : Value.none = Value.none)
structure FnAt (W : Wd) (a : Addr) (fd : FuncData) (body : List Stmt) : Prop where
  at_ : ∃ o, W.h₁.get? a = some o ∧ o.cls ≠ .none ∧ o.data = .func fd
  body : fd.body = .stmts body
  code : CodeAt W fd.code fd.qualname
  co : fd.scope.isCoroutine = false
  gen : fd.scope.isGenerator = false
  clo : fd.closure = []
theorem FnAt.kp {W : Wd} {a : Addr} {fd : FuncData} {body : List Stmt} (f : FnAt W a fd body) {σ : Sig} : KP W .frame (.ref a) σ := by obtain ⟨_, h, c, d⟩ := f.at_; exact KP_fn h c d
theorem CC_fn {W : Wd} {k : Nat} {σ : Sig} {a : Addr} {fd : FuncData} {body : List Stmt} {K : PV → Sig → Prop} (f : FnAt W a fd body) {args kv : List PV} {kn : List Str}
    (hb : ∀ vs ws, G W k (fun F => VRels F args vs ∧ VRels F kv ws) BRels (bindArgs fd ⟨vs, kn.zip ws⟩) σ fun bp σ₁ => ∀ L, Fresh σ₁ L → SB W k (envFn fd [] L a) bp (cellsUpd (L + 1) fd.scope.names (σ₁.upd L (.frame fun _ => none)))
      fun σ₂ => XS W k (envFn fd [] L a) body σ₂ fun fl σ₃ => ∃ σ₄, (σ₄ = res L σ₃ ∨ ∀ s, St W σ₃ s → Sub σ₄ σ₃) ∧ K (retOf fl) σ₄) : CC W (k + 1) (.ref a) args kn kv σ K := fun v vs ws A hA s hs hv h1 h2 => by
  obtain rfl : v = .ref a := hv
  obtain ⟨o, ho, hc, hd⟩ := f.at_
  have := f.clo
  exact body_code (P := fun F => VRels F args vs ∧ VRels F kv ws) (fun _ _ m x => ⟨VRels.mono m x.1, VRels.mono m x.2⟩) f.body f.co f.gen (fun s S _ => ⟨S.old.get_of_cls ho hc, hd, f.code.rec S⟩)
    (by rw [this]; exact (hb vs ws).imp fun bp σ₁ x L hL => (x L hL).imp fun _ y => y.pre fun _ _ => trivial) A hA s hs ⟨h1, h2⟩
end Mine
end
section
set_option tactic.hygienic false
set_option hygiene false
namespace Mine
theorem strKeys_noRef {es : Array DictEntry} (hk : StrKeys es) : es.any (·.refKey) = false := by
  rw [Array.any_eq_false']; intro e he; obtain ⟨n, t, h⟩ := hk e he; simp [DictEntry.refKey, h]
noncomputable abbrev dObj (es : Array DictEntry) (ep : Nat) : Obj := ⟨.type "dict", Option.none, .dict es ep, #[]⟩
theorem look_of {es : Array DictEntry} {ep : Nat} (hk : StrKeys es) (name : Str) : lookIn name (dObj es ep) = some (nsFind es name) := by
  have hr := strKeys_noRef hk
  rw [← Array.any_toList] at hr
  unfold lookIn nsFind findBy
  dsimp only
  rw [← Array.find?_toList, hr]
  cases q : es.toList.find? (fun e => e.key.isStr name) <;> rfl
theorem instAt_of {h : Heap} {a C d : Addr} {o : Obj} (ha : h.get? a = some (instObj C d)) (hd : h.get? d = some o) : InstAt h a (instObj C d) C (some o) := ⟨ha, rfl, rfl, hd⟩
section
variable {W : Wd} {k : Nat} {env : Env} {σ : Sig} {P : FM → Prop}
theorem find_val {K : Frag} {C : Addr} {es : Array DictEntry} {ep : Nat} {name : Str} {v : Value} {cd : ClassData} (hc : clsIn K C = some cd) (hh : cd.hasDict = true) (hf : findIn K (.ref C) name = some none) (hk : StrKeys es) (hv : nsFind es name = some v) :
    findObj K C (some (dObj es ep)) name = some (.value v) := by
  unfold findObj
  rw [hc, hf]
  simp only [Option.bind_some, PySem.W.ownOf, hh, if_true, look_of hk, hv]
structure ClsIs (W : Wd) (C : Addr) : Prop where
  cd : ∃ cd, clsIn W.K C = some cd ∧ cd.hasDict = true
  ga : findIn W.K (.ref C) "__getattribute__" = some (some (.builtin "object.__getattribute__"))
  gt : findIn W.K (.ref C) "__getattr__" = some none
  sa : findIn W.K (.ref C) "__setattr__" = some (some (.builtin "object.__setattr__"))
  po : plainOver W.K C = true
  mks : makesIn W.K C = true
noncomputable abbrev OA (W : Wd) (k : Nat) (name : Str) (q : PV) (σ : Sig) (K : PV → Sig → Prop) : Prop := O1 W k VRel (fun v => getAttr v name true) q σ K
theorem handed_ok {F : FM} {p : PV} {v : Value} (hp : ∀ n, p ≠ .blt n) (h : VRel F p v) : handedIn v = true := by
  cases p with
  | blt n => exact absurd rfl (hp n)
  | none => obtain rfl : v = .none := h; rfl
  | bool b => obtain rfl : v = .bool b := h; rfl
  | int i => obtain ⟨t, rfl⟩ := h; rfl
  | str x => obtain ⟨t, rfl⟩ := h; rfl
  | ref a => obtain rfl : v = .ref a := h; rfl
  | typ n => obtain rfl : v = .type n := h; rfl
  | tup l => obtain ⟨a, vs, n, rfl, _⟩ := h; rfl
  | lst l => obtain ⟨a, vs, n, rfl, _⟩ := h; rfl
  | fin C fs => obtain ⟨a, d, es, n, rfl, _⟩ := h; rfl
  | clo n q ps b sc cs => obtain ⟨a, o, c, oc, vs, t, ct, doc, pm, cl, rfl, _⟩ := h; rfl
  | rng a b => obtain ⟨r, t, u, w, rfl, _⟩ := h; rfl
  | bm f a => obtain ⟨r, rfl, _⟩ := h; rfl
  | dct hs l => obtain ⟨a, es, n, rfl, _⟩ := h; rfl
  | dit hs l => obtain ⟨r, a, es, n, rfl, _⟩ := h; rfl
theorem OA_inst (T : Top W) {a C d : Addr} {fs : Str → Option PV} {n : Nat} {name : Str} {p : PV} {K : PV → Sig → Prop} (X : ClsIs W C) (hf : findIn W.K (.ref C) name = some none) (hσ : σ a = some (.inst C d fs n)) (hp : fs name = some p) (hb : ∀ n, p ≠ .blt n)
    (h : K p σ) : OA W k name (.ref a) σ K := fun v => .id h fun A hA s hs hP Q q => by
  obtain rfl : v = .ref a := hP
  obtain ⟨ha, _, _, es, ep, hd, hk, hz, r⟩ := hs.hr _ _ hσ
  have := r name
  rw [hp] at this
  obtain ⟨w, e, rw⟩ := this
  obtain ⟨cd, hc, hh⟩ := X.cd
  exact get_value (hs.kin T) (instAt_of ha hd) X.ga (find_val hc hh hf hk e) (handed_ok hb rw) (q _ _ rfl rfl rfl rw)
theorem frels_get {F : FM} : ∀ {fs : List (Str × PV)} {m : Str → Option Value} {x : Str} {p : PV}, FRels F fs m → fs.lookup x = some p → ∃ v, m x = some v ∧ VRel F p v
  | (y, p') :: l, m, x, p, ⟨⟨v, e, r⟩, b⟩, h => by
    rw [List.lookup_cons] at h
    cases q : x == y with
    | true => rw [q] at h; cases h; exact ⟨v, by rw [eq_of_beq q]; exact e, r⟩
    | false => rw [q] at h; exact frels_get b h
theorem E_Attr {x : Str} {p' pos : Pos} {name : Str} {K : PV → Sig → Prop} (h : E W k env (.Name x p') σ fun q σ₁ => OA W k name q σ₁ K) : E W k env (.Attribute (.Name x p') name pos) σ K := fun A hA s hs hP => by
  rw [arm_eval_Attribute]
  refine wpAny_bind (G.use h A hA s hs trivial (fun v s₁ q σ₁ a1 a2 a3 a4 => wpAny_bind (wpAny_standAt (wpAny_bind (wpAny_holding (G.use (a4 v) A hA s₁ a1 a3 (fun r s₂ p σ₂ b1 b2 b3 b4 =>
    wpAny_bind (wpAny_pure (wpAny_pure ⟨p, σ₂, b1, a2.trans b2, b3, b4⟩))) fun _ _ x => x))))) fun _ _ x => x)
noncomputable def MRel (F : FM) (m : PV × List PV) (v : Value × List Value) : Prop := VRel F m.1 v.1 ∧ VRels F m.2 v.2
noncomputable abbrev GM (W : Wd) (k : Nat) (name : Str) (q : PV) (σ : Sig) (K : PV × List PV → Sig → Prop) : Prop := ∀ v pl, G W k (fun F => VRel F q v) MRel (getMethod v name pl) σ K
theorem E_Meth {o : Expr} {name : Str} {apos pos : Pos} {es : List Expr} {ks : List Keyword} {kp : Keeper} {K : PV → Sig → Prop} (kn : List Str)
    (h : E W k env o σ fun q σ₁ => GM W k name q σ₁ fun m σ₂ => EL W k env pos es σ₂ fun ps σ₃ => EK W k env pos ks σ₃ fun qs σ₄ => KP W kp m.1 σ₄ ∧ C W k m.1 (m.2 ++ ps) kn qs σ₄ K)
    (hkp : kp = .frame ∨ kp = .machine ∨ kp = .boundFrame := by first | exact .inl rfl | exact .inr (.inl rfl) | exact .inr (.inr rfl))
    (hb : ∀ whole, attributeBase o name env whole = whole := by intro _; rfl)
    (hf : methodCallForm (es.length + ks.length) (backTo pos (starEach es env)) (backToKw pos (keywordEach ks env)) = true := by rfl) (hl : (apos.endLine == pos.line) = true := by rfl)
    (h0 : (backTo pos (starEach es env)).any (·.1) = false := by rfl) (h2 : (backToKw pos (keywordEach ks env)).all (·.1.isSome) = true := by rfl)
    (hkn : (backToKw pos (keywordEach ks env)).filterMap (·.1) = kn := by rfl) : E W k env (.Call (.Attribute o name apos) es ks pos) σ K := fun A hA s hs hP => by
  show wpAny _ A (do
    let ov ← attributeBase o name env (eval o env)
    standAt apos.atName
    methodCall o name apos pos env ov (es.length + ks.length) (backTo pos (starEach es env)) (backToKw pos (keywordEach ks env))) _ _ s
  rw [hb]
  refine wpAny_bind (G.use h A hA s hs trivial (fun v s₁ q σ₁ a1 a2 a3 a4 => wpAny_bind (wpAny_standAt ?_)) fun _ _ x => x)
  unfold methodCall
  rw [hf]
  refine wpAny_bind (wpAny_holding (G.use (a4 v _) A hA s₁ a1 a3 (fun m s₂ mp σ₂ b1 b2 b3 b4 => ?_) fun _ _ x => x))
  obtain ⟨fv, first⟩ := m
  unfold methodCallPos
  rw [hl]
  refine wpAny_bind (wpAny_pure ?_)
  exact G.use (G_callWith (fst := mp.2) (f := mp.1) hkp h0 h2 kn hkn b4 fv first) A hA s₂ b1 ⟨b3.1, b3.2⟩ (fun r s₃ p σ₃ c1 c2 c3 c4 => ⟨p, σ₃, c1, (a2.trans b2).trans c2, c3, c4⟩) fun _ _ x => x
theorem GM_inst (T : Top W) {a C d f : Addr} {fs : Str → Option PV} {n : Nat} {name : Str} {K : PV × List PV → Sig → Prop} (X : ClsIs W C) (hf : findIn W.K (.ref C) name = some (some (.ref f))) (ht : typeIn W.K (.ref f) = some (.type "function")) (hσ : σ a = some (.inst C d fs n)) (hn : fs name = none)
    (h : K (.ref f, [.ref a]) σ) : GM W k name (.ref a) σ K := fun v pl => .id h fun A hA s hs hP Q q => by
  obtain rfl : v = .ref a := hP
  obtain ⟨ha, _, _, es, ep, hd, hk, hz, r⟩ := hs.hr _ _ hσ
  have hnn := r name
  rw [hn] at hnn
  have hnn : nsFind es name = none := hnn
  exact method_fn (hs.kin T) (instAt_of ha hd) X.ga X.gt hf ht (by unfold shadowIn; dsimp only; rw [look_of hk, hnn]; rfl) (q _ _ rfl rfl rfl ⟨(Eq.refl _ : Value.ref f = Value.ref f), VRels.one (Eq.refl _ : Value.ref a = Value.ref a)⟩)
theorem nsSet_exact {M : Model} {A : Around} {E : Value → Shared → Prop} {s : Shared} {d : Addr} {es : Array DictEntry} {ep : Nat} {name : Str} {v : Value} {Q : Unit → Shared → Prop} (hD : s.heap.get? d = some (dObj es ep)) (hk : StrKeys es)
    (h : ∀ es' ep' f, f (dObj es ep) = dObj es' ep' → StrKeys es' → es'.size ≤ es.size + 1 → (nsFind es name ≠ none → es'.size ≤ es.size) → (∀ y, nsFind es' y = if y = name then some v else nsFind es y) → Q () { s with heap := s.heap.update d f, toks := s.toks + 1 }) :
    wpAny M A (nsSet d name v) Q E s := by
  unfold nsSet strHash
  refine wpAny_bind (wpAny_bind (wpAny_askSetting (wpAny_pure (wpAny_bind (wpAny_mkText (wpAny_bind (wpAny_loadPart hD ?_)))))))
  have hany := strKeys_noRef hk
  simp only [aRefKeyMayBeTheName_eq, aRefKeyMayBeTheNameByArray, hany, Bool.and_false, Bool.false_eq_true, if_false]
  refine wpAny_updatePart hD ?_
  cases hi : es.findIdx? (·.key.isStr name) with
  | some i =>
    have hfm : ∀ y, nsFind (es.modify i fun e => { e with val := v }) y = if y = name then some v else nsFind es y := fun y => findBy_modify (fun n v => v.isStr n) Value.isStr_inj es name y v i hi
    exact h _ ep _ (by simp only [Obj.putName_eq, Obj.putNameByArray, hi] <;> rfl) (hk.modify _ _) (by rw [Array.size_modify]; exact Nat.le_succ _) (fun _ => by rw [Array.size_modify]; exact Nat.le_refl _) hfm
  | none =>
    have hfp : ∀ hash t y, nsFind (es.push ⟨hash, .str name t, v⟩) y = if y = name then some v else nsFind es y := fun hash t y => findBy_push (fun n v => v.isStr n) es name y _ _ v (fun y => by
      show (name == y) = decide (y = name)
      by_cases h : y = name
      · subst h; simp
      · have : ¬ name = y := fun e => h e.symm
        simp [h, this]) hi
    have hno : nsFind es name = none := by unfold nsFind; rw [findBy_of_findIdx?, hi]
    exact h _ (ep + 1) _ (by simp only [Obj.putName_eq, Obj.putNameByArray, hi] <;> rfl) (hk.push _ _ _ _) (by rw [Array.size_push]; exact Nat.le_refl _) (fun q => absurd hno q) (hfp _ _)
noncomputable abbrev SA (W : Wd) (k : Nat) (name : Str) (q p : PV) (σ : Sig) (K : Unit → Sig → Prop) : Prop := O2 W k REq (fun v u => setAttr v name u) q p σ K
theorem SA_inst (T : Top W) {a C d : Addr} {fs : Str → Option PV} {n : Nat} {name : Str} {p : PV} {K : Unit → Sig → Prop} (X : ClsIs W C) (hf : findIn W.K (.ref C) name = some none) (hσ : σ a = some (.inst C d fs n)) (hn : n ≤ 1000) (n' : Nat)
    (hn' : n' = n + 1 ∨ (fs name ≠ none ∧ n' = n))
    (h : K () (σ.upd a (.inst C d (fset fs name p) n'))) : SA W k name (.ref a) p σ K := fun v u A hA s hs hpat => by
  obtain ⟨hP, hu⟩ := hpat
  obtain rfl : v = .ref a := hP
  obtain ⟨ha, _, _, es, ep, hd, hk, hz, r⟩ := hs.hr _ _ hσ
  obtain ⟨cd, hc, hh⟩ := X.cd
  have I := instAt_of ha hd
  refine set_plain (hs.kin T) I X.sa ?_
  have hs1 : St W σ { s with toks := s.toks + 1 } := hs.same rfl rfl rfl
  refine osa_open (s := { s with toks := s.toks + 1 }) (r := none) (hs.kin T) I X.po (by unfold takerIn; rw [hf]; rfl) fun b => ?_
  refine wpAny_bind (wpAny_pure (wpAny_bind (wpAny_bind (wpAny_loadPart ha (wpAny_bind ((looks_clsIn (hs1.kin T) hc).here ?_))))))
  rw [hh]
  refine wpAny_pure (a := some d) (wpAny_bind (wpAny_pure (wpAny_bind ?_)))
  refine nsSet_exact hd hk fun es' ep' f e1 e2 e3 e4 e5 => ?_
  have hsb := Heap.SameBut.update s.heap d f
  have hg : (s.heap.update d f).get? d = some (dObj es' ep') := by rw [← e1]; exact Heap.get?_update_self _ hd (by rw [e1]; rfl)
  have hsz : es'.size ≤ n' := by
    rcases hn' with q | ⟨q1, q2⟩
    · lia
    · have : nsFind es name ≠ none := fun z => by
        have y := r name
        cases w : fs name with
        | none => exact q1 w
        | some p' => rw [w] at y; obtain ⟨_, y1, _⟩ := y; rw [z] at y1; cases y1
      have := e4 this
      lia
  have F1 := fle_updInst (fs' := fset fs name p) (n' := n') hs hσ hsb
  have S1 := hs.updateInst (fs' := fset fs name p) (tk := s.toks + 1 + 1) T.lim hσ hsb hg e2 hsz (fun y => by
    by_cases q : y = name
    · subst q; rw [fset_same, e5, if_pos rfl]; exact ⟨u, rfl, VRel.mono F1 hu⟩
    · rw [fset_ne q, e5, if_neg q]; exact ORl.mono F1 (r y))
  refine wpAny_bind (wpAny_lookBehind (o := dObj es' ep') hg (pastItsLine_dict (by rw [sizeLine_eq]; have := hsz; rcases hn' with q | ⟨_, q⟩ <;> lia)) ?_)
  exact wpAny_pure ⟨(), _, S1, F1, rfl, h⟩
end
end Mine
end
section
set_option tactic.hygienic false
set_option hygiene false
namespace Mine
noncomputable def FLi (F F' : FM) : Prop := ∀ a o, iterCls o.cls = false → F a o → F' a o
theorem FLe.i {F F' : FM} (h : FLe F F') : FLi F F' := fun a o _ => h a o
theorem OR.keepI {σ : Sig} {h h' : Heap} {a : Addr} {ao : AObj} (x : OR σ h a ao) (hF : FLi (Fz σ h) (Fz σ h')) (ha : h'.get? a = h.get? a)
    (hd : ∀ C d fs n, ao = .inst C d fs n → h'.get? d = h.get? d) : OR σ h' a ao := by
  have ml : ∀ {p : Option PV} {v : Option Value}, ORl (Fz σ h) p v → ORl (Fz σ h') p v := fun {p v} q => by
    cases p with
    | none => exact q
    | some p => obtain ⟨w, e, r⟩ := q; exact ⟨w, e, r.mono2 hF⟩
  cases ao with
  | list l => obtain ⟨vs, n, e, r⟩ := x; exact ⟨vs, n, ha.trans e, r.mono2 hF⟩
  | inst C d fs n => obtain ⟨e, lt, p, es, ep, ho, hk, hz, r⟩ := x; exact ⟨ha.trans e, lt, p, es, ep, (hd C d fs n rfl).trans ho, hk, hz, fun y => ml (r y)⟩
  | part _ => obtain ⟨o, e⟩ := x; exact ⟨o, ha.trans e⟩
  | frame m =>
    obtain ⟨mc, hn, r⟩ := x
    refine ⟨mc, Ns.of_get hn ha, fun y => ?_⟩
    have := r y
    revert this
    cases m y with
    | none => exact fun _ => trivial
    | some p => exact fun ⟨w, e, q⟩ => ⟨w, e, q.mono2 hF⟩
  | cell p => obtain ⟨o, v, ho, hc, hd, r⟩ := x; exact ⟨o, v, ha.trans ho, hc, hd, ml r⟩
  | citer _ _ => obtain ⟨v, t, e, r⟩ := x; exact ⟨v, t, ha.trans e, r.mono2 hF⟩
  | own => obtain ⟨o, e⟩ := x; exact ⟨o, ha.trans e⟩
theorem St.iter {W : Wd} {σ : Sig} {s : Shared} (S : St W σ s) (T : Top W) {I : Addr} (hI : σ I = none) (hb : W.h₁.objs.size ≤ I) {o : Obj} (ho : s.heap.get? I = some o) (hc : iterCls o.cls = true) {h' : Heap} (hx : Heap.ExtBut I s.heap h') {tk : Nat} :
    St W σ { s with heap := h', toks := tk } ∧ FLi (Fz σ s.heap) (Fz σ h') := by
  have F1 : FLi (Fz σ s.heap) (Fz σ h') := fun a oo q hpat => by
    obtain ⟨e1, e2, e3⟩ := hpat
    have : a ≠ I := fun z => by rw [z, ho] at e2; cases e2; rw [hc] at q; cases q
    exact ⟨e1, hx a oo this e2, e3⟩
  have old : ∀ b o, W.h₁.get? b = some o → b ≠ I := fun b o e => Nat.ne_of_lt (Nat.lt_of_lt_of_le (Heap.lt_size e) hb)
  have keep : ∀ a o, a ≠ I → s.heap.get? a = some o → h'.get? a = s.heap.get? a := fun a o q e => by rw [e]; exact hx a o q e
  refine ⟨⟨fun a ao e => ?_, ?_, S.above, ?_, ?_, S.os, S.gens, S.tab.keep F1 (keep _ S.tab.there.choose (fun q => Nat.lt_irrefl _ (Nat.lt_of_lt_of_le W.tlt (q ▸ hb))) S.tab.there.choose_spec)⟩, F1⟩
  · have ha : a ≠ I := fun z => by rw [z, hI] at e; cases e
    obtain ⟨o', ho'⟩ := (S.hr a ao e).there
    refine (S.hr a ao e).keepI F1 (keep a o' ha ho') fun C d fs n z => ?_
    obtain ⟨z1, o'', z2⟩ := S.dict_there (z ▸ e)
    exact keep d o'' (fun w => by rw [w, hI] at z1; cases z1) z2
  · refine ⟨fun b o e => ?_, fun b o e => let ⟨o', ho'⟩ := S.old.there b o e; ⟨o', hx b o' (old b o e) ho'⟩⟩
    rcases S.old.old b o e with x | ⟨t, hc, vs, more, hv, x⟩ | ⟨rfl, hc, ⟨o', es, n, ho', r⟩, z⟩
    · exact .inl (hx b o (old b o e) x)
    · exact .inr (.inl ⟨t, hc, vs, more, hv, hx b _ (old b o e) x⟩)
    · exact .inr (.inr ⟨rfl, hc, ⟨o', es, n, hx _ _ (old _ o e) ho', r⟩, fun key => by rw [OldK.staticOf_congr ((hx _ _ (old _ o e) ho').trans ho'.symm) key]; exact z key⟩)
  · obtain ⟨o', ho'⟩ := T.last
    obtain ⟨o'', ho''⟩ := S.old.there _ _ ho'
    have h1 : (W.h₁.objs.size - 1 : Nat) < h'.objs.size := Heap.lt_size (hx _ _ (old _ _ ho') ho'')
    have h2 : (W.h₁.objs.size - 1 : Nat) < W.h₁.objs.size := Heap.lt_size ho'
    show W.h₁.objs.size ≤ h'.objs.size
    lia
  · obtain ⟨mc, hn, r⟩ := S.lim
    obtain ⟨mc', hn', _⟩ := T.lim
    obtain ⟨oc, es, ep, hoc, rest⟩ := id hn'
    exact ⟨mc, hn.extBut hx (old _ _ hoc), r⟩
structure Iter (W : Wd) (I : Addr) (items : List PV) (SrcS : Sig → Prop) (SrcF : FM → Prop) (At : Nat → Heap → Prop) : Prop where
  kind : ∀ {i h}, At i h → ∃ o, h.get? I = some o ∧ iterCls o.cls = true
  keep : ∀ {i h h'}, At i h → h'.get? I = h.get? I → At i h'
  mono : ∀ {F F'}, FLi F F' → SrcF F → SrcF F'
  item : ∀ {i p}, items[i]? = some p → ∀ A, A.handled = Option.none → ∀ σ s, St W σ s → SrcS σ → SrcF (FrOf σ s) → At i s.heap → ∀ (Q : Option Value → Shared → Prop) E,
    (∀ v h' tk, At (i + 1) h' → Heap.ExtBut I s.heap h' → VRel (Fz σ h') p v → Q (some v) { s with heap := h', toks := tk }) → wpAny (model W.prog W.w) A (pyNext (.ref I)) Q E s
  done : ∀ A, A.handled = Option.none → ∀ σ s, St W σ s → SrcS σ → SrcF (FrOf σ s) → At items.length s.heap → ∀ (Q : Option Value → Shared → Prop) E,
    (∀ h' tk, Heap.ExtBut I s.heap h' → Q Option.none { s with heap := h', toks := tk }) → wpAny (model W.prog W.w) A (pyNext (.ref I)) Q E s
  self : ∀ {i} A s, At i s.heap → ∀ (Q : Value → Shared → Prop) E, Q (.ref I) s → wpAny (model W.prog W.w) A (pyIter (.ref I)) Q E s
  own : ∀ {i} t A s v, At i s.heap → ∀ (Q : Unit → Shared → Prop) E, Q () s → wpAny (model W.prog W.w) A (letOwnedTupleGo t (.ref I) v) Q E s
noncomputable def Itbl (W : Wd) (q : PV) (items : List PV) (SrcS : Sig → Prop) : Prop :=
  ∀ A, A.handled = Option.none → ∀ σ s, St W σ s → SrcS σ → ∀ v, VRel (FrOf σ s) q v → ∀ (Q : Value → Shared → Prop) E,
    (∀ o SrcF At, iterCls o.cls = true → Iter W s.heap.objs.size items SrcS SrcF At → At 0 (s.heap.push o) → SrcF (FrOf σ s) → Q (.ref s.heap.objs.size) { s with heap := s.heap.push o }) → wpAny (model W.prog W.w) A (pyIter v) Q E s
section
variable {W : Wd} {k : Nat} {env : Env} {σ : Sig}
theorem loop_G (T : Top W) {target : Expr} {body orelse : List Stmt} {items : List PV} {SrcS : Sig → Prop} (J : Nat → Sig → Prop) {K : AFlow → Sig → Prop}
    (src : ∀ i σ, J i σ → SrcS σ)
    (turn : ∀ i p σ, items[i]? = some p → J i σ → O1 W k REq (fun v => assign target env v) p σ fun _ σ' => XS W k env body σ' fun fl σ'' => match fl with | .next | .cont => J (i + 1) σ'' | .brk => K .next σ'' | .ret r => K (.ret r) σ'')
    (fin : ∀ σ, J items.length σ → XS W k env orelse σ K)
    {I : Addr} {SrcF : FM → Prop} {At : Nat → Heap → Prop} (It : Iter W I items SrcS SrcF At) (hIb : W.h₁.objs.size ≤ I) {F₀ : FM} (hF₀ : ∀ o, ¬ F₀ I o) :
    ∀ A, Room A k → ∀ n s, (∃ i σ, n = items.length - i ∧ i ≤ items.length ∧ St W σ s ∧ At i s.heap ∧ σ I = Option.none ∧ FLe F₀ (FrOf σ s) ∧ SrcF (FrOf σ s) ∧ J i σ) →
      codeAny (model W.prog W.w) A (.forLoop target (.ref I) body orelse env) (fun r s' => match r with | .ok f => ∃ fl σ', St W σ' s' ∧ FLe F₀ (FrOf σ' s') ∧ LRel (FrOf σ' s') fl f ∧ K fl σ' | .error _ => False) s := fun A hA n s hI => by
  refine codeAny_forLoop_any (fun n s => ∃ i σ, n = items.length - i ∧ i ≤ items.length ∧ St W σ s ∧ At i s.heap ∧ σ I = Option.none ∧ FLe F₀ (FrOf σ s) ∧ SrcF (FrOf σ s) ∧ J i σ) (fun n s hI => ?_) n hI
  obtain ⟨i, σ, rfl, hi, S, hat, hσI, hF, hsrc, hJ⟩ := hI
  obtain ⟨oI, hoI, hcI⟩ := It.kind hat
  rcases Nat.lt_or_ge i items.length with hlt | hge
  · obtain ⟨p, hp⟩ : ∃ p, items[i]? = some p := ⟨items[i], List.getElem?_eq_getElem hlt⟩
    refine It.item hp A hA.1 σ s S (src _ _ hJ) hsrc hat _ _ fun v h' tk hat' hsb hv => ?_
    obtain ⟨S', Fi⟩ := S.iter (tk := tk) T hσI hIb hoI hcI hsb
    have hF' : FLe F₀ (Fz σ h') := fun a o x => by
      have ha : a ≠ I := fun z => hF₀ o (z ▸ x)
      obtain ⟨e1, e2, e3⟩ := hF a o x
      exact ⟨e1, hsb a o ha e2, e3⟩
    refine It.own _ _ _ _ hat' _ _ ?_
    refine G.use (turn i p σ hp hJ v) A hA _ S' hv (fun _ s₁ _ σ₁ a1 a2 a3 a4 => ?_) fun _ _ x => x.elim
    refine G.use a4 A hA s₁ a1 trivial (fun f s₂ fl σ₂ b1 b2 b3 b4 => ?_) fun _ _ x => x.elim
    have hFF : FLe (Fz σ h') (FrOf σ₂ s₂) := a2.trans b2
    have hI2 : Fz σ₂ s₂.heap I _ := hFF I _ ⟨hσI, (It.kind hat').choose_spec.1, by
      have := (It.kind hat').choose_spec.2
      intro z; rw [z] at this; cases this⟩
    have hat2 : At (i + 1) s₂.heap := It.keep hat' (hI2.2.1.trans (It.kind hat').choose_spec.1.symm)
    cases fl with
    | next => cases b3; exact ⟨items.length - (i + 1), Nat.sub_lt_sub_left hlt (Nat.lt_succ_self i), i + 1, σ₂, rfl, hlt, b1, hat2, hI2.1, hF'.trans hFF, It.mono hFF.i (It.mono Fi hsrc), b4⟩
    | cont => cases b3; exact ⟨items.length - (i + 1), Nat.sub_lt_sub_left hlt (Nat.lt_succ_self i), i + 1, σ₂, rfl, hlt, b1, hat2, hI2.1, hF'.trans hFF, It.mono hFF.i (It.mono Fi hsrc), b4⟩
    | brk => cases b3; exact ⟨.next, σ₂, b1, hF'.trans hFF, rfl, b4⟩
    | ret r => obtain ⟨w, rfl, hr⟩ := b3; exact ⟨.ret r, σ₂, b1, hF'.trans hFF, ⟨w, rfl, hr⟩, b4⟩
  · have : i = items.length := Nat.le_antisymm hi hge
    subst this
    refine It.done A hA.1 σ s S (src _ _ hJ) hsrc hat _ _ fun h' tk hx => ?_
    obtain ⟨S', Fi⟩ := S.iter (tk := tk) T hσI hIb hoI hcI hx
    have hF' : FLe F₀ (Fz σ h') := fun a o x => by
      have ha : a ≠ I := fun z => hF₀ o (z ▸ x)
      obtain ⟨e1, e2, e3⟩ := hF a o x
      exact ⟨e1, hx a o ha e2, e3⟩
    exact G.use (fin σ hJ) A hA _ S' trivial (fun f s₂ fl σ₂ b1 b2 b3 b4 => ⟨fl, σ₂, b1, hF'.trans b2, b3, b4⟩) fun _ _ x => x.elim
theorem X_For (T : Top W) {target iter : Expr} {body orelse : List Stmt} {pos : Pos} {K : AFlow → Sig → Prop} {q₀ : PV} (items : List PV) (SrcS : Sig → Prop) (J : Nat → Sig → Prop)
    (h : E W k env iter σ fun q σ₁ => q = q₀ ∧ Itbl W q₀ items SrcS ∧ J 0 σ₁)
    (src : ∀ i σ, J i σ → SrcS σ)
    (turn : ∀ i p σ, items[i]? = some p → J i σ → O1 W k REq (fun v => assign target env v) p σ fun _ σ' => XS W k env body σ' fun fl σ'' => match fl with | .next | .cont => J (i + 1) σ'' | .brk => K .next σ'' | .ret r => K (.ret r) σ'')
    (fin : ∀ σ, J items.length σ → XS W k env orelse σ K)
    (hfold : ∀ x, foldedSetIterable iter env x = Pure.pure x := by intro _; rfl) : X W k env (.For target iter body orelse pos) σ K := fun A hA s hs hP => by
  show wpAny _ A (do
    standAt pos
    let x ← foldedSetIterable iter env (← eval iter env)
    standAt iter.pos
    runOwn (.forLoop target (← holding [x] (pyIter x)) body orelse env) env) _ _ s
  refine wpAny_bind (wpAny_standAt (wpAny_bind (wpAny_mono (h A hA s hs trivial) (fun v s₁ hpat => ?_) fun _ _ x => x)))
  obtain ⟨q, σ₁, a1, a2, a3, a4, a5, a6⟩ := hpat
  subst a4
  rw [hfold]
  refine wpAny_bind (wpAny_pure (wpAny_bind (wpAny_standAt (wpAny_bind (wpAny_holding (a5 A hA.1 σ₁ s₁ a1 (src _ _ a6) v a3 _ _ fun o SrcF At hc It hat hsrc => ?_))))))
  have S2 := a1.push o
  have F2 := fle_push (σ := σ₁) (h := s₁.heap) (o := o)
  refine wpAny_runOwn (codeAny_mono (loop_G T J src turn fin It a1.sz (F₀ := FrOf σ₁ s₁) (fun o' x => Nat.lt_irrefl _ (Heap.lt_size x.2.1)) A hA (items.length - 0) _ ⟨0, σ₁, rfl, Nat.zero_le _, S2, hat, a1.fresh _ (Nat.le_refl _), F2, It.mono F2.i hsrc, a6⟩) fun r s' hr => ?_)
  cases r with
  | ok f => obtain ⟨fl, σ', b1, b2, b3, b4⟩ := hr; exact ⟨fl, σ', b1, a2.trans b2, b3, b4⟩
  | error e => exact hr.elim
end
end Mine
end
section
set_option tactic.hygienic false
set_option hygiene false
namespace Mine
theorem own_plain {M : Model} {A : Around} {E : Value → Shared → Prop} {s : Shared} {t : Expr} {I : Addr} {v : Value} {o : Obj} {n : String} {Q : Unit → Shared → Prop} (ho : s.heap.get? I = some o) (hc : o.cls = .type n)
    (hn : ["enumerate", "zip", "dict_itemiterator", "dict_reverseitemiterator", "odict_iterator", "itertools.zip_longest", "itertools.pairwise"].contains n = false) (h : Q () s) : wpAny M A (letOwnedTupleGo t (.ref I) v) Q E s := by
  unfold letOwnedTupleGo
  cases t <;> try exact wpAny_pure h
  all_goals
    cases v <;> try exact wpAny_pure h
    refine wpAny_bind (wpAny_load ho ?_)
    rw [hc]
    cases o.data <;> try exact wpAny_pure h
    dsimp only
    rw [hn, Bool.false_and]
    exact wpAny_pure h
theorem fz_ext {σ : Sig} {I : Addr} {h h' : Heap} (hx : Heap.ExtBut I h h') {oI : Obj} (hI : h.get? I = some oI) (hc : iterCls oI.cls = true) : FLi (Fz σ h) (Fz σ h') := fun a o q hpat => by
  obtain ⟨e1, e2, e3⟩ := hpat
  have : a ≠ I := fun z => by rw [z, hI] at e2; cases e2; rw [hc] at q; cases q
  exact ⟨e1, hx a o this e2, e3⟩
theorem isList_of {h : Heap} {a : Addr} {vs : Array Value} {n : Nat} (e : h.get? a = some (listOf vs n)) : h.IsList a vs := ⟨_, e, rfl, n, rfl⟩
theorem isTuple_of {h : Heap} {a : Addr} {vs : Array Value} {n : Nat} (e : h.get? a = some (tupleObj vs n)) : h.IsTuple a vs := ⟨_, e, rfl, n, rfl⟩
theorem vrels_at {F : FM} {l : List PV} {vs : Array Value} {i : Nat} {p : PV} (h : VRels F l vs.toList) (e : l[i]? = some p) : ∃ v, vs[i]? = some v ∧ VRel F p v := by
  obtain ⟨v, a, b⟩ := h.get e
  exact ⟨v, by rw [← Array.getElem?_toList]; exact a, b⟩
theorem vrels_end {F : FM} {l : List PV} {vs : Array Value} (h : VRels F l vs.toList) : vs[l.length]? = none := by
  have := h.length
  rw [← Array.getElem?_toList, ← this]; simp
section
variable {W : Wd} {items : List PV}
theorem iter_list {I l : Addr} (SrcS : Sig → Prop) (SrcF : FM → Prop) (hm : ∀ {F F'}, FLi F F' → SrcF F → SrcF F')
    (hg : ∀ σ s, St W σ s → SrcS σ → SrcF (FrOf σ s) → ∃ vs n, s.heap.get? l = some (listOf vs n) ∧ VRels (FrOf σ s) items vs.toList) : Iter W I items SrcS SrcF (fun i h => h.IsListIter I l i) where
  kind := fun ⟨o, ho, hc, _⟩ => ⟨o, ho, by rw [hc]; rfl⟩
  keep := fun ⟨o, ho, r⟩ e => ⟨o, e.trans ho, r⟩
  mono := hm
  item := fun {i p} hp A hA σ s S h1 h2 hat Q E q => by
    obtain ⟨vs, n, e, r⟩ := hg σ s S h1 h2
    obtain ⟨v, hv, rv⟩ := vrels_at r hp
    obtain ⟨o, ho, hc, _⟩ := id hat
    exact wpAny_pyNext_list_item hat (isList_of e) hv fun h' hit' hs' => q _ h' s.toks hit' hs'.extBut (rv.mono2 (fz_ext hs'.extBut ho (by rw [hc]; rfl)))
  done := fun A hA σ s S h1 h2 hat Q E q => by
    obtain ⟨vs, n, e, r⟩ := hg σ s S h1 h2
    exact wpAny_pyNext_list_end hA hat (isList_of e) (vrels_end r) fun h' he' => q h' s.toks he'
  self := fun A s hat Q E q => wpAny_pyIter_listiter hat q
  own := fun t A s v hat Q E q => by obtain ⟨o, ho, hc, _⟩ := hat; exact own_plain ho hc rfl q
theorem Itbl.lst : Itbl W (.lst items) items (fun _ => True) := fun A hA σ s S _ v hv Q E q => by
  obtain ⟨l, vs, n, rfl, f, r⟩ := hv
  refine wpAny_pyIter_list (isList_of f.2.1) ?_
  exact q _ (fun F => ∃ vs n, F l (listOf vs n) ∧ VRels F items vs.toList) (fun i h => h.IsListIter s.heap.objs.size l i) rfl
    (iter_list _ _ (fun m hpat => by obtain ⟨vs, n, a, b⟩ := hpat; exact ⟨vs, n, m _ _ rfl a, b.mono2 m⟩) fun σ s S _ hpat => by obtain ⟨vs, n, a, b⟩ := hpat; exact ⟨vs, n, a.2.1, b⟩) ⟨_, Heap.get?_push_size _ rfl, rfl, rfl⟩ ⟨vs, n, f, r⟩
theorem Itbl.ref {a : Addr} : Itbl W (.ref a) items (fun σ => σ a = some (.list items)) := fun A hA σ s S hs v hv Q E q => by
  obtain rfl : v = .ref a := hv
  obtain ⟨vs, n, f, r⟩ := S.hr _ _ hs
  refine wpAny_pyIter_list (isList_of f) ?_
  exact q _ (fun _ => True) (fun i h => h.IsListIter s.heap.objs.size a i) rfl
    (iter_list _ _ (fun _ _ => trivial) fun σ s S h _ => S.hr _ _ h) ⟨_, Heap.get?_push_size _ rfl, rfl, rfl⟩ trivial
noncomputable def signs (x : List Nat) : List PV := x.map fun c => .str [c]
theorem sign_at {x : List Nat} {i : Nat} {p : PV} (h : (signs x)[i]? = some p) : ∃ c, x[i]? = some c ∧ p = .str [c] := by
  unfold signs at h
  rw [List.getElem?_map] at h
  cases q : x[i]? with
  | none => rw [q] at h; cases h
  | some c => rw [q] at h; exact ⟨c, rfl, (Option.some.inj h).symm⟩
theorem signs_len (x : List Nat) : (signs x).length = x.length := List.length_map ..
theorem Itbl.str {x : List Nat} : Itbl W (.str x) (signs x) (fun _ => True) := fun A hA σ s S _ v hv Q E q => by
  obtain ⟨t, rfl⟩ := hv
  have key : ∀ (ty : String) (hty : iterCls (.type ty) = true) (hown : ["enumerate", "zip", "dict_itemiterator", "dict_reverseitemiterator", "odict_iterator", "itertools.zip_longest", "itertools.pairwise"].contains ty = false)
      (hself : ∀ i A (s' : Shared), s'.heap.IsStrIter s.heap.objs.size ty ⟨x.toArray⟩ t i → ∀ (Q : Value → Shared → Prop) E, Q (.ref s.heap.objs.size) s' → wpAny (model W.prog W.w) A (pyIter (.ref s.heap.objs.size)) Q E s')
      (hW : ∀ A', A'.handled = none → Walks W.prog W.w A' s.heap.objs.size [s.heap.objs.size] [s.heap.objs.size] x.toArray.size (SignAt ⟨x.toArray⟩) (fun i h => h.IsStrIter s.heap.objs.size ty ⟨x.toArray⟩ t i)),
      Iter W s.heap.objs.size (signs x) (fun _ => True) (fun _ => True) (fun i h => h.IsStrIter s.heap.objs.size ty ⟨x.toArray⟩ t i) := fun ty hty hown hself hW => {
    kind := fun ⟨o, ho, hc, _⟩ => ⟨o, ho, by rw [hc]; exact hty⟩
    keep := fun ⟨o, ho, r⟩ e => ⟨o, e.trans ho, r⟩
    mono := fun _ _ => trivial
    item := fun {i p} hp A hA σ s S _ _ hat Q E q => by
      obtain ⟨c, hc, rfl⟩ := sign_at hp
      have hi : i < x.toArray.size := by
        rcases Nat.lt_or_ge i x.length with h | h
        · simpa using h
        · rw [List.getElem?_eq_none h] at hc; cases hc
      refine (hW A hA).item i s Q E hi hat fun v h' tk hv hat' hk => q v h' tk hat' (fun b o hb e => hk b o (by simp [hb]) e) ?_
      obtain ⟨c', u, e1, rfl⟩ := hv
      have : c' = c := by
        have e1 : x.toArray[i]? = some c' := e1
        rw [List.getElem?_toArray, hc] at e1; exact (Option.some.inj e1).symm
      subst this
      exact ⟨u, rfl⟩
    done := fun A hA σ s S _ _ hat Q E q => (hW A hA).done s Q E (by rw [signs_len] at hat; simpa using hat) fun h' tk hk => q h' tk (fun b o hb e => hk b o (by simp [hb]) e)
    self := fun {i} A s' hat Q E q => hself i A s' hat Q E q
    own := fun t A s v hat Q E q => let ⟨o, ho, hc, _⟩ := hat; own_plain ho hc hown q }
  cases ha : (⟨x.toArray⟩ : Str).cps.all (· < 128)
  · exact wpAny_pyIter_wide ha (q _ (fun _ => True) _ rfl (key "str_iterator" rfl rfl (fun _ _ _ hat _ _ q => wpAny_pyIter_striter_wide hat q) fun A' hA' => Walks.strWide hA' _ _ t) ⟨_, Heap.get?_push_size _ rfl, rfl, rfl⟩ trivial)
  · exact wpAny_pyIter_ascii ha (q _ (fun _ => True) _ rfl (key "str_ascii_iterator" rfl rfl (fun _ _ _ hat _ _ q => wpAny_pyIter_striter_ascii hat q) fun A' hA' => Walks.strAscii hA' _ _ t) ⟨_, Heap.get?_push_size _ rfl, rfl, rfl⟩ trivial)
noncomputable def inums (a : Int) (n : Nat) : List PV := (List.range n).map fun i => .int (a + (i : Nat))
theorem inums_len (a : Int) (n : Nat) : (inums a n).length = n := by simp [inums]
theorem int_at {a : Int} {n i : Nat} {p : PV} (h : (inums a n)[i]? = some p) : i < n ∧ p = .int (a + i) := by
  unfold inums at h
  rw [List.getElem?_map] at h
  rcases Nat.lt_or_ge i n with q | q
  · rw [List.getElem?_range q] at h; exact ⟨q, (Option.some.inj h).symm⟩
  · rw [List.getElem?_eq_none (by simpa using q)] at h; cases h
theorem Itbl.rng {a b : Int} (hs : Builtin.Range.small a b 1 = true) (n : Nat) (hn : Builtin.Range.rangeSize a b 1 = n) : Itbl W (.rng a b) (inums a n) (fun _ => True) := fun A hA σ s S _ v hv Q E q => by
  obtain ⟨r, t, u, w, rfl, f⟩ := hv
  refine wpAny_pyIter_range f.2.1 hs ?_
  rw [hn]
  refine q _ (fun _ => True) (fun i h => IsRangeIter h s.heap.objs.size (a + (i : Nat) * 1) ((n : Int) - (i : Nat)) 1) rfl ?_ ?_ trivial
  · exact {
      kind := fun e => ⟨_, e, rfl⟩
      keep := fun e e' => e'.trans e
      mono := fun _ _ => trivial
      item := fun {i p} hp A hA σ s' S _ _ hat Q E q => by
        obtain ⟨hi, rfl⟩ := int_at hp
        refine (Walks.range hA s.heap.objs.size a 1 n).item i s' Q E hi hat fun v h' tk hv hat' hk => q v h' tk hat' (fun b o hb e => hk b o (by simp [hb]) e) ?_
        obtain ⟨t, rfl⟩ := hv
        exact ⟨t, by rw [Int.mul_one]⟩
      done := fun A hA σ s' S _ _ hat Q E q => (Walks.range hA s.heap.objs.size a 1 n).done s' Q E (by rw [inums_len] at hat; exact hat) fun h' tk hk => q h' tk (fun b o hb e => hk b o (by simp [hb]) e)
      self := fun A s hat Q E q => wpAny_pyIter_rangeiter hat q
      own := fun t A s v hat Q E q => own_plain hat (n := "range_iterator") rfl rfl q }
  · show IsRangeIter _ _ _ _ _
    rw [show a + ((0 : Nat) : Int) * 1 = a by simp, show (n : Int) - ((0 : Nat) : Int) = n by simp]
    exact Heap.get?_push_size _ rfl
end
end Mine
end
section
set_option tactic.hygienic false
set_option hygiene false
namespace Mine
noncomputable def compBody (elt : Expr) (gens : List Comprehension) (scope : Scope) (pos : Pos) (d : Nat) (acc : Value) (env : Env) : Sem Unit :=
  match gens[d + 1]? with
  | some g' => do
    let x ← eval g'.iter env
    standAt g'.iter.pos
    let x ← if g'.is_async != 0 then foldedIterable g'.iter x else foldedSetIterable g'.iter env x
    let _ ← runOwn (.compStart (.ListComp elt gens scope pos) (d + 1) (← holding [x] (if g'.is_async != 0 then asyncIter x else pyIter x)) acc env) env
  | none => do let _ ← call (.builtin "list.append") [acc, ← eval elt env]
noncomputable def compIfs (ifs : List Expr) (env : Env) : Sem Bool := forIn ifs true fun c r => if r = true then do let ok ← isTrue c env (eval c env); pure (ForInStep.yield ok) else pure (ForInStep.yield r)
theorem compTurn_at {elt target iter : Expr} {ifs : List Expr} {gens : List Comprehension} {scope : Scope} {pos : Pos} {d : Nat} {it acc : Value} {env : Env} (hg : gens[d]? = some ⟨target, iter, ifs, 0⟩) :
    compTurn (.ListComp elt gens scope pos) d it acc env = (standAt iter.pos >>= fun _ => pyNext it >>= fun r => match r with
      | none => pure (.done .next)
      | some v => letOwnedTupleGo target it v >>= fun _ => assign target env v >>= fun _ => compIfs ifs env >>= fun ok =>
        if ok = true then compBody elt gens scope pos d acc env >>= fun _ => again (.compLoop (.ListComp elt gens scope pos) d it acc env)
        else again (.compLoop (.ListComp elt gens scope pos) d it acc env)) := by
  unfold compTurn compBody compIfs
  dsimp only
  rw [hg]
  dsimp only
  refine congrArg (standAt iter.pos >>= ·) (funext fun _ => ?_)
  refine congrArg (pyNext it >>= ·) (funext fun r => ?_)
  cases r with
  | none => rfl
  | some v =>
    dsimp only
    refine congrArg (letOwnedTupleGo target it v >>= ·) (funext fun _ => ?_)
    refine congrArg (assign target env v >>= ·) (funext fun _ => ?_)
    refine congrArg (_ >>= ·) (funext fun ok => ?_)
    cases ok with
    | false => rfl
    | true =>
      simp only [if_true]
      cases gens[d + 1]? with
      | none => simp only [bind_assoc, pure_bind]
      | some g' =>
        simp only [bind_assoc, pure_bind]
        refine congrArg (_ >>= ·) (funext fun x => ?_)
        refine congrArg (_ >>= ·) (funext fun _ => ?_)
        by_cases h : (g'.is_async != 0) = true
        · simp only [h, if_true, bind_assoc, pure_bind]
        · simp only [h, if_false, Bool.false_eq_true, bind_assoc, pure_bind]
section
variable {W : Wd} {k : Nat} {σ : Sig} {env : Env} {P : FM → Prop}
noncomputable abbrev CI (W : Wd) (k : Nat) (env : Env) (ifs : List Expr) (σ : Sig) (K : Bool → Sig → Prop) : Prop := G W k PT REq (compIfs ifs env) σ K
theorem CI_nil {K : Bool → Sig → Prop} (h : K true σ) : CI W k env [] σ K := fun A hA s hs hP => wpAny_pure ⟨true, σ, hs, FLe.refl _, rfl, h⟩
theorem CI_one {c : Expr} {K : Bool → Sig → Prop} (h : T W k env c σ K) : CI W k env [c] σ K := fun A hA s hs hP => by
  unfold compIfs
  simp only [List.forIn_cons, List.forIn_nil, if_true]
  exact wpAny_bind (wpAny_bind (wpAny_mono (h A hA s hs hP) (fun b s' hb => wpAny_pure (wpAny_pure hb)) fun _ _ x => x))
theorem compLoop_G (T : Top W) {elt target iter : Expr} {ifs : List Expr} {gens : List Comprehension} {scope : Scope} {pos : Pos} {d : Nat} {acc : Value} (hg : gens[d]? = some ⟨target, iter, ifs, 0⟩)
    {items : List PV} {SrcS : Sig → Prop} (J : Nat → Sig → Prop) {K : Sig → Prop}
    (src : ∀ i σ, J i σ → SrcS σ)
    (turn : ∀ i p σ, items[i]? = some p → J i σ → O1 W k REq (fun v => assign target env v) p σ fun _ σ' => CI W k env ifs σ' fun b σ'' => if b then G W k PT REq (compBody elt gens scope pos d acc env) σ'' (fun _ σ''' => J (i + 1) σ''') else J (i + 1) σ'')
    (fin : ∀ σ, J items.length σ → K σ)
    {I : Addr} {SrcF : FM → Prop} {At : Nat → Heap → Prop} (It : Iter W I items SrcS SrcF At) (hIb : W.h₁.objs.size ≤ I) {F₀ : FM} (hF₀ : ∀ o, ¬ F₀ I o) :
    ∀ A, Room A k → ∀ n s, (∃ i σ, n = items.length - i ∧ i ≤ items.length ∧ St W σ s ∧ At i s.heap ∧ σ I = Option.none ∧ FLe F₀ (FrOf σ s) ∧ SrcF (FrOf σ s) ∧ J i σ) →
      codeAny (model W.prog W.w) A (.compLoop (.ListComp elt gens scope pos) d (.ref I) acc env) (fun r s' => match r with | .ok _ => ∃ σ', St W σ' s' ∧ FLe F₀ (FrOf σ' s') ∧ K σ' | .error _ => False) s := fun A hA n s hI => by
  refine codeAny_loop rfl (fun n s => ∃ i σ, n = items.length - i ∧ i ≤ items.length ∧ St W σ s ∧ At i s.heap ∧ σ I = Option.none ∧ FLe F₀ (FrOf σ s) ∧ SrcF (FrOf σ s) ∧ J i σ) (fun n s hI => ?_) n hI
  obtain ⟨i, σ, rfl, hi, S, hat, hσI, hF, hsrc, hJ⟩ := hI
  obtain ⟨oI, hoI, hcI⟩ := It.kind hat
  show wpAny _ A ((compTurn (.ListComp elt gens scope pos) d (.ref I) acc env).onRaise (fun x => do noteFrame x env; theTreesLotGoes x)) _ _ s
  refine wpAny_noted ?_
  rw [compTurn_at hg]
  refine wpAny_bind (wpAny_standAt (wpAny_bind ?_))
  rcases Nat.lt_or_ge i items.length with hlt | hge
  · obtain ⟨p, hp⟩ : ∃ p, items[i]? = some p := ⟨items[i], List.getElem?_eq_getElem hlt⟩
    refine It.item hp A hA.1 σ s S (src _ _ hJ) hsrc hat _ _ fun v h' tk hat' hsb hv => ?_
    obtain ⟨S', Fi⟩ := S.iter (tk := tk) T hσI hIb hoI hcI hsb
    have hF' : FLe F₀ (Fz σ h') := fun a o x => by
      have ha : a ≠ I := fun z => hF₀ o (z ▸ x)
      obtain ⟨e1, e2, e3⟩ := hF a o x
      exact ⟨e1, hsb a o ha e2, e3⟩
    refine wpAny_bind (It.own _ _ _ _ hat' _ _ ?_)
    refine wpAny_bind (G.use (turn i p σ hp hJ v) A hA _ S' hv (fun _ s₁ _ σ₁ a1 a2 a3 a4 => ?_) fun _ _ x => x.elim)
    refine wpAny_bind (G.use a4 A hA s₁ a1 trivial (fun b s₂ _ σ₂ b1 b2 b3 b4 => ?_) fun _ _ x => x.elim)
    cases b3
    have step : ∀ σ₃ s₃, St W σ₃ s₃ → FLe (Fz σ h') (FrOf σ₃ s₃) → J (i + 1) σ₃ → ∃ m, m < items.length - i ∧ ∃ i σ, m = items.length - i ∧ i ≤ items.length ∧ St W σ s₃ ∧ At i s₃.heap ∧ σ I = Option.none ∧ FLe F₀ (FrOf σ s₃) ∧ SrcF (FrOf σ s₃) ∧ J i σ := fun σ₃ s₃ c1 c2 c3 => by
      have hI2 : Fz σ₃ s₃.heap I _ := c2 I _ ⟨hσI, (It.kind hat').choose_spec.1, by
        have := (It.kind hat').choose_spec.2
        intro z; rw [z] at this; cases this⟩
      have hat2 : At (i + 1) s₃.heap := It.keep hat' (hI2.2.1.trans (It.kind hat').choose_spec.1.symm)
      exact ⟨items.length - (i + 1), Nat.sub_lt_sub_left hlt (Nat.lt_succ_self i), i + 1, σ₃, rfl, hlt, c1, hat2, hI2.1, hF'.trans c2, It.mono c2.i (It.mono Fi hsrc), c3⟩
    cases b with
    | false => exact wpAny_pure ⟨rfl, step σ₂ s₂ b1 (a2.trans b2) b4⟩
    | true =>
      exact wpAny_bind (G.use b4 A hA s₂ b1 trivial (fun _ s₃ _ σ₃ c1 c2 c3 c4 => wpAny_pure ⟨rfl, step σ₃ s₃ c1 ((a2.trans b2).trans c2) c4⟩) fun _ _ x => x.elim)
  · have : i = items.length := Nat.le_antisymm hi hge
    subst this
    refine It.done A hA.1 σ s S (src _ _ hJ) hsrc hat _ _ fun h' tk hx => ?_
    obtain ⟨S', Fi⟩ := S.iter (tk := tk) T hσI hIb hoI hcI hx
    have hF' : FLe F₀ (Fz σ h') := fun a o x => by
      have ha : a ≠ I := fun z => hF₀ o (z ▸ x)
      obtain ⟨e1, e2, e3⟩ := hF a o x
      exact ⟨e1, hx a o ha e2, e3⟩
    exact wpAny_pure ⟨σ, S', hF', fin σ hJ⟩
end
end Mine
end
section
set_option tactic.hygienic false
set_option hygiene false
namespace Mine
theorem fle_resBut {σ : Sig} {h h' : Heap} {L n : Addr} (hL : σ L ≠ none) (hs : Heap.SameBut L h h') : FLe (Fz σ h) (Fz (res n σ) h') := fun a o hpat => by
  obtain ⟨e1, e2, e3⟩ := hpat
  have ha : a ≠ L := fun z => hL (z ▸ e1)
  refine ⟨?_, (hs.2 a ha).trans e2, e3⟩
  unfold res
  split
  · exact e1
  · rfl
theorem St.resBut {W : Wd} {σ : Sig} {s : Shared} (S : St W σ s) (T : Top W) {L n : Addr} (hL : σ L ≠ none) (hn : n ≤ L) {h' : Heap} (hs : Heap.SameBut L s.heap h') : St W (res n σ) { s with heap := h' } := by
  have F := fle_resBut (n := n) hL hs
  refine ⟨fun a ao e => ?_, S.old.step_same (S.above L hL) hs, fun a h => ?_, by show W.h₁.objs.size ≤ h'.objs.size; rw [hs.1]; exact S.sz, S.lim.sameBut hs (S.lim_ne hL T.lim), S.os, S.gens, S.tab.keep (fun a o _ => F a o) (hs.2 _ (S.tab_ne hL))⟩
  · have ha : a < n := by
      rcases Nat.lt_or_ge a n with q | q
      · exact q
      · rw [res_ge q] at e; cases e
    rw [res_lt ha] at e
    have hne : a ≠ L := Nat.ne_of_lt (Nat.lt_of_lt_of_le ha hn)
    refine (S.hr a ao e).keep F (hs.2 a hne) fun C d fs m z => ?_
    have hd : d < n := Nat.lt_trans (S.dict_lt (z ▸ e)) ha
    exact ⟨hs.2 d (Nat.ne_of_lt (Nat.lt_of_lt_of_le hd hn)), res_lt hd⟩
  · refine S.above a fun q => h ?_
    unfold res
    split
    · exact q
    · rfl
section
variable {W : Wd} {k : Nat} {σ : Sig} {env : Env} {P : FM → Prop}
theorem list_append_G (T : Top W) {D : Addr} {acc : List PV} {p : PV} {K : PV → Sig → Prop} (hD : σ D = some (.list acc)) (hz : acc.length ≤ 1000000) (h : K .none (σ.upd D (.list (acc ++ [p])))) :
    ∀ x, G W k (fun F => VRel F p x) VRel (call (.builtin "list.append") [.ref D, x]) σ K := fun x A hA s hs hP => by
  obtain ⟨vs, n, ho, r⟩ := hs.hr _ _ hD
  have hlen := r.length
  rw [Array.length_toList] at hlen
  refine wpAny_list_append_plain ⟨n, ho⟩ (fun h' hp hsb => ?_) (by rw [sizeLine_eq, hlen]; exact Nat.le_trans (by assumption) (by decide))
  have hne : σ D ≠ none := by rw [hD]; simp
  have F1 : FLe (Fz σ s.heap) (Fz (σ.upd D (.list (acc ++ [p]))) h') := fle_upd hne hsb
  obtain ⟨n', hp⟩ := hp
  exact ⟨.none, _, hs.update (ao := .list (acc ++ [p])) (tk := s.toks) T.lim hD (fun b q => by cases q) hsb ⟨vs.push x, n', hp, by
    rw [Array.toList_push]
    exact (r.mono F1).append (VRels.one (VRel.mono F1 hP))⟩, F1, (Eq.refl _ : Value.none = Value.none), h⟩
theorem CB_elt (T : Top W) {elt : Expr} {gens : List Comprehension} {scope : Scope} {pos : Pos} {d : Nat} {D : Addr} (hg : gens[d + 1]? = none) {K : Unit → Sig → Prop}
    (h : E W k env elt σ fun p σ' => ∃ acc, σ' D = some (.list acc) ∧ acc.length ≤ 1000000 ∧ K () (σ'.upd D (.list (acc ++ [p])))) : G W k PT REq (compBody elt gens scope pos d (.ref D) env) σ K := fun A hA s hs hP => by
  unfold compBody
  rw [hg]
  refine wpAny_bind (G.use h A hA s hs trivial (fun x s₁ p σ₁ a1 a2 a3 hpat => by
    obtain ⟨acc, a4, a5, a6⟩ := hpat
    exact wpAny_bind (G.use (list_append_G (K := fun _ σ => K () σ) T a4 a5 a6 x) A hA s₁ a1 a3 (fun _ s₂ _ σ₂ b1 b2 b3 b4 => wpAny_pure ⟨(), σ₂, b1, a2.trans b2, rfl, b4⟩) fun _ _ x => x)) fun _ _ x => x)
noncomputable abbrev cenvOf (scope : Scope) (cl : List (Str × Addr)) (L : Addr) (env : PySem.Env) (b : Addr := builtinsNs) : PySem.Env := { newEnv scope L env.globals (cellsFrom (L + 1) scope.names cl) env.qual none .none (some env) b with scope := relabel scope env }
theorem CB_for (T : Top W) {elt target iter : Expr} {ifs : List Expr} {gens : List Comprehension} {scope : Scope} {pos : Pos} {d : Nat} {D : Addr} (hg : gens[d + 1]? = some ⟨target, iter, ifs, 0⟩) {K : Unit → Sig → Prop}
    (items : List PV) (SrcS : Sig → Prop) (J : Nat → Sig → Prop) {q₀ : PV}
    (h : E W k env iter σ fun q σ₁ => q = q₀ ∧ Itbl W q₀ items SrcS ∧ J 0 σ₁)
    (src : ∀ i σ, J i σ → SrcS σ)
    (turn : ∀ i p σ, items[i]? = some p → J i σ → O1 W k REq (fun v => assign target env v) p σ fun _ σ' => CI W k env ifs σ' fun b σ'' => if b then G W k PT REq (compBody elt gens scope pos (d + 1) (.ref D) env) σ'' (fun _ σ''' => J (i + 1) σ''') else J (i + 1) σ'')
    (fin : ∀ σ, J items.length σ → K () σ)
    (hfold : ∀ x, foldedSetIterable iter env x = Pure.pure x := by intro _; rfl) : G W k PT REq (compBody elt gens scope pos d (.ref D) env) σ K := fun A hA s hs hP => by
  unfold compBody
  rw [hg]
  refine wpAny_bind (wpAny_mono (h A hA s hs trivial) (fun x s₁ hpat => ?_) fun _ _ x => x)
  obtain ⟨q, σ₁, a1, a2, a3, a4, a5, a6⟩ := hpat
  subst a4
  refine wpAny_bind (wpAny_standAt ?_)
  show wpAny _ A (do
    let x ← foldedSetIterable iter env x
    let _ ← runOwn (.compStart (.ListComp elt gens scope pos) (d + 1) (← holding [x] (pyIter x)) (.ref D) env) env) _ _ s₁
  rw [hfold]
  refine wpAny_bind (wpAny_pure (wpAny_bind (wpAny_holding (a5 A hA.1 σ₁ s₁ a1 (src _ _ a6) x a3 _ _ fun o SrcF At hc It hat hsrc => ?_))))
  have S2 := a1.push o
  have F2 := fle_push (σ := σ₁) (h := s₁.heap) (o := o)
  have loop := codeAny_mono (compLoop_G (elt := elt) (scope := scope) (pos := pos) (acc := .ref D) T hg J src turn fin It a1.sz (F₀ := FrOf σ₁ s₁) (fun o' x => Nat.lt_irrefl _ (Heap.lt_size x.2.1)) A hA (items.length - 0) _ ⟨0, σ₁, rfl, Nat.zero_le _, S2, hat, a1.fresh _ (Nat.le_refl _), F2, It.mono F2.i hsrc, a6⟩) (R' := fun r s' => match r with
      | .ok f => wpAny (model W.prog W.w) A (Pure.pure () : Sem Unit) (fun v s' => ∃ b σ', St W σ' s' ∧ FLe (FrOf σ s) (FrOf σ' s') ∧ REq (FrOf σ' s') b v ∧ K b σ') (fun _ _ => False) s'
      | .error e => False) fun r s' hr => by
    cases r with
    | ok f => obtain ⟨σ', b1, b2, b3⟩ := hr; exact wpAny_pure ⟨(), σ', b1, a2.trans b2, rfl, b3⟩
    | error e => exact hr
  refine wpAny_bind (wpAny_runOwn ?_)
  refine codeAny_of_tree ?_
  show wpAny _ _ ((compStart (.ListComp elt gens scope pos) (d + 1) (.ref s₁.heap.objs.size) (.ref D) env).onRaise (fun x => do noteFrame x env; standAt theWindowsPlace)) _ _ _
  refine wpAny_notedAt ?_
  unfold compStart
  rw [show clausesOf (.ListComp elt gens scope pos) = gens from rfl, hg]
  show wpAny _ _ (ask >>= _) _ _ _
  refine wpAny_bind (wpAny_askSetting (wpAny_ite ?_))
  split
  · first
      | exact wpAny_bind (wpAny_pure (wpAny_pure (And.intro rfl (codeAny_mono loop fun r s' hr => by cases r <;> first | exact hr | exact hr.elim))))
      | exact wpAny_pure (And.intro rfl (codeAny_mono loop fun r s' hr => by cases r <;> first | exact hr | exact hr.elim))
  · refine wpAny_bind (wpAny_rule ?_)
    show wpAny _ _ (standAt iter.pos >>= _) _ _ _
    refine wpAny_bind (wpAny_standAt (wpAny_bind (It.self _ _ hat _ _ ?_)))
    exact wpAny_pure (And.intro rfl (codeAny_mono loop fun r s' hr => by cases r <;> first | exact hr | exact hr.elim))
end
end Mine
end
section
set_option tactic.hygienic false
set_option hygiene false
namespace Mine
section
variable {W : Wd} {k : Nat} {σ : Sig} {env : Env} {P : FM → Prop}
structure CompIn (W : Wd) (k : Nat) (elt target : Expr) (ifs : List Expr) (gens : List Comprehension) (scope : Scope) (pos : Pos) (items : List PV) (SrcS : Sig → Prop) (cenv : Env) (D : Addr) (σ₁ : Sig) (J : Nat → Sig → Prop) : Prop where
  start : J 0 (cellsUpd (cenv.locals + 1) scope.names ((σ₁.upd D (.list [])).upd cenv.locals (.frame fun _ => none)))
  src : ∀ i σ, J i σ → SrcS σ
  turn : ∀ i p σ, items[i]? = some p → J i σ → O1 W k REq (fun v => assign target cenv v) p σ fun _ σ' => CI W k cenv ifs σ' fun b σ'' => if b then G W k PT REq (compBody elt gens scope pos 0 (.ref D) cenv) σ'' (fun _ σ''' => J (i + 1) σ''') else J (i + 1) σ''
theorem comp_core (T : Top W) {elt target iter : Expr} {ifs : List Expr} {rest : List Comprehension} {scope : Scope} {pos ipos : Pos} {cl : List (Str × Addr)} {items : List PV} {SrcS : Sig → Prop} {use : Option (Value → Sem Unit)} {Kv : PV → Sig → Prop}
    (hclos : closureFor scope env = Pure.pure cl) (hkind : scope.kind = .function) (hnames : ∀ x ∈ scope.names, x.2 = .local → scope.names.lookup x.1 = some .local)
    (hfold : ∀ x, foldedSetIterable iter env x = Pure.pure x)
    (h : E W k env iter σ fun q σ₁ => Itbl W q items SrcS ∧ SrcS σ₁ ∧ ∀ D L, Fresh σ₁ D → D < L → Fresh σ₁ L → ∃ J, CompIn W k elt target ifs (⟨target, iter, ifs, 0⟩ :: rest) scope pos items SrcS (cenvOf scope cl L env) D σ₁ J ∧
      ∀ σ', J items.length σ' → ∃ acc m, σ' D = some (.list acc) ∧ σ' L = some (.frame m) ∧ match use with
        | none => Kv (.lst acc) (res D σ')
        | some u => O1 W k REq u (.lst acc) ((res D σ').upd L (.frame m)) fun _ σ'' => ∃ m, σ'' L = some (.frame m) ∧ Kv .none (res D σ'')) :
    G W k P VRel (comprehension (.ListComp elt (⟨target, iter, ifs, 0⟩ :: rest) scope pos) scope env ipos (newList []) false (eval iter env) use) σ Kv := fun A hA s hs hP => by
  refine wpAny_comprehension_free (use := use) rfl hfold hclos hkind hnames (wpAny_mono (h A hA s hs trivial) (fun xv s₁ hpat => ?_) fun _ _ e => e)
  obtain ⟨q, σ₁, a1, a2, a3, a4, a5, a6⟩ := hpat
  refine a4 A hA.1 σ₁ s₁ a1 a5 xv a3 _ _ fun o SrcF At hc It hat hsrc => ?_
  have S2 := a1.push o
  have F2 := fle_push (σ := σ₁) (h := s₁.heap) (o := o)
  refine wpAny_newObj_type ?_
  have hfD : Fresh σ₁ (s₁.heap.push o).objs.size := S2.fresh
  have hDb : W.h₁.objs.size ≤ (s₁.heap.push o).objs.size := S2.sz
  have S3 := S2.pushUpd (listOf (([] : List Value).toArray) 0) (.list []) ⟨_, _, Heap.get?_push_size _ rfl, rfl⟩
  have F3 := fle_push_upd (σ := σ₁) (h := s₁.heap.push o) (o := listOf (([] : List Value).toArray) 0) (ao := .list [])
  generalize hD : (s₁.heap.push o).objs.size = D at *
  have hID : s₁.heap.objs.size < D := by rw [← hD, Heap.size_push]; exact Nat.lt_succ_self _
  have hLD : ∀ L, Fresh (σ₁.upd D (.list [])) L → D < L := fun L hL => by
    rcases Nat.lt_or_ge D L with q | q
    · exact q
    · have := hL D q; rw [upd_same] at this; cases this
  have hLf : ∀ L, Fresh (σ₁.upd D (.list [])) L → Fresh σ₁ L := fun L hL b hb => by
    have := hL b hb
    by_cases q : b = D
    · subst q; rw [upd_same] at this; cases this
    · rwa [upd_ne q] at this
  refine wpAny_mono (newEnv_G (bp := []) (K := fun cenv σ' => ∃ L, D < L ∧ Fresh σ₁ L ∧ cenv = newEnv scope L env.globals (cellsFrom (L + 1) scope.names cl) env.qual none .none (some env) builtinsNs ∧ σ' = cellsUpd (L + 1) scope.names ((σ₁.upd D (.list [])).upd L (.frame fun _ => none)))
    (fun L hL => ⟨L, hLD L hL, hLf L hL, rfl, rfl⟩) [] A hA _ S3 rfl) (fun cenv s₄ hpat => ?_) fun _ _ x => x.elim
  obtain ⟨e, σ₄, b1, b2, b3, L, b4, b5, b6, b7⟩ := hpat
  cases b3
  subst b6 b7
  obtain ⟨J, hJ, hfin⟩ := a6 D L hfD b4 b5
  obtain ⟨oI, hoI, hcI⟩ := It.kind hat
  have F4 : FLe (Fz σ₁ (s₁.heap.push o)) (FrOf _ s₄) := F3.trans b2
  have hI4 := F4 s₁.heap.objs.size oI ⟨a1.fresh _ (Nat.le_refl _), hoI, fun z => by rw [z] at hcI; cases hcI⟩
  have hat4 : At 0 s₄.heap := It.keep hat (hI4.2.1.trans hoI.symm)
  have loop := compLoop_G (elt := elt) (env := cenvOf scope cl L env) (scope := scope) (pos := pos) (acc := .ref D) (gens := ⟨target, iter, ifs, 0⟩ :: rest) (d := 0) T rfl J (K := fun σ' => J items.length σ') hJ.src hJ.turn (fun _ h => h) It a1.sz (F₀ := FrOf σ₁ s₁) (fun o' x => Nat.lt_irrefl _ (Heap.lt_size x.2.1)) A hA (items.length - 0) s₄
    ⟨0, _, rfl, Nat.zero_le _, b1, hat4, hI4.1, F2.trans F4, It.mono (F2.trans F4).i hsrc, hJ.start⟩
  have fin := codeAny_mono loop (R' := compPost (model W.prog W.w) A (fun _ _ => False) use (fun v s' => ∃ b σ', St W σ' s' ∧ FLe (FrOf σ s) (FrOf σ' s') ∧ VRel (FrOf σ' s') b v ∧ Kv b σ') (.ref D) L) fun r s' hr => by
    cases r with
    | error e => exact hr.elim
    | ok f =>
      obtain ⟨σ', c1, c2, c3⟩ := hr
      obtain ⟨acc, m, d1, d2, d3⟩ := hfin σ' c3
      have hL' : σ' L ≠ none := by rw [d2]; simp
      cases use with
      | none =>
        obtain ⟨mc, hn, _⟩ := c1.hr _ _ d2
        refine ⟨mc, hn, fun h' hs' => ⟨.lst acc, res D σ', c1.resBut T hL' (Nat.le_of_lt b4) hs', (a2.trans c2).trans (fle_resBut hL' hs'), ?_, d3⟩⟩
        obtain ⟨vs, n, ho, r⟩ := c1.hr _ _ d1
        exact ⟨D, vs, n, rfl, ⟨res_ge (Nat.le_refl _), (hs'.2 D (Nat.ne_of_lt b4)).trans ho, by intro z; cases z⟩, r.mono (fle_resBut hL' hs')⟩
      | some u =>
        have hsub : Sub ((res D σ').upd L (.frame m)) σ' := by
          have s0 := sub_res c1 D
          refine ⟨fun a o e => ?_, fun a C d fs n e => ?_⟩
          · by_cases q : a = L
            · subst q; rw [upd_same] at e; cases e; exact d2
            · rw [upd_ne q] at e; exact s0.1 a o e
          · by_cases q : a = L
            · subst q; rw [upd_same] at e; cases e
            · rw [upd_ne q] at e
              have := s0.2 a C d fs n e
              have hd : d ≠ L := fun z => by rw [z, res_ge (Nat.le_of_lt b4)] at this; cases this
              rw [upd_ne hd]; exact this
        have S5 := c1.sub hsub
        have F5 := fle_sub (h := s'.heap) hsub
        obtain ⟨vs, n, ho, r⟩ := c1.hr _ _ d1
        have hv : VRel (FrOf ((res D σ').upd L (.frame m)) s') (.lst acc) (.ref D) :=
          ⟨D, vs, n, rfl, ⟨(upd_ne (Nat.ne_of_lt b4)).trans (res_ge (Nat.le_refl _)), ho, by intro z; cases z⟩, r.mono F5⟩
        refine wpAny_mono (d3 (.ref D) A hA s' S5 hv) (fun _ s'' hpat => ?_) fun _ _ x => x.elim
        obtain ⟨_, σ'', e1, e2, e3, m', e4, e5⟩ := hpat
        have hL'' : σ'' L ≠ none := by rw [e4]; simp
        obtain ⟨mc, hn, _⟩ := e1.hr _ _ e4
        exact ⟨mc, hn, fun h' hs' => ⟨.none, res D σ'', e1.resBut T hL'' (Nat.le_of_lt b4) hs', ((a2.trans c2).trans (F5.trans e2)).trans (fle_resBut hL'' hs'), (Eq.refl _ : Value.none = Value.none), e5⟩⟩
  exact codeAny_compStart_list fin (It.self _ _ hat4 _ _ fin)
theorem E_ListComp (T : Top W) {elt target iter : Expr} {ifs : List Expr} {rest : List Comprehension} {scope : Scope} {pos : Pos} {cl : List (Str × Addr)} (items : List PV) (SrcS : Sig → Prop) {K : PV → Sig → Prop}
    (h : E W k env iter σ fun q σ₁ => Itbl W q items SrcS ∧ SrcS σ₁ ∧ ∀ D L, Fresh σ₁ D → D < L → Fresh σ₁ L → ∃ J, CompIn W k elt target ifs (⟨target, iter, ifs, 0⟩ :: rest) scope pos items SrcS (cenvOf scope cl L env) D σ₁ J ∧
      ∀ σ', J items.length σ' → ∃ acc m, σ' D = some (.list acc) ∧ σ' L = some (.frame m) ∧ K (.lst acc) (res D σ'))
    (hclos : closureFor scope env = Pure.pure cl := by rfl) (hkind : scope.kind = .function := by rfl) (hnames : ∀ x ∈ scope.names, x.2 = .local → scope.names.lookup x.1 = some .local := by decide)
    (hfold : ∀ x, foldedSetIterable iter env x = Pure.pure x := by intro _; rfl) : E W k env (.ListComp elt (⟨target, iter, ifs, 0⟩ :: rest) scope pos) σ K := by
  show G W k PT VRel (eval _ env) σ K
  rw [eval_ListComp]
  exact comp_core (use := none) T hclos hkind hnames hfold h
theorem X_AssignComp (T : Top W) {x : Str} {elt target iter : Expr} {ifs : List Expr} {rest : List Comprehension} {scope : Scope} {pos p' pos' : Pos} {cl : List (Str × Addr)} (items : List PV) (SrcS : Sig → Prop) {K : AFlow → Sig → Prop}
    (h : E W k env iter σ fun q σ₁ => Itbl W q items SrcS ∧ SrcS σ₁ ∧ ∀ D L, Fresh σ₁ D → D < L → Fresh σ₁ L → ∃ J, CompIn W k elt target ifs (⟨target, iter, ifs, 0⟩ :: rest) scope p' items SrcS (cenvOf scope cl L env) D σ₁ J ∧
      ∀ σ', J items.length σ' → ∃ acc m, σ' D = some (.list acc) ∧ σ' L = some (.frame m) ∧
        O1 W k REq (storeName env x) (.lst acc) ((res D σ').upd L (.frame m)) fun _ σ'' => ∃ m, σ'' L = some (.frame m) ∧ K .next (res D σ''))
    (hsw : swapsWith (.ListComp elt (⟨target, iter, ifs, 0⟩ :: rest) scope p') (some (.Name x pos')) pos.line env = Pure.pure true := by rfl)
    (hclos : closureFor scope env = Pure.pure cl := by rfl) (hkind : scope.kind = .function := by rfl) (hnames : ∀ x ∈ scope.names, x.2 = .local → scope.names.lookup x.1 = some .local := by decide)
    (hfold : ∀ x, foldedSetIterable iter env x = Pure.pure x := by intro _; rfl) : X W k env (.Assign [.Name x pos'] (.ListComp elt (⟨target, iter, ifs, 0⟩ :: rest) scope p') pos) σ K := fun A hA s hs hP => by
  rw [exec_Assign_Name_used _ _ _ _ hsw]
  refine wpAny_bind (wpAny_standAt (wpAny_bind ?_))
  show wpAny _ A (do let _ ← comprehension (.ListComp elt (⟨target, iter, ifs, 0⟩ :: rest) scope p') scope env _ (newList []) false (eval iter env) (some (assign (.Name x pos') env))) _ _ s
  refine wpAny_bind (wpAny_mono (comp_core (Kv := fun _ σ => K .next σ) (use := some (assign (.Name x pos') env)) T hclos hkind hnames hfold (h.imp fun q σ₁ ⟨a1, a2, a3⟩ => ⟨a1, a2, fun D L e1 e2 e3 => by
    obtain ⟨J, b1, b2⟩ := a3 D L e1 e2 e3
    refine ⟨J, b1, fun σ' hJ => ?_⟩
    obtain ⟨acc, m, c1, c2, c3⟩ := b2 σ' hJ
    refine ⟨acc, m, c1, c2, fun v A hA s hs hP => ?_⟩
    exact wpAny_assign_Name (c3 v A hA s hs hP)⟩) A hA s hs hP) (fun _ s' hpat => by obtain ⟨b, σ', a1, a2, a3, a4⟩ := hpat; exact wpAny_pure (wpAny_pure ⟨AFlow.next, σ', a1, a2, rfl, a4⟩)) fun _ _ x => x)
end
end Mine
end
section
set_option tactic.hygienic false
set_option hygiene false
namespace Mine
noncomputable def slc {α : Type} (lo hi : Option Int) (l : List α) : List α :=
  (l.drop (lo.elim 0 (clipAt l.length))).take (hi.elim l.length (clipAt l.length) - lo.elim 0 (clipAt l.length))
theorem slc_list (items : Array Value) (lo hi : Option Int) : (slicePick items lo hi none).toList = slc lo hi items.toList := by
  rw [slicePick_plain]
  simp [slc]
theorem strIdx (lo hi : Option Int) (n : Nat) : Builtin.Str.strSliceIndices lo hi 1 n = sliceRange ((lo.elim 0 (clipAt n) : Nat) : Int) ((hi.elim n (clipAt n) : Nat) : Int) 1 := by
  cases lo <;> cases hi <;> simp [Builtin.Str.strSliceIndices, clipAt_cast]
theorem slc_str (x : List Nat) (lo hi : Option Int) : (Builtin.Str.strSliceIndices lo hi 1 x.length).filterMap (x.toArray[·]?) = slc lo hi x := by
  rw [strIdx, sliceRange_one, pick_run]
  rfl
theorem clipAt_le (n : Nat) (i : Int) : clipAt n i ≤ n := Int.toNat_le.mpr (Int.max_le.mpr ⟨Int.natCast_nonneg _, Int.min_le_right _ _⟩)
theorem clip_nat {n a : Nat} : clipAt n (a : Int) = min a n := by
  unfold clipAt
  rw [if_neg (Int.not_lt.mpr (Int.natCast_nonneg a))]
  rcases Nat.le_total a n with q | q
  · rw [Nat.min_eq_left q, Int.min_eq_left (Int.ofNat_le.mpr q), Int.max_eq_right (Int.natCast_nonneg _), Int.toNat_natCast]
  · rw [Nat.min_eq_right q, Int.min_eq_right (Int.ofNat_le.mpr q), Int.max_eq_right (Int.natCast_nonneg _), Int.toNat_natCast]
theorem slc_len {α : Type} (lo hi : Option Int) (l : List α) : (slc lo hi l).length = hi.elim l.length (clipAt l.length) - lo.elim 0 (clipAt l.length) := by
  unfold slc
  rw [List.length_take, List.length_drop]
  have h1 : hi.elim l.length (clipAt l.length) ≤ l.length := by cases hi; exact Nat.le_refl _; exact clipAt_le _ _
  exact Nat.min_eq_left (Nat.sub_le_sub_right h1 _)
theorem slc_whole {α : Type} {lo hi : Option Int} {l : List α} (h : (slc lo hi l).length = l.length) : slc lo hi l = l := by
  rw [slc_len] at h
  have h1 : hi.elim l.length (clipAt l.length) ≤ l.length := by cases hi; exact Nat.le_refl _; exact clipAt_le _ _
  unfold slc
  rcases Nat.eq_zero_or_pos l.length with q | q
  · rw [List.length_eq_zero_iff.mp q]; simp
  · have e1 : lo.elim 0 (clipAt l.length) = 0 := by lia
    have e2 : hi.elim l.length (clipAt l.length) = l.length := Nat.le_antisymm h1 (Nat.le_trans (Nat.le_of_eq h.symm) (Nat.sub_le _ _))
    rw [e1, e2]; simp
theorem slc_le {α : Type} (lo hi : Option Int) (l : List α) : (slc lo hi l).length ≤ l.length := by
  rw [slc_len]
  have h1 : hi.elim l.length (clipAt l.length) ≤ l.length := by cases hi; exact Nat.le_refl _; exact clipAt_le _ _
  lia
theorem VRels.slc {F : FM} {l : List PV} {vs : List Value} (h : VRels F l vs) (lo hi : Option Int) : VRels F (slc lo hi l) (slc lo hi vs) := by
  unfold Mine.slc
  rw [h.length]
  exact VRels.take (VRels.drop h)
section
variable {W : Wd} {k : Nat} {σ : Sig} {env : Env} {P : FM → Prop} {x y : List Nat}
theorem E_List {elts : List Expr} {pos : Pos} {K : PV → Sig → Prop} (h : EL W k env pos elts σ fun ps σ' => ps.length ≤ 1000000 ∧ K (.lst ps) σ') : E W k env (.List elts pos) σ K := fun A hA s hs hP =>
  wpAny_List (wpAny_mono (h A hA s hs hP) (fun vs s₁ hpat => by
    obtain ⟨ps, σ', a1, a2, a3, a4, a5⟩ := hpat
    have hl := a3.length
    have F1 := fle_push (σ := σ') (h := s₁.heap) (o := listOf vs.toArray 0)
    exact ⟨by rw [sizeLine_eq, hl]; exact Nat.le_trans (by assumption) (by decide), .lst ps, σ', a1.push _, a2.trans F1, ⟨_, vs.toArray, 0, rfl, ⟨a1.fresh _ (Nat.le_refl _), Heap.get?_push_size _ rfl, by intro z; cases z⟩, by
      show VRels _ _ (vs.toArray.toList)
      exact a3.mono F1⟩, a5⟩) fun _ _ x => x)
theorem E_ListM {elts : List Expr} {pos : Pos} {K : PV → Sig → Prop} (h : EL W k env pos elts σ fun ps σ' => ps.length ≤ 1000000 ∧ ∀ a, Fresh σ' a → K (.ref a) (σ'.upd a (.list ps))) : E W k env (.List elts pos) σ K := fun A hA s hs hP =>
  wpAny_List (wpAny_mono (h A hA s hs hP) (fun vs s₁ hpat => by
    obtain ⟨ps, σ', a1, a2, a3, a4, a5⟩ := hpat
    have hl := a3.length
    have F1 := fle_push_upd (σ := σ') (h := s₁.heap) (o := listOf vs.toArray 0) (ao := .list ps)
    exact ⟨by rw [sizeLine_eq, hl]; exact Nat.le_trans (by assumption) (by decide), .ref s₁.heap.objs.size, _, a1.pushUpd _ (.list ps) ⟨vs.toArray, 0, Heap.get?_push_size _ rfl, by
      show VRels _ _ (vs.toArray.toList)
      exact a3.mono F1⟩, a2.trans F1, (Eq.refl _ : Value.ref _ = Value.ref _), a5 _ a1.fresh⟩) fun _ _ x => x)
theorem E_Tuple {elts : List Expr} {n : Nat} {pos : Pos} {K : PV → Sig → Prop} (h : EL W k env pos elts σ fun ps σ' => ps.length ≤ 1000000 ∧ K (.tup ps) σ') : E W k env (.Tuple elts n pos) σ K := fun A hA s hs hP =>
  wpAny_Tuple (wpAny_mono (h A hA s hs hP) (fun vs s₁ hpat => by
    obtain ⟨ps, σ', a1, a2, a3, a4, a5⟩ := hpat
    have hl := a3.length
    have F1 := fle_push (σ := σ') (h := s₁.heap) (o := tupleObj vs.toArray 0)
    exact ⟨by rw [sizeLine_eq, hl]; exact Nat.le_trans (by assumption) (by decide), .tup ps, σ', a1.push _, a2.trans F1, ⟨_, vs.toArray, 0, rfl, ⟨a1.fresh _ (Nat.le_refl _), Heap.get?_push_size _ rfl, by intro z; cases z⟩, by
      show VRels _ _ (vs.toArray.toList)
      exact a3.mono F1⟩, a5⟩) fun _ _ x => x)
theorem G.freeze {α : Type} {t : Sem α} {R : FM → PV → α → Prop} {K : PV → Sig → Prop} {t : Sem Value}
    (h : G W k P VRel t σ fun p σ' => ∃ a l, p = .ref a ∧ σ' a = some (.list l) ∧ K (.lst l) (σ'.del a)) : G W k P VRel t σ K := fun A hA s hs hP =>
  wpAny_mono (h A hA s hs hP) (fun v s₁ hpat => by
    obtain ⟨p, σ', a1, a2, a3, a, l, e1, e2, e3⟩ := hpat
    subst e1
    obtain rfl : v = .ref a := a3
    have hsub : Sub (σ'.del a) σ' := by
      refine ⟨fun b o e => ?_, fun b C d fs n e => ?_⟩
      · unfold Sig.del at e; split at e
        · cases e
        · exact e
      · unfold Sig.del at e; split at e
        · cases e
        · have hd := (a1.dict_there e).1
          have : d ≠ a := fun z => by rw [z, e2] at hd; cases hd
          unfold Sig.del; rw [if_neg this]; exact hd
    obtain ⟨vs, n, ho, r⟩ := a1.hr _ _ e2
    exact ⟨.lst l, _, a1.sub hsub, a2.trans (fle_sub hsub), ⟨a, vs, n, rfl, ⟨if_pos rfl, ho, by intro z; cases z⟩, r.mono (fle_sub hsub)⟩, e3⟩) fun _ _ x => x
noncomputable def Sbs (W : Wd) (q : PV) (σ : Sig) : Prop := ∀ s, St W σ s → ∀ v, VRel (FrOf σ s) q v → ∃ T id, typeLookup (.type T) "__getitem__" = pure (some (.builtin id)) ∧ s.TypeIs v T
theorem Sbs.str : Sbs W (.str x) σ := fun s S v hpat => by obtain ⟨t, e⟩ := hpat; exact ⟨"str", _, F.slot_str_getitem.lookup, e ▸ typeIs_str _ _ _⟩
theorem Sbs.lst {l : List PV} : Sbs W (.lst l) σ := fun s S v hpat => by obtain ⟨a, vs, n, e, f, r⟩ := hpat; exact ⟨"list", _, slot_list_getitem.lookup, e ▸ ⟨_, f.2.1, rfl⟩⟩
theorem Sbs.ref {a : Addr} {l : List PV} (h : σ a = some (.list l)) : Sbs W (.ref a) σ := fun s S v e => by
  obtain rfl : v = .ref a := e
  obtain ⟨vs, n, ho, _⟩ := S.hr _ _ h
  exact ⟨"list", _, slot_list_getitem.lookup, ⟨_, ho, rfl⟩⟩
theorem E_Sub {value slice : Expr} {pos : Pos} {K : PV → Sig → Prop} (h : E W k env value σ fun q σ₁ => E W k env slice σ₁ fun i σ₂ => Sbs W q σ₂ ∧ O2 W k VRel getItem q i σ₂ K)
    (hs : ∀ o i, subscripted slice false o i = operate [o, i] (getItem o i) := by intro _ _; rfl) : E W k env (.Subscript value slice pos) σ K := fun A hA s hs' hP => by
  show wpAny _ A (eval _ env) _ _ s
  rw [eval_Subscript]
  refine wpAny_bind (G.use h A hA s hs' hP (fun o s₁ q σ₁ a1 a2 a3 a4 => wpAny_bind (wpAny_holding (wpAny_mono (a4 A hA s₁ a1 trivial) (fun i s₂ ⟨p, σ₂, b1, b2, b3, b4, b5⟩ => wpAny_bind (wpAny_standAt ?_)) fun _ _ x => x)))
    fun _ _ x => x)
  obtain ⟨T, id, hl, hT⟩ := b4 s₂ b1 o (a3.mono b2)
  rw [getitemInPython_of_ne hT.not_modules]
  have fin : wpAny (model W.prog W.w) A (operate [o, i] (getItem o i)) (fun r s₃ => wpAny (model W.prog W.w) A (letTemporaryGo value o r >>= fun _ => Pure.pure r) (fun v s' => ∃ b σ', St W σ' s' ∧ FLe (FrOf σ s) (FrOf σ' s') ∧ VRel (FrOf σ' s') b v ∧ K b σ') (fun _ _ => False) s₃) (fun _ _ => False) s₂ :=
    wpAny_operating (G.use (b5 o i) A hA s₂ b1 ⟨a3.mono b2, b3⟩ (fun r s₃ z σ₃ c1 c2 c3 c4 => wpAny_bind (wpAny_letTemporaryGo (wpAny_pure ⟨z, σ₃, c1, (a2.trans b2).trans c2, c3, c4⟩))) fun _ _ x => x)
  refine wpAny_bind (wpAny_bind (wpAny_specialOf hT hl ?_))
  refine wpAny_pure ?_
  rw [hs]
  exact wpAny_bind fin
theorem get_lst {l : List PV} {i : Int} {p : PV} {K : PV → Sig → Prop} (h0 : 0 ≤ i) (h1 : i < 2 ^ 63) (hp : l[i.toNat]? = some p) (h : K p σ) : O2 W k VRel getItem (.lst l) (.int i) σ K := fun va vb => .id h fun A hA s hs hpat Q q => by
  obtain ⟨hP, hi⟩ := hpat
  obtain ⟨a, vs, n, rfl, f, r⟩ := hP
  obtain ⟨t, rfl⟩ := hi
  obtain ⟨v, hv, rv⟩ := vrels_at r hp
  exact wpAny_getItem_list (isList_of f.2.1) h0 h1 hv (q _ _ rfl rfl rfl rv)
theorem get_ref {a : Addr} {l : List PV} {i : Int} {p : PV} {K : PV → Sig → Prop} (hσ : σ a = some (.list l)) (h0 : 0 ≤ i) (h1 : i < 2 ^ 63) (hp : l[i.toNat]? = some p) (h : K p σ) : O2 W k VRel getItem (.ref a) (.int i) σ K := fun va vb => .id h fun A hA s hs hpat Q q => by
  obtain ⟨hP, hi⟩ := hpat
  obtain rfl : va = .ref a := hP
  obtain ⟨vs, n, f, r⟩ := hs.hr _ _ hσ
  obtain ⟨t, rfl⟩ := hi
  obtain ⟨v, hv, rv⟩ := vrels_at r hp
  exact wpAny_getItem_list (isList_of f) h0 h1 hv (q _ _ rfl rfl rfl rv)
theorem get_str {i : Int} {c : Nat} {K : PV → Sig → Prop} (h0 : 0 ≤ i) (h1 : i < 2 ^ 63) (hp : x[i.toNat]? = some c) (h : K (.str [c]) σ) : O2 W k VRel getItem (.str x) (.int i) σ K := fun va vb => .id h fun A hA s hs hpat Q q => by
  obtain ⟨hP, hi⟩ := hpat
  obtain ⟨t, rfl⟩ := hP
  obtain ⟨u, rfl⟩ := hi
  have hlt : i.toNat < x.length := by
    rcases Nat.lt_or_ge i.toNat x.length with q | q
    · exact q
    · rw [List.getElem?_eq_none q] at hp; cases hp
  refine P.getItem_str (c := c) ?_ ?_ (q _ _ rfl rfl rfl ⟨s.toks, rfl⟩)
  · simp; lia
  · rw [str_len]
    have : seqIndex? i x.length = some i.toNat := by
      unfold seqIndex?
      simp [h0]
      lia
    rw [this]
    show x.toArray[i.toNat]? = _
    rw [List.getElem?_toArray]; exact hp
end
end Mine
end
section
set_option tactic.hygienic false
set_option hygiene false
namespace Mine
noncomputable def SLe (h h' : Heap) : Prop := ∀ a o, h.get? a = some o → h'.get? a = some o
theorem fle_grow {σ : Sig} {h h' : Heap} (hk : SLe h h') : FLe (Fz σ h) (Fz σ h') := fun a o hpat => by obtain ⟨e1, e2, e3⟩ := hpat; exact ⟨e1, hk a o e2, e3⟩
theorem St.grow {W : Wd} {σ : Sig} {s : Shared} (S : St W σ s) (T : Top W) {h' : Heap} (hk : SLe s.heap h') {tk : Nat} : St W σ { s with heap := h', toks := tk } := by
  have keep : ∀ a, (∃ o, s.heap.get? a = some o) → h'.get? a = s.heap.get? a := fun a ⟨o, e⟩ => by rw [e]; exact hk a o e
  refine ⟨fun a ao e => (S.hr a ao e).keep (fle_grow hk) (keep a (S.hr a ao e).there) fun C d fs n z => ⟨keep d (S.dict_there (z ▸ e)).2, rfl⟩, S.old.step_keeps fun b o' e => hk b o' e, S.above, ?_, ?_, S.os, S.gens, S.tab.keep (fun a o _ => fle_grow hk a o) (keep _ S.tab.there)⟩
  · obtain ⟨o', ho'⟩ := T.last
    obtain ⟨o'', ho''⟩ := S.old.there _ _ ho'
    have h1 : (W.h₁.objs.size - 1 : Nat) < h'.objs.size := Heap.lt_size (hk _ _ ho'')
    have h2 : (W.h₁.objs.size - 1 : Nat) < W.h₁.objs.size := Heap.lt_size ho'
    show W.h₁.objs.size ≤ h'.objs.size
    lia
  · obtain ⟨mc, hn, r⟩ := S.lim
    obtain ⟨o, es, ep, ho, q⟩ := hn
    exact ⟨mc, ⟨o, es, ep, hk _ _ ho, q⟩, r⟩
theorem G.grow {W : Wd} {k : Nat} {σ : Sig} {P : FM → Prop} {α β : Type} {R : FM → β → α → Prop} {t : Sem α} {K : β → Sig → Prop} {b : β} (T : Top W) (hK : K b σ)
    (h : ∀ A, Room A k → ∀ s, St W σ s → P (FrOf σ s) → ∀ Q : α → Shared → Prop, (∀ v h' tk, SLe s.heap h' → R (Fz σ h') b v → Q v { s with heap := h', toks := tk }) → wpAny (model W.prog W.w) A t Q (fun _ _ => False) s) : G W k P R t σ K :=
  fun A hA s hs hP => h A hA s hs hP _ fun v h' tk hk r => ⟨b, σ, hs.grow T hk, fle_grow hk, r, hK⟩
theorem sle_push {h : Heap} {o : Obj} : SLe h (h.push o) := fun a o' e => Heap.get?_push_of_some _ e
theorem SLe.trans {h h' h'' : Heap} (x : SLe h h') (y : SLe h' h'') : SLe h h'' := fun a o e => y a o (x a o e)
theorem fz_new {W : Wd} {σ : Sig} {s : Shared} (S : St W σ s) {o : Obj} (hc : o.cls ≠ .none) (hf : o.isFreed = false := by rfl) : Fz σ (s.heap.push o) s.heap.objs.size o := ⟨S.fresh _ (Nat.le_refl _), Heap.get?_push_size _ hf, hc⟩
mutual
noncomputable def pd : PV → PyData
  | .bool b => .bool b
  | .int i => .int i
  | .str x => .str ⟨x.toArray⟩
  | .tup l => .tuple (pds l)
  | .lst l => .list (pds l)
  | _ => .none
noncomputable def pds : List PV → List PyData
  | [] => []
  | p :: l => pd p :: pds l
end
mutual
noncomputable def plain : PV → Bool
  | .none | .bool _ | .int _ => true
  | .str x => x.all (· < 1114112)
  | .tup l | .lst l => plains l
  | _ => false
noncomputable def plains : List PV → Bool
  | [] => true
  | p :: l => plain p && plains l
end
theorem no_plain {q : Prop} (h : false = true) : q := absurd h Bool.false_ne_true
mutual
theorem reads_of {σ : Sig} {h : Heap} : ∀ (p : PV) (v : Value), plain p = true → VRel (Fz σ h) p v → ∃ as, Reads h v (pd p) as
  | .none, _, _, e => by rw [show _ = Value.none from e]; exact ⟨_, .none⟩
  | .bool b, _, _, e => by rw [show _ = Value.bool b from e]; exact ⟨_, .bool b⟩
  | .int i, _, _, e => by
    obtain ⟨t, e⟩ := e
    rw [e]; exact ⟨_, .int i t⟩
  | .str x, _, _, e => by
    obtain ⟨t, e⟩ := e
    rw [e]; exact ⟨_, .str _ t⟩
  | .tup l, _, hp, e => by
    obtain ⟨a, vs, n, e, f, r⟩ := e
    rw [e]
    obtain ⟨as, q⟩ := readsAll_of l _ hp r
    exact ⟨_, .tuple f.2.1 rfl rfl q⟩
  | .lst l, _, hp, e => by
    obtain ⟨a, vs, n, e, f, r⟩ := e
    rw [e]
    obtain ⟨as, q⟩ := readsAll_of l _ hp r
    exact ⟨_, .list f.2.1 rfl rfl q⟩
  | .ref _, _, hp, _ => no_plain hp
  | .blt _, _, hp, _ => no_plain hp
  | .typ _, _, hp, _ => no_plain hp
  | .fin _ _, _, hp, _ => no_plain hp
  | .clo .., _, hp, _ => no_plain hp
  | .rng _ _, _, hp, _ => no_plain hp
  | .bm _ _, _, hp, _ => no_plain hp
  | .dct _ _, _, hp, _ => no_plain hp
  | .dit _ _, _, hp, _ => no_plain hp
theorem readsAll_of {σ : Sig} {h : Heap} : ∀ (p : List PV) (vs : List Value), plains p = true → VRels (Fz σ h) p vs → ∃ as, ReadsAll h vs (pds p) as
  | [], _, _, e => by rw [show _ = [] from e]; exact ⟨_, .nil⟩
  | p :: l, _, hp, e => by
    obtain ⟨v, ws, e, a, b⟩ := e
    rw [e]
    have hp := (Bool.and_eq_true _ _).mp hp
    obtain ⟨as, q⟩ := reads_of p _ hp.1 a
    obtain ⟨bs, q'⟩ := readsAll_of l _ hp.2 b
    exact ⟨_, .cons q q'⟩
end
mutual
theorem canLay_pd : ∀ (p : PV), plain p = true → (pd p).canLay0 = true
  | .none, _ => rfl
  | .bool _, _ => rfl
  | .int _, _ => rfl
  | .str x, h => by
    replace h : x.all (· < 1114112) = true := h
    show PyData.strOk _ = true
    unfold PyData.strOk
    rw [← Array.all_toList]
    exact h
  | .tup l, h => canLayAll_pds l h
  | .lst l, h => canLayAll_pds l h
  | .ref _, hp => no_plain hp
  | .blt _, hp => no_plain hp
  | .typ _, hp => no_plain hp
  | .fin _ _, hp => no_plain hp
  | .clo .., hp => no_plain hp
  | .rng _ _, hp => no_plain hp
  | .bm _ _, hp => no_plain hp
  | .dct _ _, hp => no_plain hp
  | .dit _ _, hp => no_plain hp
theorem canLayAll_pds : ∀ (p : List PV), plains p = true → PyData.canLayAll0 (pds p) = true
  | [], _ => rfl
  | p :: l, h => by
    have h := (Bool.and_eq_true _ _).mp h
    exact (Bool.and_eq_true _ _).mpr ⟨canLay_pd p h.1, canLayAll_pds l h.2⟩
end
section
variable {W : Wd} {k : Nat} {σ : Sig} {env : Env} {P : FM → Prop} {x y : List Nat}
theorem Room.units {A : Around} {k : Nat} (h : Room A k) : A.units + 64 < cLine := by have := h.2.2; show A.units + 64 < 9900; lia
theorem eq_dd {p q : PV} {K : PV → Sig → Prop} (hp : plain p = true) (hq : plain q = true) (dp : (pd p).depth ≤ 64) (dq : (pd q).depth ≤ 64) (h : K (.bool (PyData.eqv (pd p) (pd q))) σ) : O2 W k VRel (compareOp .Eq) p q σ K := fun va vb => .id h fun A hA s hs hpat Q q' => by
  obtain ⟨h1, h2⟩ := hpat
  obtain ⟨as, ra⟩ := reads_of _ _ hp h1
  obtain ⟨bs, rb⟩ := reads_of _ _ hq h2
  exact SeqAt.compareEq_shaped ra rb (by unfold SeqAt.shaped; rw [canLay_pd _ hp, decide_eq_true dp]; rfl) (by unfold SeqAt.shaped; rw [canLay_pd _ hq, decide_eq_true dq]; rfl) hA.units (q' _ _ rfl rfl rfl (Eq.refl _ : Value.bool _ = Value.bool _))
theorem ne_dd {p q : PV} {K : PV → Sig → Prop} (hp : plain p = true) (hq : plain q = true) (dp : (pd p).depth ≤ 64) (dq : (pd q).depth ≤ 64) (h : K (.bool (!PyData.eqv (pd p) (pd q))) σ) : O2 W k VRel (compareOp .NotEq) p q σ K := fun va vb => .id h fun A hA s hs hpat Q q' => by
  obtain ⟨h1, h2⟩ := hpat
  obtain ⟨as, ra⟩ := reads_of _ _ hp h1
  obtain ⟨bs, rb⟩ := reads_of _ _ hq h2
  exact SeqAt.compareNe_shaped ra rb (by unfold SeqAt.shaped; rw [canLay_pd _ hp, decide_eq_true dp]; rfl) (by unfold SeqAt.shaped; rw [canLay_pd _ hq, decide_eq_true dq]; rfl) hA.units (q' _ _ rfl rfl rfl (Eq.refl _ : Value.bool _ = Value.bool _))
theorem eq_same {p : PV} {K : PV → Sig → Prop} (hp : plain p = true) (dp : (pd p).depth ≤ 64) (h : K (.bool true) σ) : O2 W k VRel (compareOp .Eq) p p σ K := eq_dd hp hp dp dp (by rw [SeqAt.eqv_refl _ (canLay_pd _ hp)]; exact h)
theorem ne_same {p : PV} {K : PV → Sig → Prop} (hp : plain p = true) (dp : (pd p).depth ≤ 64) (h : K (.bool false) σ) : O2 W k VRel (compareOp .NotEq) p p σ K := ne_dd hp hp dp dp (by rw [SeqAt.eqv_refl _ (canLay_pd _ hp)]; exact h)
theorem add_ll (T : Top W) {l m : List PV} {K : PV → Sig → Prop} (hz : l.length + m.length ≤ 1000000) (h : K (.lst (l ++ m)) σ) : O2 W k VRel (binaryOp .Add) (.lst l) (.lst m) σ K := fun va vb => .grow T h fun A hA s hs hpat Q q => by
  obtain ⟨h1, h2⟩ := hpat
  obtain ⟨a, vs, n, rfl, f, r⟩ := h1
  obtain ⟨b, ws, n', rfl, f', r'⟩ := h2
  have hl := r.length
  have hl' := r'.length
  refine concat_meets ⟨_, f.2.1, rfl⟩ ⟨_, f'.2.1, rfl⟩ noFill_list_add seq_list_add PySem.F.slot_list_add PySem.F.entry_list_add (PySem.F.args_list_add_2 _ _) (list_addW a b vs ws n n' Option.none Option.none #[] #[] (by
    rw [sizeLine_eq]; rw [Array.length_toList] at hl hl'; lia)) ⟨f.2.1, f'.2.1, q _ _ _ sle_push ⟨_, vs ++ ws, 0, rfl, fz_new hs (by intro z; cases z), ?_⟩⟩
  rw [Array.toList_append]
  exact (r.mono (fle_grow sle_push)).append (r'.mono (fle_grow sle_push))
theorem truthy_int {a : Int} {K : Bool → Sig → Prop} (h : K (a != 0) σ) : O1 W k REq truthy (.int a) σ K := fun v => .id h fun A hA s hs hpat Q q => by
  obtain ⟨t, e⟩ := hpat
  subst e; exact PySem.P.truthy_int (q _ _ rfl rfl rfl rfl)
theorem truthy_none {K : Bool → Sig → Prop} (h : K false σ) : O1 W k REq truthy .none σ K := fun v => .id h fun A hA s hs e Q q => by
  obtain rfl : v = .none := e; exact PyProof.Rows.truthy_none (q _ _ rfl rfl rfl rfl)
theorem truthy_ref {a : Addr} {l : List PV} (hσ : σ a = some (.list l)) (hz : l.length ≤ 1000000) {K : Bool → Sig → Prop} (h : K (!l.isEmpty) σ) : O1 W k REq truthy (.ref a) σ K := fun v => .id h fun A hA s hs e Q q => by
  obtain rfl : v = .ref a := e
  obtain ⟨vs, n, f, r⟩ := hs.hr _ _ hσ
  have hl := r.length
  rw [Array.length_toList] at hl
  refine wpAny_truthy_list (isList_of f) (by lia) (q _ _ rfl rfl rfl ?_)
  show _ = _
  congr 1
  rw [Bool.eq_iff_iff]
  simp only [Array.isEmpty_iff_size_eq_zero, List.isEmpty_iff_length_eq_zero, hl]
theorem isnot_none_str {K : PV → Sig → Prop} (h : K (.bool true) σ) : O2 W k VRel (compareOp .IsNot) (.str x) .none σ K := fun va vb => .id h fun A hA s hs hpat Q q => by
  obtain ⟨⟨t, e⟩, e'⟩ := hpat
  obtain rfl : vb = .none := e'
  subst e; exact wpAny_isNot_plain rfl (q _ _ rfl rfl rfl (Eq.refl _ : Value.bool _ = Value.bool _))
theorem isnot_none_none {K : PV → Sig → Prop} (h : K (.bool false) σ) : O2 W k VRel (compareOp .IsNot) .none .none σ K := fun va vb => .id h fun A hA s hs hpat Q q => by
  obtain ⟨e, e'⟩ := hpat
  obtain rfl : vb = .none := e'
  obtain rfl : va = .none := e; exact wpAny_isNot_plain rfl (q _ _ rfl rfl rfl (Eq.refl _ : Value.bool _ = Value.bool _))
theorem is_none_none {K : PV → Sig → Prop} (h : K (.bool true) σ) : O2 W k VRel (compareOp .Is) .none .none σ K := fun va vb => .id h fun A hA s hs hpat Q q => by
  obtain ⟨e, e'⟩ := hpat
  obtain rfl : vb = .none := e'
  obtain rfl : va = .none := e; exact wpAny_is_plain rfl (q _ _ rfl rfl rfl (Eq.refl _ : Value.bool _ = Value.bool _))
theorem is_bb {b c : Bool} {K : PV → Sig → Prop} (h : K (.bool (b == c)) σ) : O2 W k VRel (compareOp .Is) (.bool b) (.bool c) σ K := fun va vb => .id h fun A hA s hs hpat Q q => by
  obtain ⟨e, e'⟩ := hpat
  obtain rfl : vb = .bool c := e'
  obtain rfl : va = .bool b := e
  exact wpAny_is_plain rfl (q _ _ rfl rfl rfl (show Value.bool _ = Value.bool _ by cases b <;> cases c <;> rfl))
end
end Mine
end
section
set_option tactic.hygienic false
set_option hygiene false
set_option maxRecDepth 100000
namespace Mine
noncomputable def jn (sep : List Nat) : List (List Nat) → List Nat
  | [] => []
  | [x] => x
  | x :: y :: r => x ++ sep ++ jn sep (y :: r)
noncomputable def st (x : List Nat) : Str := ⟨x.toArray⟩
theorem st_app (x y : List Nat) : st x ++ st y = st (x ++ y) := str_app x y
theorem join_st (sep : List Nat) : ∀ l : List (List Nat), Txt.join (st sep) (l.map st) = st (jn sep l) := by
  intro l
  show Builtin.Str.glued (st sep) (l.map st) = _
  rw [StrLaws.glued_eq_join]
  match l with
  | [] => rfl
  | [x] => rfl
  | x :: y :: r =>
    show st x ++ st sep ++ Str.join (st sep) ((y :: r).map st) = _
    have := join_st sep (y :: r)
    rw [show Txt.join (st sep) ((y :: r).map st) = Builtin.Str.glued (st sep) ((y :: r).map st) from rfl, StrLaws.glued_eq_join] at this
    rw [this, st_app, st_app]
    rfl
noncomputable def stsL (l : List (List Nat)) : List PV := l.map .str
theorem strs_vals {F : FM} : ∀ {l : List (List Nat)} {vs : List Value}, VRels F (stsL l) vs → ∃ ts : List (Str × Tok), vs = strValues ts ∧ ts.map (·.1) = l.map st
  | [], _, h => ⟨[], by rw [show _ = [] from h]; rfl, rfl⟩
  | x :: l, _, h => by
    obtain ⟨v, ws, rfl, ⟨t, rfl⟩, r⟩ := h
    obtain ⟨ts, e1, e2⟩ := strs_vals (l := l) r
    exact ⟨(st x, t) :: ts, by rw [e1]; rfl, by rw [List.map_cons, e2]; rfl⟩
noncomputable def lens (sep : List Nat) (l : List (List Nat)) : Nat := l.foldl (fun n x => n + x.length + sep.length) 0
theorem lens_foldl (sep : List Nat) : ∀ (l : List (List Nat)) (n : Nat), (l.map st).foldl (fun n x => n + x.length + (st sep).length) n = l.foldl (fun n x => n + x.length + sep.length) n
  | [], _ => rfl
  | x :: l, n => by
    rw [List.map_cons, List.foldl_cons, List.foldl_cons, lens_foldl sep l]
    rw [show (st x).length = x.length from str_len x, show (st sep).length = sep.length from str_len sep]
theorem joinOk_st (sep : List Nat) (l : List (List Nat)) (h : lens sep l ≤ 16000000) : JoinOk (st sep) (l.map st) = true := by
  unfold JoinOk Builtin.Str.tooLong
  rw [List.foldl_toArray, lens_foldl]
  unfold lens at h
  rw [sizeLine_eq]
  simp; exact Nat.le_trans (by assumption) (by decide)
theorem strs_of_values {F : FM} {l : List (List Nat)} {ts : List (Str × Tok)} (h : ts.map (·.1) = l.map st) : VRels F (stsL l) (strValues ts) := by
  induction l generalizing ts with
  | nil => cases ts with
    | nil => rfl
    | cons _ _ => cases h
  | cons x l ih => cases ts with
    | nil => cases h
    | cons p ts =>
      rw [List.map_cons, List.map_cons] at h
      injection h with h1 h2
      exact ⟨_, _, rfl, ⟨p.2, by show Value.str p.1 p.2 = _; rw [h1]; rfl⟩, ih h2⟩
section
variable {W : Wd} {k : Nat} {σ : Sig} {env : Env} {P : FM → Prop} {x y : List Nat} {K : PV → Sig → Prop}
theorem C1 {f a : PV} (h : ∀ v va, G W k (fun F => VRel F f v ∧ VRel F a va) VRel (call v [va]) σ K) : C W k f [a] [] [] σ K := fun v vs ws A hA s hs hpat => by
  obtain ⟨h1, ⟨va, r, e, h2, h3⟩, _⟩ := hpat
  subst e
  obtain rfl : r = [] := h3
  exact h v va A hA s hs ⟨h1, h2⟩
theorem C2 {f a b : PV} (h : ∀ v va vb, G W k (fun F => VRel F f v ∧ VRel F a va ∧ VRel F b vb) VRel (call v [va, vb]) σ K) : C W k f [a, b] [] [] σ K := fun v vs ws A hA s hs hpat => by
  obtain ⟨h1, ⟨va, r, e, h2, vb, r', e', h3, h4⟩, _⟩ := hpat
  subst e e'
  obtain rfl : r' = [] := h4
  exact h v va vb A hA s hs ⟨h1, h2, h3⟩
theorem GM_str {name : Str} {id : String} {K : PV × List PV → Sig → Prop} (slot : Slot "str" name id) (ty : typeOf (.builtin id) = pure (.type "method_descriptor")) (h : K (.blt id, [.str x]) σ) : GM W k name (.str x) σ K := fun v pl => .id h fun A hA s hs hpat Q q => by
  obtain ⟨t, e⟩ := hpat
  subst e
  exact getMethod_builtin (typeIs_str _ _ _) PySem.F.plainAttrs_str slot ty (fun a e => nomatch e) (q _ _ rfl rfl rfl ⟨(Eq.refl _ : Value.builtin id = Value.builtin id), VRels.one ⟨t, rfl⟩⟩)
theorem GM_ref {a : Addr} {l : List PV} {name : Str} {id : String} {K : PV × List PV → Sig → Prop} (hσ : σ a = some (.list l)) (slot : Slot "list" name id) (ty : typeOf (.builtin id) = pure (.type "method_descriptor")) (h : K (.blt id, [.ref a]) σ) : GM W k name (.ref a) σ K := fun v pl => .id h fun A hA s hs e Q q => by
  obtain rfl : v = .ref a := e
  obtain ⟨vs, n, f, r⟩ := hs.hr _ _ hσ
  exact getMethod_builtin ⟨_, f, rfl⟩ PySem.F.plainAttrs_list slot ty (fun b e => by cases e; exact ⟨_, f, rfl⟩) (q _ _ rfl rfl rfl ⟨(Eq.refl _ : Value.builtin id = Value.builtin id), VRels.one (Eq.refl _ : Value.ref a = Value.ref a)⟩)
theorem C_join {l : List (List Nat)} (hz : lens x l ≤ 16000000) (h : K (.str (jn x l)) σ) : C W k (.blt "str.join") [.str x, .lst (stsL l)] [] [] σ K := C2 fun v va vb => .id h fun A hA s hs hpat Q q => by
  obtain ⟨e, ⟨t, e1⟩, a, vs, n, e2, f, r⟩ := hpat
  obtain rfl : v = .builtin "str.join" := e
  subst e1 e2
  obtain ⟨ts, e3, e4⟩ := strs_vals r
  have hv : vs = (strValues ts).toArray := by rw [← e3, Array.toArray_toList]
  subst hv
  exact SC.join (x := st x) (isList_of f.2.1) e4 (joinOk_st x l hz) fun t' k' => q _ _ rfl rfl rfl ⟨t', by rw [join_st]; rfl⟩
theorem C_append (T : Top W) {a : Addr} {l : List PV} {p : PV} (hσ : σ a = some (.list l)) (hz : l.length ≤ 1000000) (h : K .none (σ.upd a (.list (l ++ [p])))) : C W k (.blt "list.append") [.ref a, p] [] [] σ K := C2 fun v va vb A hA s hs hpat => by
  obtain ⟨e, e1, e2⟩ := hpat
  obtain rfl : v = .builtin "list.append" := e
  obtain rfl : va = .ref a := e1
  exact list_append_G T hσ hz h vb A hA s hs e2
theorem C_pop0 (T : Top W) {a : Addr} {l : List PV} {p : PV} (hσ : σ a = some (.list (p :: l))) (hz : l.length ≤ 1000000) (h : K p (σ.upd a (.list l))) : C W k (.blt "list.pop") [.ref a, .int 0] [] [] σ K := C2 fun v va vb A hA s hs hpat => by
  obtain ⟨e, e1, ⟨t, e2⟩⟩ := hpat
  obtain rfl : v = .builtin "list.pop" := e
  obtain rfl : va = .ref a := e1
  subst e2
  obtain ⟨vs, n, ho, y, ws, e3, ry, rw⟩ := hs.hr _ _ hσ
  have hne : σ a ≠ none := by rw [hσ]; simp
  have hl := rw.length
  have hvs : vs = (y :: ws).toArray := by rw [← e3, Array.toArray_toList]
  subst hvs
  have hsb := Heap.SameBut.update s.heap a (Obj.mapSeq fun xs => xs.eraseIdxIfInBounds 0)
  have F1 : FLe (Fz σ s.heap) (Fz (σ.upd a (.list l)) (s.heap.update a (Obj.mapSeq fun xs => xs.eraseIdxIfInBounds 0))) := fle_upd hne hsb
  have he : (y :: ws).toArray.eraseIdxIfInBounds 0 = ws.toArray := by
    unfold Array.eraseIdxIfInBounds
    rw [dif_pos (by simp)]
    apply Array.toList_inj.mp
    rw [Array.toList_eraseIdx]; rfl
  have hms : ∃ n', Obj.mapSeq (fun xs => xs.eraseIdxIfInBounds 0) (listOf (y :: ws).toArray n) = listOf ws.toArray n' := ⟨_, by simp only [Obj.mapSeq, he]; rfl⟩
  obtain ⟨n', hms⟩ := hms
  have hg : (s.heap.update a (Obj.mapSeq fun xs => xs.eraseIdxIfInBounds 0)).get? a = some (listOf ws.toArray n') := by
    rw [Heap.get?_update_self _ ho (by rw [hms]; rfl), hms]
  refine call_meets PySem.F.slot_list_pop ⟨_, ho, rfl⟩ PySem.F.entry_list_pop (PySem.F.args_list_pop_2 _ _) (PySem.MeetsSeq.list_pop_at a _ n 0 t 0 y rfl ?_ rfl ?_) ⟨ho, p, _, ?_, F1, ry.mono F1, h⟩
  · unfold seqIndex?; simp
  · rw [List.size_toArray, List.length_cons, hl, sizeLine_eq]; lia
  · exact hs.update (ao := .list l) (tk := s.toks) T.lim hσ (fun b q => by cases q) hsb ⟨_, _, hg, rw.mono F1⟩
theorem C_len_str (hz : x.length ≤ 1000000) (h : K (.int x.length) σ) : C W k (.blt "len") [.str x] [] [] σ K := C1 fun v va => .id h fun A hA s hs hpat Q q => by
  obtain ⟨e, ⟨t, e1⟩⟩ := hpat
  obtain rfl : v = .builtin "len" := e
  subst e1
  exact PySem.P.len_str (by rw [str_len]; lia) (q _ _ rfl rfl rfl ⟨_, by rw [str_len]⟩)
theorem C_len_lst {l : List PV} (hz : l.length ≤ 1000000) (h : K (.int l.length) σ) : C W k (.blt "len") [.lst l] [] [] σ K := C1 fun v va => .id h fun A hA s hs hpat Q q => by
  obtain ⟨e, a, vs, n, e1, f, r⟩ := hpat
  obtain rfl : v = .builtin "len" := e
  subst e1
  have hl := r.length
  rw [Array.length_toList] at hl
  exact Calls.call_len_list (isList_of f.2.1) (by lia) (q _ _ rfl rfl rfl ⟨_, by rw [hl]⟩)
theorem C_ord {c : Nat} (h : K (.int c) σ) : C W k (.blt "ord") [.str [c]] [] [] σ K := C1 fun v va => .id h fun A hA s hs hpat Q q => by
  obtain ⟨e, ⟨t, e1⟩⟩ := hpat
  obtain rfl : v = .builtin "ord" := e
  subst e1
  exact PySem.P.ord_of_char (c := c) (t := t) (q _ _ rfl rfl rfl ⟨_, rfl⟩)
theorem C_chr {i : Int} (h0 : 0 ≤ i) (h1 : i ≤ 1114111) (h : K (.str [i.toNat]) σ) : C W k (.blt "chr") [.int i] [] [] σ K := C1 fun v va => .id h fun A hA s hs hpat Q q => by
  obtain ⟨e, ⟨t, e1⟩⟩ := hpat
  obtain rfl : v = .builtin "chr" := e
  subst e1
  exact PySem.P.chr_of_int (by simp; lia) (q _ _ rfl rfl rfl ⟨_, rfl⟩)
noncomputable def hexL (i : Int) : List Nat := (baseText "0x" 16 i).cps.toList
theorem C_hex {i : Int} (hz : (hexL i).length ≤ 1000000) (h : K (.str (hexL i)) σ) : C W k (.blt "hex") [.int i] [] [] σ K := C1 fun v va => .id h fun A hA s hs hpat Q q => by
  obtain ⟨e, ⟨t, e1⟩⟩ := hpat
  obtain rfl : v = .builtin "hex" := e
  subst e1
  refine PySem.P.hex_of_int (q _ _ rfl rfl rfl ⟨s.toks, ?_⟩) ?_
  · unfold hexL; simp
  · unfold hexL at hz; rw [Array.length_toList] at hz; rw [sizeLine_eq]; show (baseText "0x" 16 i).cps.size ≤ _; exact Nat.le_trans (by assumption) (by decide)
theorem C_range1 (T : Top W) {n : Int} (h : K (.rng 0 n) σ) : C W k (.typ "range") [.int n] [] [] σ K := C1 fun v va => .grow T h fun A hA s hs hpat Q q => by
  obtain ⟨e, ⟨t, e1⟩⟩ := hpat
  obtain rfl : v = .type "range" := e
  subst e1
  exact call_range_1 (q _ _ _ sle_push ⟨_, _, _, _, rfl, fz_new hs (by intro z; cases z)⟩)
theorem C_range2 (T : Top W) {a b : Int} (h : K (.rng a b) σ) : C W k (.typ "range") [.int a, .int b] [] [] σ K := C2 fun v va vb => .grow T h fun A hA s hs hpat Q q => by
  obtain ⟨e, ⟨t, e1⟩, u, e2⟩ := hpat
  obtain rfl : v = .type "range" := e
  subst e1 e2
  exact call_range_2 (q _ _ _ sle_push ⟨_, _, _, _, rfl, fz_new hs (by intro z; cases z)⟩)
noncomputable def upperL (x : List Nat) : List Nat := (Txt.upper (st x)).cps.toList
noncomputable def lowerL (x : List Nat) : List Nat := (Txt.lower (st x)).cps.toList
theorem C_upper (hz : x.length ≤ 5000000) (h : K (.str (upperL x)) σ) : C W k (.blt "str.upper") [.str x] [] [] σ K := C1 fun v va => .id h fun A hA s hs hpat Q q => by
  obtain ⟨e, ⟨t, e1⟩⟩ := hpat
  obtain rfl : v = .builtin "str.upper" := e
  subst e1
  exact SCL.upper (x := st x) (by rw [show (st x).length = x.length from str_len x]; exact Nat.le_trans (by assumption) (by decide)) fun _ => q _ _ rfl rfl rfl ⟨s.toks, by unfold upperL; simp⟩
theorem C_lower (hz : x.length ≤ 5000000) (h : K (.str (lowerL x)) σ) : C W k (.blt "str.lower") [.str x] [] [] σ K := C1 fun v va => .id h fun A hA s hs hpat Q q => by
  obtain ⟨e, ⟨t, e1⟩⟩ := hpat
  obtain rfl : v = .builtin "str.lower" := e
  subst e1
  exact SCL.lower (x := st x) (by rw [show (st x).length = x.length from str_len x]; exact Nat.le_trans (by assumption) (by decide)) fun _ => q _ _ rfl rfl rfl ⟨s.toks, by unfold lowerL; simp⟩
noncomputable def countL (x y : List Nat) : Int := Txt.count (st x) (st y)
theorem C_count (h : K (.int (countL x y)) σ) : C W k (.blt "str.count") [.str x, .str y] [] [] σ K := C2 fun v va vb => .id h fun A hA s hs hpat Q q => by
  obtain ⟨e, ⟨t, e1⟩, u, e2⟩ := hpat
  obtain rfl : v = .builtin "str.count" := e
  subst e1 e2
  exact SC.count (x := st x) (y := st y) (q _ _ rfl rfl rfl ⟨_, rfl⟩)
end
end Mine
end
section
set_option tactic.hygienic false
set_option hygiene false
set_option maxRecDepth 100000
namespace Mine
section
variable {W : Wd} {k : Nat} {σ : Sig} {env : Env} {P : FM → Prop} {x y : List Nat}
theorem E_USub {e : Expr} {pos : Pos} {i : Int} {K : PV → Sig → Prop} (h : E W k env e σ fun p σ₁ => p = .int i ∧ K (.int (-i)) σ₁) : E W k env (.UnaryOp .USub e pos) σ K := fun A hA s hs hP =>
  wpAny_UnaryOp (wpAny_mono (h A hA s hs hP) (fun v s₁ hpat => by
    obtain ⟨p, σ₁, a1, a2, a3, a4, a5⟩ := hpat
    subst a4
    obtain ⟨t, rfl⟩ := a3
    exact PySem.P.neg_int ⟨.int (-i), σ₁, a1.same rfl rfl rfl, a2, ⟨_, rfl⟩, a5⟩) fun _ _ x => x)
theorem T_chain {l r₁ r₂ : Expr} {op₁ op₂ : CmpOp} {pos : Pos} {K : Bool → Sig → Prop}
    (h : E W k env l σ fun a σ₁ => E W k env r₁ σ₁ fun b σ₂ => O2 W k VRel (compareOp op₁) a b σ₂ fun c σ₃ => O1 W k REq truthy c σ₃ fun t σ₄ => if t then E W k env r₂ σ₄ fun d σ₅ => O2 W k VRel (compareOp op₂) b d σ₅ fun e σ₆ => O1 W k REq truthy e σ₆ K else K false σ₄)
    (hm : lastMarks [op₁, op₂] [r₁, r₂] = false := by with_unfolding_all rfl) : T W k env (.Compare l [op₁, op₂] [r₁, r₂] pos) σ K := fun A hA s hs hP => by
  refine isTrue_chain (G.use h A hA s hs trivial (fun va s₁ a σ₁ a1 a2 a3 a4 => ?_) fun _ _ x => x) hm
  refine test_link (G.use a4 A hA s₁ a1 trivial (fun vb s₂ b σ₂ b1 b2 b3 b4 => G.use (b4 va vb) A hA s₂ b1 ⟨a3.mono b2, b3⟩ (fun vc s₃ c σ₃ c1 c2 c3 c4 =>
    G.use (c4 vc) A hA s₃ c1 c3 (fun t s₄ t' σ₄ d1 d2 d3 d4 => ?_) fun _ _ x => x) fun _ _ x => x) fun _ _ x => x)
  cases d3
  cases t with
  | false => exact ⟨false, σ₄, d1, ((a2.trans b2).trans c2).trans d2, rfl, d4⟩
  | true =>
    refine test_last (G.use d4 A hA s₄ d1 trivial (fun vd s₅ d σ₅ e1 e2 e3 e4 => G.use (e4 vb vd) A hA s₅ e1 ⟨b3.mono ((c2.trans d2).trans e2), e3⟩ (fun ve s₆ e σ₆ f1 f2 f3 f4 =>
      G.use (f4 ve) A hA s₆ f1 f3 (fun t s₇ t' σ₇ g1 g2 g3 g4 => ⟨t', σ₇, g1, ((((a2.trans b2).trans c2).trans d2).trans e2).trans (f2.trans g2), g3, g4⟩) fun _ _ x => x) fun _ _ x => x) fun _ _ x => x)
noncomputable def PRel (F : FM) (o : Option Int) (v : Value) : Prop := match o with
  | some i => ∃ t, v = .int i t
  | none => v = .none
noncomputable abbrev EP (W : Wd) (k : Nat) (env : Env) (e : Option Expr) (σ : Sig) (K : Option Int → Sig → Prop) : Prop := G W k PT PRel (evalPart e env) σ K
theorem EP_none {K : Option Int → Sig → Prop} (h : K none σ) : EP W k env none σ K := fun A hA s hs hP => wpAny_evalPart_none ⟨none, σ, hs, FLe.refl _, (Eq.refl _ : Value.none = Value.none), h⟩
theorem EP_some {e : Expr} {K : Option Int → Sig → Prop} (h : E W k env e σ fun p σ₁ => ∃ i, p = .int i ∧ K (some i) σ₁) : EP W k env (some e) σ K := fun A hA s hs hP =>
  wpAny_evalPart_some (wpAny_mono (h A hA s hs hP) (fun v s₁ hpat => by obtain ⟨p, σ₁, a1, a2, a3, i, a4, a5⟩ := hpat; subst a4; exact ⟨some i, σ₁, a1, a2, a3, a5⟩) fun _ _ x => x)
theorem prel_str {F : FM} {o : Option Int} {v : Value} (h : PRel F o v) : ∃ l : Option (Int × Tok), v = partValue l ∧ l.map (·.1) = o := by
  cases o with
  | none => exact ⟨none, h, rfl⟩
  | some i => obtain ⟨t, e⟩ := h; exact ⟨some (i, t), e, rfl⟩
theorem prel_list {F : FM} {o : Option Int} {v : Value} (h : PRel F o v) : IsPart v o := by
  cases o with
  | none => rw [show v = .none from h]; exact .none
  | some i => obtain ⟨t, e⟩ := h; rw [e]; exact .int i t
theorem E_SliceStr (T : Top W) {value : Expr} {lower upper : Option Expr} {p pos : Pos} {K : PV → Sig → Prop}
    (h : E W k env value σ fun q σ₁ => EP W k env lower σ₁ fun lo σ₂ => EP W k env upper σ₂ fun hi σ₃ => ∃ x, q = .str x ∧ x.length ≤ 1000000 ∧ K (.str (slc lo hi x)) σ₃) : E W k env (.Subscript value (.Slice lower upper none p) pos) σ K := fun A hA s hs hP => by
  show wpAny _ A (eval _ env) _ _ s
  rw [eval_Subscript]
  refine wpAny_bind (G.use h A hA s hs trivial (fun v s₁ q σ₁ a1 a2 a3 a4 => wpAny_bind (wpAny_holding (wpAny_Slice (G.use a4 A hA s₁ a1 trivial (fun vl s₂ lo σ₂ b1 b2 b3 b4 => wpAny_mono (b4 A hA s₂ b1 trivial) (fun vu s₃ hpat => ?_) fun _ _ x => x) fun _ _ x => x)))) fun _ _ x => x)
  obtain ⟨hi, σ₃, c1, c2, c3, x, c4, c5, c6⟩ := hpat
  subst c4
  obtain ⟨t, rfl⟩ := a3
  obtain ⟨l, rfl, el⟩ := prel_str b3
  obtain ⟨u, rfl, eu⟩ := prel_str c3
  rw [evalPart_none]
  refine wpAny_pure (wpAny_bind (wpAny_standAt ?_))
  have S2 := c1.grow T (h' := s₃.heap.push { cls := .type "slice", data := .fields #[partValue l, partValue u, .none] }) (tk := s₃.toks) sle_push
  have F2 : FLe (FrOf σ s) _ := ((a2.trans b2).trans c2).trans (fle_grow (σ := σ₃) (sle_push (h := s₃.heap) (o := { cls := .type "slice", data := .fields #[partValue l, partValue u, .none] })))
  have key : wpAny (model W.prog W.w) A (getItem (.str (st x) t) (.ref s₃.heap.objs.size)) (fun r s' => ∃ b σ', St W σ' s' ∧ FLe (FrOf σ s) (FrOf σ' s') ∧ VRel (FrOf σ' s') b r ∧ K b σ') (fun _ _ => False) { s₃ with heap := s₃.heap.push { cls := .type "slice", data := .fields #[partValue l, partValue u, .none] } } := by
    refine wpAny_getItem_str_slice (l := l) (u := u) (st := none) ⟨_, Heap.get?_push_size _ rfl, rfl, rfl⟩ rfl ?_
    have e : (slicePicked (st x) l u none).filterMap ((st x).cps[·]?) = slc lo hi x := by
      unfold slicePicked
      rw [el, eu, show (st x).length = x.length from str_len x]
      exact slc_str x lo hi
    have e2 : slicePicked (st x) l u none = sliceRange ((lo.elim 0 (clipAt x.length) : Nat) : Int) ((hi.elim x.length (clipAt x.length) : Nat) : Int) 1 := by
      unfold slicePicked
      rw [el, eu, show (st x).length = x.length from str_len x]
      exact strIdx _ _ _
    unfold sliceMade
    rw [e, e2, sliceRange_one]
    split
    · rename_i hw
      have hw : (slc lo hi x).length = x.length := by
        rw [slc_len]
        simpa [show (st x).length = x.length from str_len x] using hw
      rw [slc_whole hw] at c6
      exact ⟨.str x, σ₃, S2, F2, ⟨t, rfl⟩, c6⟩
    · refine ⟨?_, .str (slc lo hi x), σ₃, S2.same rfl rfl rfl, F2, ⟨_, rfl⟩, c6⟩
      have := slc_le lo hi x
      show (st (slc lo hi x)).length ≤ _
      rw [show (st (slc lo hi x)).length = (slc lo hi x).length from str_len _, sizeLine_eq]; lia
  have hT : Shared.TypeIs { s₃ with heap := s₃.heap.push { cls := .type "slice", data := .fields #[partValue l, partValue u, .none] } } (.str (st x) t) "str" := typeIs_str _ _ _
  show wpAny _ A (getitemInPython (.str (st x) t) >>= _) _ _ _
  rw [getitemInPython_of_ne hT.not_modules]
  refine wpAny_bind (wpAny_bind (wpAny_specialOf hT PySem.F.slot_str_getitem.lookup (wpAny_pure ?_)))
  show wpAny _ A (operate _ _ >>= _) _ _ _
  exact wpAny_bind (wpAny_operating (wpAny_mono key (fun r s' z => wpAny_bind (wpAny_letTemporaryGo (wpAny_pure z))) fun _ _ x => x))
theorem E_SliceLst (T : Top W) {value : Expr} {lower upper : Option Expr} {p pos : Pos} {K : PV → Sig → Prop}
    (h : E W k env value σ fun q σ₁ => EP W k env lower σ₁ fun lo σ₂ => EP W k env upper σ₂ fun hi σ₃ => ∃ x, q = .lst x ∧ x.length ≤ 1000000 ∧ K (.lst (slc lo hi x)) σ₃)
    (ht : ∀ o r, letTemporaryGo value o r = Pure.pure () := by intro _ _; rfl) : E W k env (.Subscript value (.Slice lower upper none p) pos) σ K := fun A hA s hs hP => by
  refine wpAny_Subscript_list_slice (G.use h A hA s hs hP (fun v s₁ q σ₁ a1 a2 a3 a4 => G.use a4 A hA s₁ a1 trivial (fun vl s₂ lo σ₂ b1 b2 b3 b4 => wpAny_mono (b4 A hA s₂ b1 trivial) (fun vu s₃ hpat => ?_) fun _ _ x => x) fun _ _ x => x) fun _ _ x => x) ht
  obtain ⟨hi, σ₃, c1, c2, c3, x, c4, c5, c6⟩ := hpat
  subst c4
  obtain ⟨l, vs, n, rfl, f, r⟩ := a3.mono (b2.trans c2)
  have hl := r.length
  rw [Array.length_toList] at hl
  have k1 := sle_push (h := s₃.heap) (o := { cls := .type "slice", data := .fields #[vl, vu, .none] })
  have k2 := k1.trans (sle_push (o := { cls := .type "list", data := .seq (slicePick vs lo hi none) }))
  have S1 := c1.grow T (tk := s₃.toks) k1
  refine ⟨l, vs, lo, hi, rfl, isList_of f.2.1, by rw [sizeLine_eq]; lia, prel_list b3, prel_list c3, .lst (slc lo hi x), σ₃, c1.grow T k2, ((a2.trans b2).trans c2).trans (fle_grow k2), ⟨_, slicePick vs lo hi none, 0, rfl, ?_, ?_⟩, c6⟩
  · have := fz_new S1 (o := listOf (slicePick vs lo hi none) 0) (by intro z; cases z)
    rw [show ({ s₃ with heap := s₃.heap.push { cls := .type "slice", data := .fields #[vl, vu, .none] }, toks := s₃.toks } : Shared).heap.objs.size = s₃.heap.objs.size + 1 from Heap.size_push ..] at this
    exact this
  · rw [slc_list]
    exact (r.mono (fle_grow k2)).slc lo hi
noncomputable def SR (W : Wd) (k : Nat) : List (Value → Sem Unit) → List PV → Sig → (Unit → Sig → Prop) → Prop
  | [], [], σ, K => K () σ
  | t :: ts, p :: ps, σ, K => O1 W k REq t p σ fun _ σ' => SR W k ts ps σ' K
  | _, _, _, _ => False
theorem SR_wp {W : Wd} {k : Nat} : ∀ {ts : List (Value → Sem Unit)} {ps : List PV} {σ : Sig} {K : Unit → Sig → Prop} {A : Around}, Room A k → ∀ {s : Shared} {vs : List Value}, St W σ s → VRels (FrOf σ s) ps vs → SR W k ts ps σ K →
    wpAny (model W.prog W.w) A (assignInOrder ts vs) (fun u s' => ∃ σ', St W σ' s' ∧ FLe (FrOf σ s) (FrOf σ' s') ∧ K () σ') (fun _ _ => False) s
  | [], [], σ, K, A, hA, s, vs, S, hv, h => by
    rw [show vs = [] from hv]; exact wpAny_assignInOrder_none ⟨σ, S, FLe.refl _, h⟩
  | t :: ts, p :: ps, σ, K, A, hA, s, vs, S, hv, h => by
    obtain ⟨v, ws, rfl, a, b⟩ := hv
    exact wpAny_assignInOrder_more (G.use (h v) A hA s S a (fun _ s₁ _ σ₁ a1 a2 a3 a4 => wpAny_mono (SR_wp hA a1 (b.mono a2) a4) (fun _ s₂ hpat => by obtain ⟨σ₂, b1, b2, b3⟩ := hpat; exact ⟨σ₂, b1, a2.trans b2, b3⟩) fun _ _ x => x) fun _ _ x => x)
  | [], _ :: _, _, _, _, _, _, _, _, _, h => h.elim
  | _ :: _, [], _, _, _, _, _, _, _, _, h => h.elim
theorem ext_sle {h h' : Heap} (e : Heap.ExtBut h.objs.size h h') : SLe h h' := fun a o x => e a o (Nat.ne_of_lt (Heap.lt_size x)) x
theorem AT_tup (T : Top W) {elts : List Expr} {n : Nat} {pos : Pos} {ps : List PV} {K : Unit → Sig → Prop} (hn : (assignEach elts env).length = ps.length) (h : SR W k ((assignEach elts env).map (·.2)) ps σ K)
    (hstar : (assignEach elts env).findIdx? (·.1) = none := by rfl) : O1 W k REq (fun v => assign (.Tuple elts n pos) env v) (.tup ps) σ K := fun v A hA s hs hpat => by
  obtain ⟨a, vs, m, e, f, r⟩ := hpat
  subst e
  have hl := r.length
  rw [Array.length_toList] at hl
  refine wpAny_assign_Tuple hA.1 (isTuple_of f.2.1) (hn.trans hl.symm) hstar fun h' hx => ?_
  have hk := ext_sle hx
  exact wpAny_mono (SR_wp hA (hs.grow T (tk := s.toks) hk) (r.mono (fle_grow hk)) h) (fun _ s' hpat => by obtain ⟨σ', b1, b2, b3⟩ := hpat; exact ⟨(), σ', b1, (fle_grow hk).trans b2, rfl, b3⟩) fun _ _ x => x
theorem AT_lst (T : Top W) {elts : List Expr} {n : Nat} {pos : Pos} {ps : List PV} {K : Unit → Sig → Prop} (hn : (assignEach elts env).length = ps.length) (h : SR W k ((assignEach elts env).map (·.2)) ps σ K)
    (hstar : (assignEach elts env).findIdx? (·.1) = none := by rfl) : O1 W k REq (fun v => assign (.Tuple elts n pos) env v) (.lst ps) σ K := fun v A hA s hs hpat => by
  obtain ⟨a, vs, m, e, f, r⟩ := hpat
  subst e
  have hl := r.length
  rw [Array.length_toList] at hl
  show wpAny _ A (assign (.Tuple elts n pos) env (.ref a)) _ _ s
  rw [arm_assign_Tuple]
  refine wpAny_bind (wpAny_standAt ?_)
  unfold unpack
  rw [hn.trans hl.symm, hstar]
  refine wpAny_bind (wpAny_holding (kun_itemsOf hA.1 (isList_of f.2.1) fun h' hx => ?_))
  have hk := ext_sle hx
  exact wpAny_mono (SR_wp hA (hs.grow T (tk := s.toks) hk) (r.mono (fle_grow hk)) h) (fun _ s' hpat => by obtain ⟨σ', b1, b2, b3⟩ := hpat; exact ⟨(), σ', b1, (fle_grow hk).trans b2, rfl, b3⟩) fun _ _ x => x
theorem AT_name {x : Str} {p' : Pos} {p : PV} {K : Unit → Sig → Prop} (h : O1 W k REq (storeName env x) p σ K) : O1 W k REq (fun v => assign (.Name x p') env v) p σ K := fun v A hA s hs hP => wpAny_assign_Name (h v A hA s hs hP)
theorem X_AssignTup {elts : List Expr} {n : Nat} {tpos pos : Pos} {value : Expr} {K : AFlow → Sig → Prop} (h : E W k env value σ fun p σ₁ => O1 W k REq (fun v => assign (.Tuple elts n tpos) env v) p σ₁ fun _ σ₂ => K .next σ₂)
    (hs : swapsWithSole [.Tuple elts n tpos] value pos.line env = Pure.pure false := by rfl) (hw : swappedStores [.Tuple elts n tpos] value env = Pure.pure none := by rfl) : X W k env (.Assign [.Tuple elts n tpos] value pos) σ K := fun A hA s hs' hP =>
  Assign_Tuple (G.use h A hA s hs' hP (fun v s₁ p σ₁ a1 a2 a3 a4 => G.use (a4 v) A hA s₁ a1 a3 (fun _ s₂ _ σ₂ b1 b2 b3 b4 => ⟨.next, σ₂, b1, a2.trans b2, rfl, b4⟩) fun _ _ x => x) fun _ _ x => x) hs hw
theorem X_AssignSwap (T : Top W) {elts : List Expr} {n : Nat} {tpos pos : Pos} {value : Expr} (names : List Str) {K : AFlow → Sig → Prop} (h : E W k env value σ fun p σ₁ => ∃ ps, p = .tup ps ∧ names.length = ps.length ∧ SR W k (names.reverse.map fun n => storeName env n) ps.reverse σ₁ fun _ σ₂ => K .next σ₂)
    (hs : swapsWithSole [.Tuple elts n tpos] value pos.line env = Pure.pure false := by rfl) (hw : swappedStores [.Tuple elts n tpos] value env = Pure.pure (some names) := by rfl) : X W k env (.Assign [.Tuple elts n tpos] value pos) σ K := fun A hA s hs' hP => by
  refine Assign_Tuple_swapped (wpAny_mono (h A hA s hs' hP) (fun v s₁ hpat => ?_) fun _ _ x => x) hs hw
  obtain ⟨p, σ₁, a1, a2, a3, ps, a4, a5, a6⟩ := hpat
  subst a4
  obtain ⟨a, vs, m, rfl, f, r⟩ := a3
  have hl := r.length
  rw [Array.length_toList] at hl
  rw [a5.trans hl.symm]
  refine wpAny_unpackItems_tuple hA.1 (isTuple_of f.2.1) fun h' hx => ?_
  have hk := ext_sle hx
  have hr : ∀ {l : List PV} {vs : List Value} {F : FM}, VRels F l vs → VRels F l.reverse vs.reverse := by
    intro l
    induction l with
    | nil => intro vs F h; rw [show vs = [] from h]; rfl
    | cons p l ih => intro vs F h; obtain ⟨v, ws, rfl, a, b⟩ := h; rw [List.reverse_cons, List.reverse_cons]; exact (ih b).append (VRels.one a)
  have conv : ∀ {ns : List Str} {ps : List PV} {σ : Sig} {K : Unit → Sig → Prop}, SR W k (ns.map fun n => storeName env n) ps σ K → SR W k (ns.map fun n => bindName env n) ps σ K := by
    intro ns
    induction ns with
    | nil => intro ps σ K h; exact h
    | cons n ns ih => intro ps σ K h; cases ps with
      | nil => exact h
      | cons p ps => exact fun v A hA s hs hP => wpAny_bindName (G.use (h v) A hA s hs hP (fun _ s₁ u σ₁ a1 a2 a3 a4 => ⟨u, σ₁, a1, a2, a3, ih a4⟩) fun _ _ x => x)
  exact wpAny_mono (SR_wp hA (a1.grow T (tk := s₁.toks) hk) (hr (r.mono (fle_grow hk))) (conv a6)) (fun _ s' hpat => by obtain ⟨σ', b1, b2, b3⟩ := hpat; exact ⟨.next, σ', b1, (a2.trans (fle_grow hk)).trans b2, rfl, b3⟩) fun _ _ x => x
end
end Mine
end
section
set_option tactic.hygienic false
set_option hygiene false
set_option maxRecDepth 100000
namespace Mine
theorem ci_slot_next : Slot "callable_iterator" "__next__" "callable_iterator.__next__" :=
  .of (owner := "callable_iterator") (n := "__next__") (by rw [typeLookup_type, builtinLookup_eq_fast]; kernel_rfl) (by decide +kernel) (by decide +kernel) (by decide +kernel)
    (by first | exact .inl (by decide +kernel) | exact .inr (by decide +kernel)) (by rw [isSubtype_type]; kernel_rfl)
theorem ci_slot_iter : Slot "callable_iterator" "__iter__" "callable_iterator.__iter__" :=
  .of (owner := "callable_iterator") (n := "__iter__") (by rw [typeLookup_type, builtinLookup_eq_fast]; kernel_rfl) (by decide +kernel) (by decide +kernel) (by decide +kernel)
    (by first | exact .inl (by decide +kernel) | exact .inr (by decide +kernel)) (by rw [isSubtype_type]; kernel_rfl)
theorem ci_entry_iter : entryFor table "callable_iterator.__iter__" = some Builtin.«dict_keyiterator.__iter__» :=
  entryFor_alias (id' := "dict_keyiterator.__iter__") (by kernel_rfl) (by first | rfl | decide +kernel) (by decide +kernel) (by kernel_rfl)
theorem ci_entry_next : entryFor table "callable_iterator.__next__" = some Builtin.«callable_iterator.__next__» := entryFor_of_fast (by kernel_rfl)
theorem ci_args_iter (a : Value) : argsOk "callable_iterator.__iter__" ⟨[a], []⟩ := by unfold argsOk; kernel_rfl
theorem ci_args_next (a : Value) : argsOk "callable_iterator.__next__" ⟨[a], []⟩ := by unfold argsOk; kernel_rfl
theorem ci_entry_iterf : entryFor table "iter" = some Builtin.«iter» := entryFor_of_fast (by kernel_rfl)
theorem ci_args_iterf (a b : Value) : argsOk "iter" ⟨[a, b], []⟩ := by unfold argsOk; kernel_rfl
theorem ci_method_call : typeLookup (.type "method") "__call__" = pure (some (.builtin "method.__call__")) := by rw [typeLookup_type, builtinLookup_eq_fast]; kernel_rfl
theorem wpAny_callBorrowed {M : Model} {A : Around} {E : Value → Shared → Prop} {s : Shared} {f : Value} {pos : List Value} {Q : Value → Shared → Prop}
    (hc : codeAny M A (.call f ⟨pos, []⟩) (fun r s' => match r with | .ok (.ret v) => Q v s' | .ok _ => False | .error e => E e s') s) : wpAny M A (callBorrowed f pos) Q E s := fun Γ p hΓ => by
  have h := hc _ p rfl (hΓ.enter (.call f ⟨pos, []⟩) none p (by intro x; cases x))
  have e : Sem.wp M Γ (callBorrowed f pos) (fun v p s => Q v s) (fun e p s => E e s) p s = wpCode M (Γ.enter (.call f ⟨pos, []⟩) none p) (fun r s' => match r with | .ok (.ret v) => Q v s' | .ok _ => False | .error e => E e s') p s := by
    unfold callBorrowed
    rw [Sem.wp_call]; congr 1; funext r s'
    cases r with
    | error e => rfl
    | ok f => cases f <;> rfl
  rw [e]; exact h
section
variable {W : Wd} {k : Nat} {σ : Sig} {env : Env} {P : FM → Prop} {x y : List Nat}
theorem OA_bm (T : Top W) {a C d f : Addr} {fs : Str → Option PV} {n : Nat} {name : Str} {K : PV → Sig → Prop} (X : ClsIs W C) (hf : findIn W.K (.ref C) name = some (some (.ref f))) (ht : typeIn W.K (.ref f) = some (.type "function"))
    (hg : specialIn W.K (.ref f) "__get__" = some (some (.builtin "function.__get__"))) (hk : takesIn W.K (.ref f) = some false) (hcn : copiedNames.contains name = false) (hσ : σ a = some (.inst C d fs n)) (hp : fs name = none)
    (h : K (.bm f a) σ) : OA W k name (.ref a) σ K := fun v => .grow T h fun A hA s hs hP Q q => by
  obtain rfl : v = .ref a := hP
  obtain ⟨ha, _, _, es, ep, hd, hkk, hz, r⟩ := hs.hr _ _ hσ
  have hnn := r name
  rw [hp] at hnn
  have hnn : nsFind es name = none := hnn
  obtain ⟨cd, hc, hh⟩ := X.cd
  have hfo : findObj W.K C (some (dObj es ep)) name = some (.bind (.builtin "function.__get__") (.ref f)) := by
    unfold findObj
    rw [hc, hf]
    simp only [Option.bind_some, hg, hk, PySem.W.ownOf, hh, if_true, look_of hkk, hnn, hcn, Bool.false_and, Bool.false_eq_true, if_false]
  refine get_bind (hs.kin T) (instAt_of ha hd) X.ga hfo X.gt ?_
  refine wpAny_call (fn_get (s := { s with toks := s.toks + 1 }) (hs.kin T) ht ?_)
  show wpAny _ _ (handedOut (.ref s.heap.objs.size)) _ _ _
  rw [handedOut_of rfl]
  exact wpAny_pure (q _ _ _ sle_push ⟨_, rfl, fz_new hs (by intro z; cases z)⟩)
end
end Mine
end
section
set_option tactic.hygienic false
set_option hygiene false
set_option maxRecDepth 100000
namespace Mine
theorem borrows_bm {M : Model} {A : Around} {E : Value → Shared → Prop} {s : Shared} {r f : Addr} {self : Value} {o : Obj} {fd : FuncData} {Q : Bool → Shared → Prop} (hr : s.heap.get? r = some (methodObj (.ref f) self)) (hf : s.heap.get? f = some o) (hd : o.data = .func fd)
    (h : Q true s) : wpAny M A (borrowsExactly (.ref r)) Q E s := by
  unfold borrowsExactly
  refine wpAny_bind (wpAny_load hr ?_)
  show wpAny _ _ (load f >>= _) _ _ _
  refine wpAny_bind (wpAny_load hf ?_)
  rw [hd]
  exact wpAny_pure h
noncomputable def NR (F : FM) (o : Option PV) (v : Option Value) : Prop := match o with
  | some p => ∃ w, v = some w ∧ VRel F p w
  | none => v = none
section
variable {W : Wd} {k : Nat} {σ : Sig} {env : Env} {P : FM → Prop} {x y : List Nat}
theorem C_iter2 (T : Top W) {f a : Addr} {K : PV → Sig → Prop} (h : ∀ I, Fresh σ I → K (.ref I) (σ.upd I (.citer (.bm f a) false))) : C W k (.blt "iter") [.bm f a, .str []] [] [] σ K := C2 fun v va vb A hA s hs hpat => by
  obtain ⟨e, ⟨r, e1, fr⟩, t, e2⟩ := hpat
  obtain rfl : v = .builtin "iter" := e
  subst e1 e2
  refine Calls.call_function_entry (by decide +kernel) (by decide +kernel) ci_entry_iterf (ci_args_iterf _ _) ?_
  unfold Builtin.«iter»
  refine wpAny_bind (m := someArgs "iter" 1 2 _) (wpAny_of_eq (a := [Value.ref r, .str ⟨#[]⟩ t]) (by first | rfl | kernel_rfl) ?_)
  show wpAny _ _ (specialOf (.ref r) "__call__" >>= _) _ _ _
  refine wpAny_bind (wpAny_specialOf ⟨_, fr.2.1, rfl⟩ ci_method_call ?_)
  show wpAny _ _ (rule "iter.sentinel" >>= _) _ _ _
  refine wpAny_bind (wpAny_rule ?_)
  show wpAny _ _ (do ret (← newFields "callable_iterator" [.ref r, .str ⟨#[]⟩ t, .bool false])) _ _ _
  refine wpAny_bind (wpAny_newObj_type (wpAny_pure ⟨_, rfl, ?_⟩))
  have F1 := fle_push_upd (σ := σ) (h := s.heap) (o := citerObj (.ref r) t false) (ao := .citer (.bm f a) false)
  exact ⟨.ref s.heap.objs.size, _, hs.pushUpd (citerObj (.ref r) t false) (.citer (.bm f a) false) ⟨.ref r, t, Heap.get?_push_size _ rfl, r, rfl, F1 _ _ fr⟩, F1, (Eq.refl _ : Value.ref _ = Value.ref _), h _ hs.fresh⟩
noncomputable abbrev NX (W : Wd) (k : Nat) (I : Addr) (σ : Sig) (K : Option PV → Sig → Prop) : Prop := G W k PT NR (pyNext (.ref I)) σ K
theorem citer_self {prog : Program} {w : World} {A : Around} {E : Value → Shared → Prop} {s : Shared} {I : Addr} {o : Obj} (ho : s.heap.get? I = some o) (hc : o.cls = .type "callable_iterator") {Q : Value → Shared → Prop} (h : Q (.ref I) s) : wpAny (model prog w) A (pyIter (.ref I)) Q E s := by
  have hT : s.TypeIs (.ref I) "callable_iterator" := ⟨_, ho, hc⟩
  refine wpAny_pyIter_slot hT ci_slot_iter (wpAny_call_entry ci_slot_iter hT ci_entry_iter ?_ (ci_args_iter _))
  show wpAny _ _ (ret (.ref I)) _ _ s
  exact wpAny_pure ⟨_, rfl, "callable_iterator", _, hT, ci_slot_next.lookup, h⟩
theorem isSub_stop : isSubtype (.type "StopIteration") (.type "StopIteration") = pure true := by rw [isSubtype_type]; kernel_rfl
theorem stop_end {prog : Program} {w : World} {A : Around} {E : Value → Shared → Prop} {s : Shared} {Q : Option Value → Shared → Prop} {α : Type} {Qx : α → Shared → Prop} (hh : A.handled = none) (h : ∀ h', SLe s.heap h' → Q none { s with heap := h' }) :
    wpAny (model prog w) A.in1 (Builtin.SmallTypes.stopIteration : Sem α) Qx (fun e s' => wpAny (model prog w) A (do if ← isInstance e (.type "StopIteration") then Pure.pure none else throw e) Q E s') s := by
  unfold Builtin.SmallTypes.stopIteration
  show wpAny _ _ (newExc (.type "StopIteration") [] >>= _) _ _ _
  refine wpAny_bind ?_
  simp only [newExc, newTuple]
  refine wpAny_bind (wpAny_newObj_type ?_ (by size_fits))
  refine wpAny_bind (m := firstArgMember _ _) (wpAny_of_eq (a := Value.none) (by first | rfl | (simp only [firstArgMember]; rfl)) ?_)
  refine wpAny_newObj_type ?_ (by size_fits)
  simp only [raiseNew]
  refine wpAny_bind (wpAny_handled ?_)
  rw [show A.in1.handled = none from hh]
  refine wpAny_bind (wpAny_pure (wpAny_throw ?_))
  refine wpAny_bind (wpAny_isInstance (T := "StopIteration") (b := true) ⟨_, Heap.get?_push_size _ rfl, rfl⟩ isSub_stop ?_)
  exact wpAny_pure (h _ (sle_push.trans sle_push))
theorem NX_done (T : Top W) {I : Addr} {p : PV} {K : Option PV → Sig → Prop} (hσ : σ I = some (.citer p true)) (h : K none σ) : NX W k I σ K := fun A hA s hs hP => by
  obtain ⟨v, t, ho, r⟩ := hs.hr _ _ hσ
  have hT : s.TypeIs (.ref I) "callable_iterator" := ⟨_, ho, rfl⟩
  unfold pyNext
  refine wpAny_bind (wpAny_attempt (wpAny_callSpecial?_slot (name := Str.ofString "__next__") hT ci_slot_next (wpAny_call_entry ci_slot_next hT ci_entry_next ?_ (ci_args_next _))))
  show wpAny _ _ (field (.ref I) 2 >>= _) _ _ s
  refine wpAny_bind (wpAny_field ho rfl (x := .bool true) rfl ?_)
  dsimp only
  rw [if_pos (beq_self_eq_true _)]
  refine wpAny_bind (wpAny_rule (wpAny_bind ?_))
  exact stop_end hA.1 fun h' hk => ⟨none, σ, hs.grow T (tk := s.toks) hk, fle_grow hk, (Eq.refl _ : (none : Option Value) = none), h⟩
theorem wgen {α : Type} {M : Model} {A : Around} {t : Sem α} {Q : α → Shared → Prop} {E : Value → Shared → Prop} {s : Shared} (h : ∀ Q', (∀ v s', Q v s' → Q' v s') → wpAny M A t Q' E s) : wpAny M A t Q E s := h Q fun _ _ x => x
theorem NX_call (T : Top W) {I f a : Addr} {o : Obj} {fd : FuncData} {K : Option PV → Sig → Prop} (hf : W.h₁.get? f = some o) (hc : o.cls ≠ .none) (hd : o.data = .func fd) (hσ : σ I = some (.citer (.bm f a) false))
    (h : CC W k (.ref f) [.ref a] [] [] σ fun p σ' => ∃ x, p = .str x ∧ σ' I = some (.citer (.bm f a) false) ∧ if x = [] then K none (σ'.upd I (.citer .none true)) else K (some (.str x)) σ') : NX W (k + 1) I σ K := fun A hA s hs hP => by
  refine wgen fun Q' hQ => ?_
  obtain ⟨v, t, ho, r, rfl, fr⟩ := hs.hr _ _ hσ
  have hT : s.TypeIs (.ref I) "callable_iterator" := ⟨_, ho, rfl⟩
  unfold pyNext
  refine wpAny_bind (wpAny_attempt (wpAny_callSpecial?_slot (name := Str.ofString "__next__") hT ci_slot_next (wpAny_call_entry ci_slot_next hT ci_entry_next ?_ (ci_args_next _))))
  show wpAny _ _ (field (.ref I) 2 >>= _) _ _ s
  refine wpAny_bind (wpAny_field ho rfl (x := .bool false) rfl ?_)
  dsimp only
  rw [if_neg (by intro z; cases z)]
  refine wpAny_bind (wpAny_field ho rfl (x := .ref r) rfl (wpAny_bind (wpAny_attempt ?_)))
  unfold callOutOfASlot
  refine wpAny_bind (borrows_bm fr.2.1 (hs.base hf hc).2.1 hd ?_)
  rw [if_pos rfl]
  refine wpAny_callBorrowed (method_call fr.2.1 ?_)
  refine codeAny_mono (h (.ref f) [.ref a] [] A.in1 hA.in1 s hs (Eq.refl _ : Value.ref f = Value.ref f) (VRels.one (Eq.refl _ : Value.ref a = Value.ref a)) rfl) fun res s₁ z => ?_
  unfold CPost at z
  cases res with
  | error e => exact z.elim
  | ok fl =>
  cases fl with
  | next => exact z.elim
  | brk => exact z.elim
  | cont => exact z.elim
  | ret v =>
    obtain ⟨p, σ₁, a1, a2, a3, x, a4, a5, a6⟩ := z
    subst a4
    obtain ⟨t₁, rfl⟩ := a3
    obtain ⟨w, t₂, ho₁, r₁, rfl, fr₁⟩ := a1.hr _ _ a5
    dsimp only
    refine wpAny_bind (wpAny_field ho₁ rfl (x := .bool false) rfl ?_)
    rw [if_neg (by intro z; cases z)]
    refine wpAny_bind (wpAny_field ho₁ rfl (x := .str ⟨#[]⟩ t₂) rfl (wpAny_bind (wpAny_holding (wpAny_eqBool_str ?_))))
    by_cases hx : x = []
    · subst hx
      rw [if_pos rfl] at a6
      rw [show decide ((⟨#[]⟩ : Str) = ⟨([] : List Nat).toArray⟩) = true from rfl]
      refine wpAny_bind (wpAny_rule (wpAny_bind ?_))
      show wpAny _ _ (field (.ref I) 0 >>= _) _ _ _
      refine wpAny_bind (wpAny_field ho₁ rfl (x := .ref r₁) rfl ?_)
      unfold slotLetsGo
      refine wpAny_bind ?_
      refine wpAny_bind (borrows_bm fr₁.2.1 (a1.base hf hc).2.1 hd ?_)
      rw [if_pos rfl]
      refine wpAny_pure ?_
      refine wpAny_bind (wpAny_setField ho₁ rfl (by show _ < 3; decide) ?_)
      have q1 := Heap.get?_update_self (Obj.mapFields (·.setIfInBounds 0 .none)) ho₁ rfl
      refine wpAny_bind (wpAny_setField q1 rfl (by show _ < 3; decide) ?_)
      have q2 := Heap.get?_update_self (Obj.mapFields (·.setIfInBounds 1 .none)) q1 rfl
      refine wpAny_setField q2 rfl (by show _ < 3; decide) ?_
      have q3 := Heap.get?_update_self (Obj.mapFields (·.setIfInBounds 2 (.bool true))) q2 rfl
      have hsb := ((Heap.SameBut.update s₁.heap I (Obj.mapFields (·.setIfInBounds 0 .none))).trans (Heap.SameBut.update _ I (Obj.mapFields (·.setIfInBounds 1 .none)))).trans (Heap.SameBut.update _ I (Obj.mapFields (·.setIfInBounds 2 (.bool true))))
      have hne : σ₁ I ≠ none := by rw [a5]; simp
      have F3 := fle_upd (ao := .citer .none true) hne hsb
      have S3 := a1.update (ao := .citer .none true) (tk := s₁.toks) T.lim a5 (fun b z => by cases z) hsb ⟨.none, 0, q3, (Eq.refl _ : Value.none = Value.none)⟩
      exact stop_end hA.1 fun h' hk => hQ _ _ ⟨none, _, S3.grow T (tk := s₁.toks) hk, (a2.trans F3).trans (fle_grow hk), (Eq.refl _ : (none : Option Value) = none), a6⟩
    · rw [if_neg hx] at a6
      rw [show decide ((⟨#[]⟩ : Str) = ⟨x.toArray⟩) = false from decide_eq_false (by simpa using hx)]
      exact wpAny_pure ⟨_, rfl, wpAny_pure (hQ _ _ ⟨some (.str x), σ₁, a1, a2, ⟨_, rfl, t₁, rfl⟩, a6⟩)⟩
end
end Mine
end
section
set_option tactic.hygienic false
set_option hygiene false
set_option maxRecDepth 100000
namespace Mine
theorem setItem_listOf {prog : Program} {w : World} {A : Around} {E : Value → Shared → Prop} {s : Shared} {l : Addr} {items : Array Value} {n : Nat} {k : Int} {t : Tok} {v : Value} {Q : Unit → Shared → Prop} (ho : s.heap.get? l = some (listOf items n))
    (h0 : 0 ≤ k) (hfit : k < 2 ^ 63) (hn : k < items.size)
    (hQ : ∀ h' n', h'.get? l = some (listOf (items.setIfInBounds k.toNat v) n') → Heap.SameBut l s.heap h' → Q () { s with heap := h' }) :
    wpAny (model prog w) A (setItem (.ref l) (.int k t) v) Q E s := by
  have hl : s.heap.IsList l items := ⟨_, ho, rfl, n, rfl⟩
  unfold setItem
  try with_reducible refine wpAny_holding ?_
  first | refine wpAny_bind (wpAny_pure ?_) | skip
  refine wpAny_bind (wpAny_sequenceKey hl.typeIs (by decide) ?_)
  refine wpAny_bind (wpAny_callSpecial?_slot (name := Str.ofString "__setitem__") hl.typeIs slot_list_setitem
    (wpAny_call_entry slot_list_setitem hl.typeIs entry_list_setitem ?_ (args_list_setitem _ _ _)))
  show wpAny _ _ (Builtin.List.listSubscript? (.int k t) >>= _) _ _ s
  refine wpAny_bind (wpAny_listSubscript_int (fitsIndex_of h0 hfit) ?_)
  clear hfit
  obtain ⟨j, rfl⟩ := Int.eq_ofNat_of_zero_le h0
  have hj : j < items.size := by lia
  have hx' : items[j]? = some items[j] := Array.getElem?_eq_getElem hj
  show wpAny _ _ ((seqItemAt l j >>= fun r => pure (r.map (j, ·))) >>= _) _ _ s
  refine wpAny_bind (wpAny_bind (wpAny_seqItemAt ho rfl (wpAny_pure ?_)))
  rw [hx']
  show wpAny _ _ (setSeqItemAt l j v >>= _) _ _ s
  have hm : ∃ n', Obj.mapSeq (·.setIfInBounds j v) (listOf items n) = listOf (items.setIfInBounds j v) n' := ⟨_, by simp only [Obj.mapSeq]; rfl⟩
  obtain ⟨n', hm⟩ := hm
  have hfin : (s.heap.update l (Obj.mapSeq (·.setIfInBounds j v))).get? l = some (listOf (items.setIfInBounds j v) n') := by
    rw [Heap.get?_update_self _ ho (by rw [hm]; rfl), hm]
  refine wpAny_bind (wpAny_setSeqItemAt ho rfl ?_)
  first
    | exact wpAny_bind (wpAny_pure (wpAny_pure ⟨.none, rfl, wpAny_pure (hQ _ n' hfin (Heap.SameBut.update ..))⟩))
    | exact wpAny_pure ⟨.none, rfl, wpAny_pure (hQ _ n' hfin (Heap.SameBut.update ..))⟩
section
variable {W : Wd} {k : Nat} {σ : Sig} {env : Env} {P : FM → Prop} {x y : List Nat}
theorem loopN_G (T : Top W) {target : Expr} {body orelse : List Stmt} {I : Addr} (J : Nat → Sig → Prop) {K : AFlow → Sig → Prop}
    (turn : ∀ n σ, J n σ → (∃ p b, σ I = some (.citer p b)) ∧ NX W k I σ fun o σ' => match o with
      | none => XS W k env orelse σ' K
      | some p => (∃ p b, σ' I = some (.citer p b)) ∧ O1 W k REq (fun v => assign target env v) p σ' fun _ σ'' => XS W k env body σ'' fun fl σ₃ => match fl with | .next | .cont => ∃ m, m < n ∧ J m σ₃ | .brk => K .next σ₃ | .ret r => K (.ret r) σ₃)
    {F₀ : FM} : ∀ A, Room A k → ∀ n s, (∃ σ, St W σ s ∧ FLe F₀ (FrOf σ s) ∧ J n σ) →
      codeAny (model W.prog W.w) A (.forLoop target (.ref I) body orelse env) (fun r s' => match r with | .ok f => ∃ fl σ', St W σ' s' ∧ FLe F₀ (FrOf σ' s') ∧ LRel (FrOf σ' s') fl f ∧ K fl σ' | .error _ => False) s := fun A hA n s hI => by
  refine codeAny_forLoop_any (fun n s => ∃ σ, St W σ s ∧ FLe F₀ (FrOf σ s) ∧ J n σ) (fun n s hI => ?_) n hI
  obtain ⟨σ, S, hF, hJ⟩ := hI
  obtain ⟨_, t2⟩ := turn n σ hJ
  refine G.use t2 A hA s S trivial (fun o s₁ op σ₁ a1 a2 a3 a4 => ?_) fun _ _ x => x.elim
  cases op with
  | none =>
    obtain rfl : o = none := a3
    exact G.use a4 A hA s₁ a1 trivial (fun f s₂ fl σ₂ b1 b2 b3 b4 => ⟨fl, σ₂, b1, (hF.trans a2).trans b2, b3, b4⟩) fun _ _ x => x.elim
  | some p =>
    obtain ⟨v, rfl, hv⟩ := a3
    obtain ⟨⟨p', b', hc⟩, t3⟩ := a4
    obtain ⟨w, t, ho, _⟩ := a1.hr _ _ hc
    refine own_plain ho (n := "callable_iterator") rfl rfl ?_
    refine G.use (t3 v) A hA s₁ a1 hv (fun _ s₂ _ σ₂ b1 b2 b3 b4 => ?_) fun _ _ x => x.elim
    refine G.use b4 A hA s₂ b1 trivial (fun f s₃ fl σ₃ c1 c2 c3 c4 => ?_) fun _ _ x => x.elim
    have hF3 := ((hF.trans a2).trans b2).trans c2
    cases fl with
    | next => cases c3; obtain ⟨m, hm, hj⟩ := c4; exact ⟨m, hm, σ₃, c1, hF3, hj⟩
    | cont => cases c3; obtain ⟨m, hm, hj⟩ := c4; exact ⟨m, hm, σ₃, c1, hF3, hj⟩
    | brk => cases c3; exact ⟨.next, σ₃, c1, hF3, rfl, c4⟩
    | ret r => obtain ⟨w, rfl, hr⟩ := c3; exact ⟨.ret r, σ₃, c1, hF3, ⟨w, rfl, hr⟩, c4⟩
theorem X_ForIt (T : Top W) {target iter : Expr} {body orelse : List Stmt} {pos : Pos} {I : Addr} (J : Nat → Sig → Prop) (n : Nat) {K : AFlow → Sig → Prop}
    (h : E W k env iter σ fun q σ₁ => q = .ref I ∧ (∃ p b, σ₁ I = some (.citer p b)) ∧ J n σ₁)
    (turn : ∀ n σ, J n σ → (∃ p b, σ I = some (.citer p b)) ∧ NX W k I σ fun o σ' => match o with
      | none => XS W k env orelse σ' K
      | some p => (∃ p b, σ' I = some (.citer p b)) ∧ O1 W k REq (fun v => assign target env v) p σ' fun _ σ'' => XS W k env body σ'' fun fl σ₃ => match fl with | .next | .cont => ∃ m, m < n ∧ J m σ₃ | .brk => K .next σ₃ | .ret r => K (.ret r) σ₃)
    (hfold : ∀ x, foldedSetIterable iter env x = Pure.pure x := by intro _; rfl) : X W k env (.For target iter body orelse pos) σ K := fun A hA s hs hP => by
  show wpAny _ A (do
    standAt pos
    let x ← foldedSetIterable iter env (← eval iter env)
    standAt iter.pos
    runOwn (.forLoop target (← holding [x] (pyIter x)) body orelse env) env) _ _ s
  refine wpAny_bind (wpAny_standAt (wpAny_bind (wpAny_mono (h A hA s hs trivial) (fun v s₁ hpat => ?_) fun _ _ x => x)))
  obtain ⟨q, σ₁, a1, a2, a3, a4, ⟨p, b, a5⟩, a6⟩ := hpat
  subst a4
  obtain rfl : v = .ref I := a3
  obtain ⟨w, t, ho, _⟩ := a1.hr _ _ a5
  rw [hfold]
  refine wpAny_bind (wpAny_pure (wpAny_bind (wpAny_standAt (wpAny_bind (wpAny_holding (citer_self ho rfl ?_))))))
  refine wpAny_runOwn (codeAny_mono (loopN_G T J turn (F₀ := FrOf σ₁ s₁) A hA n _ ⟨σ₁, a1, FLe.refl _, a6⟩) fun r s' hr => ?_)
  cases r with
  | ok f => obtain ⟨fl, σ', b1, b2, b3, b4⟩ := hr; exact ⟨fl, σ', b1, a2.trans b2, b3, b4⟩
  | error e => exact hr.elim
theorem X_AssignSub {o i value : Expr} {pos pos' : Pos} {K : AFlow → Sig → Prop} (h : E W k env value σ fun p σ₁ => E W k env o σ₁ fun q σ₂ => E W k env i σ₂ fun j σ₃ => ∀ v w u, G W k (fun F => VRel F q v ∧ VRel F j w ∧ VRel F p u) REq (setItem v w u) σ₃ fun _ σ₄ => K .next σ₄)
    (hs : swapsWith value (some (.Subscript o i pos')) pos.line env = Pure.pure false := by rfl) : X W k env (.Assign [.Subscript o i pos'] value pos) σ K := fun A hA s hs' hP =>
  wpAny_Assign_Subscript (G.use h A hA s hs' hP (fun u s₁ p σ₁ a1 a2 a3 a4 => G.use a4 A hA s₁ a1 trivial (fun v s₂ q σ₂ b1 b2 b3 b4 => G.use b4 A hA s₂ b1 trivial (fun w s₃ j σ₃ c1 c2 c3 c4 =>
    G.use (c4 v w u) A hA s₃ c1 ⟨b3.mono c2, c3, a3.mono (b2.trans c2)⟩ (fun _ s₄ _ σ₄ d1 d2 d3 d4 => ⟨.next, σ₄, d1, ((a2.trans b2).trans c2).trans d2, rfl, d4⟩) fun _ _ x => x) fun _ _ x => x) fun _ _ x => x) fun _ _ x => x) hs
theorem set_ref (T : Top W) {a : Addr} {l : List PV} {i : Int} {p : PV} {K : Unit → Sig → Prop} (hσ : σ a = some (.list l)) (h0 : 0 ≤ i) (h1 : i < l.length) (h2 : i < 2 ^ 62) (h : K () (σ.upd a (.list (l.set i.toNat p)))) :
    ∀ v w u, G W k (fun F => VRel F (.ref a) v ∧ VRel F (.int i) w ∧ VRel F p u) REq (setItem v w u) σ K := fun v w u A hA s hs hpat => by
  obtain ⟨e1, ⟨t, e2⟩, e3⟩ := hpat
  obtain rfl : v = .ref a := e1
  subst e2
  obtain ⟨vs, n, ho, r⟩ := hs.hr _ _ hσ
  have hl := r.length
  rw [Array.length_toList] at hl
  have hne : σ a ≠ none := by rw [hσ]; simp
  refine setItem_listOf ho h0 (by lia) (by lia) fun h' n' hg hsb => ?_
  have F1 : FLe (Fz σ s.heap) (Fz (σ.upd a (.list (l.set i.toNat p))) h') := fle_upd hne hsb
  refine ⟨(), _, hs.update (ao := .list (l.set i.toNat p)) (tk := s.toks) T.lim hσ (fun b q => by cases q) hsb ⟨_, n', hg, ?_⟩, F1, rfl, h⟩
  rw [Array.toList_setIfInBounds]
  exact (r.mono F1).set (VRel.mono F1 e3)
theorem X_AssignAttr {o value : Expr} {name : Str} {pos pos' : Pos} {K : AFlow → Sig → Prop} (h : E W k env value σ fun p σ₁ => E W k env o σ₁ fun q σ₂ => SA W k name q p σ₂ fun _ σ₃ => K .next σ₃)
    (hs : swapsWith value (some (.Attribute o name pos')) pos.line env = Pure.pure false := by rfl) : X W k env (.Assign [.Attribute o name pos'] value pos) σ K := fun A hA s hs' hP =>
  plainObj_wpAny_Assign_Attribute (G.use h A hA s hs' hP (fun u s₁ p σ₁ a1 a2 a3 a4 => G.use a4 A hA s₁ a1 trivial (fun v s₂ q σ₂ b1 b2 b3 b4 =>
    G.use (b4 v u) A hA s₂ b1 ⟨b3, a3.mono b2⟩ (fun _ s₄ _ σ₄ d1 d2 d3 d4 => ⟨.next, σ₄, d1, (a2.trans b2).trans d2, rfl, d4⟩) fun _ _ x => x) fun _ _ x => x) fun _ _ x => x) hs
theorem X_AugAttr {o value : Expr} {name : Str} {op : Operator} {pos pos' : Pos} {K : AFlow → Sig → Prop} (h : E W k env o σ fun q σ₁ => OA W k name q σ₁ fun a σ₂ => E W k env value σ₂ fun b σ₃ => O2 W k VRel (inplaceOp op) a b σ₃ fun p σ₄ => SA W k name q p σ₄ fun _ σ₅ => K .next σ₅) :
    X W k env (.AugAssign (.Attribute o name pos') op value pos) σ K := fun A hA s hs' hP =>
  wpAny_AugAssign_AttributeAny (G.use h A hA s hs' hP (fun u s₁ p σ₁ a1 a2 a3 a4 => G.use (a4 u) A hA s₁ a1 a3 (fun v s₂ q σ₂ b1 b2 b3 b4 => G.use b4 A hA s₂ b1 trivial (fun w s₃ j σ₃ c1 c2 c3 c4 =>
    G.use (c4 v w) A hA s₃ c1 ⟨b3.mono c2, c3⟩ (fun z s₄ y σ₄ d1 d2 d3 d4 => G.use (d4 u z) A hA s₄ d1 ⟨a3.mono ((b2.trans c2).trans d2), d3⟩ (fun _ s₅ _ σ₅ e1 e2 e3 e4 =>
      ⟨.next, σ₅, e1, (((a2.trans b2).trans c2).trans d2).trans e2, rfl, e4⟩) fun _ _ x => x) fun _ _ x => x) fun _ _ x => x) fun _ _ x => x) fun _ _ x => x)
end
end Mine
end
section
set_option tactic.hygienic false
set_option hygiene false
set_option maxRecDepth 100000
namespace Mine
structure TabTop (W : Wd) (c : Addr) : Prop where
  hd : CodeHd W.h₁ c W.tP
  hp : W.h₁.get? W.tP = some (tabObj #[])
  hb : W.h₁.BuiltinsAt W.mg W.tP
  ns : W.tP ≠ cStatics
  ng : mainGlobals ≠ W.tP
theorem fle_tab {W : Wd} {σ : Sig} {s : Shared} (S : St W σ s) {h' : Heap} (hx : Heap.ExtBut W.tP s.heap h') : FLe (Fz σ s.heap) (Fz σ h') := fun a o hpat => by
  obtain ⟨e1, e2, e3⟩ := hpat
  refine ⟨e1, hx a o (fun q => ?_) e2, e3⟩
  obtain ⟨_, ps, h1, _⟩ := S.tab
  rw [q, h1] at e2; cases e2; exact e3 rfl
theorem St.tabStep {W : Wd} {σ : Sig} {s : Shared} (S : St W σ s) (T : Top W) {h' : Heap} (hx : Heap.ExtBut W.tP s.heap h') (ho : OldK W.h₁ h') (ht : TabInv W (Fz σ h') h') (hns : W.tP ≠ cStatics) {tk : Nat} : St W σ { s with heap := h', toks := tk } := by
  have F := fle_tab S hx
  have ne : ∀ a, σ a ≠ none → a ≠ W.tP := fun a q => (S.tab_ne q).symm
  have keep : ∀ a, a ≠ W.tP → (∃ o, s.heap.get? a = some o) → h'.get? a = s.heap.get? a := fun a q ⟨o, e⟩ => by rw [e]; exact hx a o q e
  refine ⟨fun a ao e => (S.hr a ao e).keep F (keep a (ne a (by rw [e]; simp)) (S.hr a ao e).there) fun C d fs n z => ?_, ho, S.above, ?_, ?_, S.os, S.gens, ht⟩
  · obtain ⟨z1, z2⟩ := S.dict_there (z ▸ e)
    exact ⟨keep d (ne d (by rw [z1]; simp)) z2, rfl⟩
  · obtain ⟨o', ho'⟩ := T.last
    obtain ⟨o'', ho''⟩ := ho.there _ _ ho'
    have h1 : (W.h₁.objs.size - 1 : Nat) < h'.objs.size := Heap.lt_size ho''
    have h2 : (W.h₁.objs.size - 1 : Nat) < W.h₁.objs.size := Heap.lt_size ho'
    show W.h₁.objs.size ≤ h'.objs.size
    lia
  · obtain ⟨mc, hn, r⟩ := S.lim
    exact ⟨mc, Ns.of_get hn (keep _ (Ne.symm hns) (let ⟨o, _, _, e, _⟩ := hn; ⟨o, e⟩)), r⟩
noncomputable def Sig.dels (σ : Sig) (as : List Addr) : Sig := fun b => if as.contains b then none else σ b
section
variable {W : Wd} {k : Nat} {σ : Sig} {env : Env} {P : FM → Prop} {x y : List Nat}
theorem sub_dels {s : Shared} (S : St W σ s) {as : List Addr} (hc : ∀ a ∈ as, ∃ p, σ a = some (.cell p)) : Sub (σ.dels as) σ := by
  refine ⟨fun b o e => ?_, fun b C d fs n e => ?_⟩
  · unfold Sig.dels at e; split at e
    · cases e
    · exact e
  · unfold Sig.dels at e; split at e
    · cases e
    · have hd := (S.dict_there e).1
      unfold Sig.dels
      rw [if_neg]
      · exact hd
      · intro z
        obtain ⟨p, hp⟩ := hc d (by simpa using z)
        rw [hp] at hd; cases hd
noncomputable def CellsAre (σ : Sig) : List (Str × PV) → List (Str × Addr) → Prop
  | [], cl => cl = []
  | (x, p) :: l, cl => ∃ c r, cl = (x, c) :: r ∧ σ c = some (.cell (some p)) ∧ CellsAre σ l r
theorem CellsAre.all : ∀ {l : List (Str × PV)} {cl : List (Str × Addr)}, CellsAre σ l cl → ∀ a ∈ cl.map (·.2), ∃ p, σ a = some (.cell p)
  | [], _, h, a, ha => by rw [show _ = [] from h] at ha; cases ha
  | (x, p) :: l, _, h, a, ha => by
    obtain ⟨c, r, rfl, e, h⟩ := h
    rcases List.mem_cons.mp ha with rfl | ha
    · exact ⟨_, e⟩
    · exact CellsAre.all h a ha
theorem CellsAre.crels {s : Shared} (S : St W σ s) {as : List Addr} {F : FM} (hF : ∀ a o, Fz (σ.dels as) s.heap a o → F a o) (hs : FLe (Fz σ s.heap) (Fz (σ.dels as) s.heap)) : ∀ {l : List (Str × PV)} {cl : List (Str × Addr)}, (∀ a ∈ cl.map (·.2), a ∈ as) → CellsAre σ l cl → CRels F l cl
  | [], _, _, h => h
  | (x, p) :: l, _, ha, h => by
    obtain ⟨c, r, rfl, e, h⟩ := h
    obtain ⟨o, v, ho, hc, hd, w, rfl, rw⟩ := S.hr _ _ e
    refine ⟨c, o, w, r, rfl, hF _ _ ⟨?_, ho, by rw [hc]; intro z; cases z⟩, hc, hd, (rw.mono hs).mono hF, CellsAre.crels S hF hs (fun a h' => ha a (List.mem_cons_of_mem _ h')) h⟩
    unfold Sig.dels
    rw [if_pos]
    simpa using ha c (by simp)
theorem X_Def (T : Top W) {c : Addr} (TT : TabTop W c) {name : Str} {params : Arguments} {body : List Stmt} {scope : Scope} {pos : Pos} {q₀ : Str × Addr} {cr : List (Str × Addr)} {cs : List (Str × PV)} {K : AFlow → Sig → Prop}
    (hd0 : params.defaults = []) (hk0 : params.kw_defaults = []) (ha : annTrees params none env = []) (hcl : closureFor scope env = Pure.pure (q₀ :: cr)) (hge : env.globals = mainGlobals) (hcode : env.code = .ref c)
    (hpos : pos = W.tpos) (hq : qualnameIn env name name = W.tq) (hdoc : docOf body = none) (hcs : CellsAre σ cs (q₀ :: cr))
    (h : O1 W k REq (storeName env name) (.clo name W.tq params body scope cs) (σ.dels ((q₀ :: cr).map (·.2))) fun _ σ' => K .next σ') : X W k env (.FunctionDef name params body [] none [] scope none name pos) σ K := fun A hA s hs hP => by
  refine wgen fun Q' hQ => ?_
  refine nestDef_K hd0 hk0 ha ?_
  rw [makeFunction_eq]
  simp only [List.zip_nil_right, List.filterMap_nil, List.isEmpty_nil, if_true, pure_bind]
  rw [hq]
  obtain ⟨bm, ob, hbm, hne0, hng, hneP, hbo, hcls, hdict, hdata⟩ := TT.hb
  have hbo : s.heap.get? bm = some ob := hs.old.get_of_cls hbo (by rw [hcls]; intro z; cases z)
  have C : CodeHd s.heap c W.tP := by
    obtain ⟨o, vs, file, tf, flags, tg, inF, text, tt, e, ec, r⟩ := TT.hd
    exact ⟨o, vs, file, tf, flags, tg, inF, text, tt, hs.old.get_of_cls e (by rw [ec]; intro z; cases z), ec, r⟩
  have hg := hs.globN T
  have hsub := sub_dels hs hcs.all
  -- the end: the function is made over h', a table of its own
  have fin : ∀ (ct doc : Value) (c' : Addr) (oc : Obj) (vs : Array Value) (t : Tok) (h' : Heap) (tk : Nat), St W σ { s with heap := h', toks := tk } → FLe (Fz σ s.heap) (Fz σ h') → Fz σ h' c' oc → oc.cls = .type "code" → oc.data = .fields vs → vs[1]? = some (.str W.tq t) →
      wpAny (model W.prog W.w) A (storeName env name (.ref h'.objs.size)) (fun _ s'' => Q' .next s'') (fun _ _ => False)
        { s with heap := h'.push { cls := .type "function", data := .func (fnX name W.tq params body scope (q₀ :: cr) .none .none doc ((W.mg "__name__").getD .none) none (.ref c') ct) }, toks := tk } := fun ct doc c' oc vs t h' tk S' F' fc e1 e2 e3 => by
    have S2 := S'.push { cls := .type "function", data := .func (fnX name W.tq params body scope (q₀ :: cr) .none .none doc ((W.mg "__name__").getD .none) none (.ref c') ct) }
    have hs2 := sub_dels S2 hcs.all
    have S3 := S2.sub hs2
    have F3 := fle_sub (h := h'.push { cls := .type "function", data := .func (fnX name W.tq params body scope (q₀ :: cr) .none .none doc ((W.mg "__name__").getD .none) none (.ref c') ct) }) hs2
    refine G.use (h (.ref h'.objs.size)) A hA _ S3 ?_ (fun _ s'' _ σ' b1 b2 b3 b4 => hQ _ _ ⟨.next, σ', b1, ((F'.trans fle_push).trans F3).trans b2, rfl, b4⟩) fun _ _ x => x
    refine ⟨h'.objs.size, _, c', oc, vs, t, ct, doc, _, _, rfl, F3 _ _ (fz_new S' (by intro z; cases z)), rfl, rfl, F3 _ _ (fle_push _ _ fc), e1, e2, e3, ?_⟩
    exact CellsAre.crels S2 (as := (q₀ :: cr).map (·.2)) (fun a o z => z) F3 (fun a z => z) hcs
  obtain ⟨hkn, ps, hP0, hps⟩ := hs.tab
  have C1 : ∀ oT : Obj, CodeHd (s.heap.push oT) c W.tP := fun oT => C.keeps fun b o e => Heap.get?_push_of_some _ e
  unfold makeTail
  rw [hcl, hge]
  refine wpAny_bind (wpAny_pure ?_)
  simp only [List.isEmpty_cons, Bool.false_eq_true, if_false]
  rcases hps with rfl | ⟨c', oc, vs, t, rfl, fc, e1, e2, e3⟩
  · refine wpAny_bind (wpAny_newTextTuple ?_)
    generalize ({ cls := Value.type "tuple", data := Data.seq _ } : Obj) = oT
    refine wpAny_bind (wpAny_functionCodeX hcode ((C1 _).code (Heap.get?_push_of_some _ hP0) trivial) ((C1 _).tab (Heap.get?_push_of_some _ hP0)) rfl fun c' h' tk hx hge' hlt _ hrec htb hnest => ?_)
    have hg' := (hg.push oT).extBut hx TT.ng
    refine wpAny_bind (wpAny_builtinsFor hg' hbm hne0 (hx _ _ hneP (Heap.get?_push_of_some _ hbo)) hcls hdict hdata ?_)
    refine wpAny_bind (wpAny_nsGet hg' ?_)
    rw [hdoc]
    have S1 := hs.push oT
    obtain ⟨c₂, oc, vs, t, ee, hoc, e2, e3⟩ := hrec
    cases ee
    obtain ⟨P', _, _, ⟨o2, vs2, g1, g2, g3, g4⟩, _⟩ := hnest
    rw [hoc] at g1
    cases g1
    have F2 := fle_tab S1 hx
    have fc : Fz σ h' c' oc := ⟨S1.fresh c' hge', hoc, by rw [g2]; intro z; cases z⟩
    have S2 := S1.tabStep T (tk := tk) hx (S1.old.step_table (TT.hd.tab TT.hp) ((C1 oT).tab (Heap.get?_push_of_some _ hP0)) htb hx TT.ns) ⟨W.knm (fun a o _ z => F2 a o (fle_push a o z)) hkn, _, htb.2, .inr ⟨c', oc, vs, t, by rw [hpos]; rfl, fc, g2, e2, e3⟩⟩ TT.ns
    exact wpAny_bind (wpAny_pure (wpAny_newObj_type (fin _ .none c' oc vs t h' tk S2 (fle_push.trans F2) fc g2 e2 e3) (by size_fits)))
  · refine wpAny_bind (wpAny_newTextTuple ?_)
    generalize ({ cls := Value.type "tuple", data := Data.seq _ } : Obj) = oT
    have S1 := hs.push oT
    have hcA : codeAmong pos (#[rawInt W.tpos.line, rawInt W.tpos.col, Value.ref c']).toList = some (.ref c') := by
      subst hpos
      show (if ((W.tpos.line : Int) == (W.tpos.line : Int) && (W.tpos.col : Int) == (W.tpos.col : Int)) = true then _ else _) = _
      simp
    refine wpAny_bind (wpAny_functionCode_hit hcode ((C1 _).code (Heap.get?_push_of_some _ hP0) (by exact trivial)) hcA ?_)
    refine wpAny_bind (wpAny_builtinsFor (hg.push _) hbm hne0 (Heap.get?_push_of_some _ hbo) hcls hdict hdata ?_)
    refine wpAny_bind (wpAny_nsGet (hg.push _) ?_)
    rw [hdoc]
    exact wpAny_bind (wpAny_pure (wpAny_newObj_type (fin _ .none c' oc vs t _ s.toks S1 fle_push (fle_push _ _ fc) e1 e2 e3) (by size_fits)))
theorem L_freeK {x : Str} {p : PV} {cs : List (Str × PV)} {K : PV → Sig → Prop} (hk : env.scope.kind = .function) (hl : env.kindOf x = some .free) (hP : ∀ F, W.kn F → CRels F cs env.cells) (hc : cs.lookup x = some p)
    (h : K p σ) (hn : (x == ("__classdict__" : Str)) = false := by decide) : G W k P VRel (loadName env x) σ K := .id h fun A hA s hs hp Q q => by
  obtain ⟨c, o, v, e, f, d, r⟩ := crels_get (hP _ hs.tab.1) hc
  exact wpAny_loadName_free hk hl e ⟨o, f.2.1, d⟩ (q _ _ rfl rfl rfl r) hn
noncomputable def Wd.with (W : Wd) (cs : List (Str × PV)) (cl : List (Str × Addr)) : Wd := { W with kn := fun F => W.kn F ∧ CRels F cs cl, knm := fun m h => ⟨W.knm m h.1, CRels.mono2 m h.2⟩ }
theorem Top.with (T : Top W) (cs : List (Str × PV)) (cl : List (Str × Addr)) : Top (W.with cs cl) := ⟨T.last, T.kin, T.kcls, T.lim, T.glob, T.globN, T.blt, T.bltN⟩
theorem St.with {s : Shared} (S : St W σ s) {cs : List (Str × PV)} {cl : List (Str × Addr)} (h : CRels (FrOf σ s) cs cl) : St (W.with cs cl) σ s := ⟨S.hr, S.old, S.above, S.sz, S.lim, S.os, S.gens, ⟨⟨S.tab.1, h⟩, S.tab.2⟩⟩
theorem St.without {s : Shared} {cs : List (Str × PV)} {cl : List (Str × Addr)} (S : St (W.with cs cl) σ s) : St W σ s := ⟨S.hr, S.old, S.above, S.sz, S.lim, S.os, S.gens, ⟨S.tab.1.1, S.tab.2⟩⟩
theorem CC_clo {nm q : Str} {ps : Arguments} {body : List Stmt} {sc : Scope} {cs : List (Str × PV)} {args kv : List PV} {kn : List Str} {K : PV → Sig → Prop} (hco : sc.isCoroutine = false) (hgen : sc.isGenerator = false)
    (hb : ∀ a c ct doc pm cl vs ws, G (W.with cs cl) k (fun F => VRels F args vs ∧ VRels F kv ws) BRels (bindArgs (fnX nm q ps body sc cl .none .none doc pm none (.ref c) ct) ⟨vs, kn.zip ws⟩) σ fun bp σ₁ => ∀ L, Fresh σ₁ L →
      SB (W.with cs cl) k (envFn (fnX nm q ps body sc cl .none .none doc pm none (.ref c) ct) cl L a) bp (cellsUpd (L + 1) sc.names (σ₁.upd L (.frame fun _ => none)))
      fun σ₂ => XS (W.with cs cl) k (envFn (fnX nm q ps body sc cl .none .none doc pm none (.ref c) ct) cl L a) body σ₂ fun fl σ₃ => ∃ σ₄, (σ₄ = res L σ₃ ∨ ∀ s, St (W.with cs cl) σ₃ s → Sub σ₄ σ₃) ∧ K (retOf fl) σ₄) : CC W (k + 1) (.clo nm q ps body sc cs) args kn kv σ K := fun v vs ws A hA s hs hv h1 h2 => by
  obtain ⟨a, o, c, oc, vs', t, ct, doc, pm, cl, rfl, f, hcl, hd, fc, e1, e2, e3, hr⟩ := hv
  have := body_code (W := W.with cs cl) (o := o) (k := k) (K := K) (P := fun F => (F a o ∧ F c oc) ∧ VRels F args vs ∧ VRels F kv ws) (fd := fnX nm q ps body sc cl .none .none doc pm none (.ref c) ct) (body := body) (a := a) (vs := vs) (kw := kn.zip ws) (σ := σ)
    (fun F F' m x => ⟨⟨m _ _ x.1.1, m _ _ x.1.2⟩, VRels.mono m x.2.1, VRels.mono m x.2.2⟩) rfl hco hgen (fun s S x => ⟨x.1.1.2.1, hd, c, oc, vs', t, rfl, x.1.2.2.1, e2, e3⟩)
    ((hb a c ct doc pm cl vs ws).pre (fun F x => x.2) |>.imp fun bp σ₁ x L hL => (x L hL).imp fun _ y => y.pre fun _ _ => trivial) A hA s (hs.with hr) ⟨⟨f, fc⟩, h1, h2⟩
  refine codeAny_mono this fun r s' z => ?_
  unfold CPost at z ⊢
  cases r with
  | error e => exact z
  | ok fl => cases fl with
    | ret v => obtain ⟨b, σ', a1, a2⟩ := z; exact ⟨b, σ', a1.without, a2⟩
    | next => exact z
    | brk => exact z
    | cont => exact z
end
end Mine
end
section
set_option tactic.hygienic false
set_option hygiene false
set_option maxRecDepth 100000
namespace Mine
section
variable {W : Wd} {k : Nat} {σ : Sig} {env : Env} {P : FM → Prop} {x y : List Nat}
theorem Room.tc {A : Around} {k : Nat} {C : Addr} {l : List Value} {kw : List (Str × Value)} (h : Room A (k + 1)) : Room (A.under (.builtin "type.__call__" ⟨.ref C :: l, kw⟩)) k := by
  have hw : (Code.builtin "type.__call__" ⟨.ref C :: l, kw⟩).weight ≤ 1 := by first | exact Nat.le_refl _ | exact Nat.zero_le _ | kernel_rfl
  have hu : (Code.builtin "type.__call__" ⟨.ref C :: l, kw⟩).cUnits ≤ 4 := by first | exact Nat.le_refl _ | (show 1 ≤ 4; decide) | (show 2 ≤ 4; decide) | (show 0 ≤ 4; decide)
  exact ⟨h.1, by have := h.2.1; show A.depth + (Code.builtin "type.__call__" ⟨.ref C :: l, kw⟩).weight + k ≤ 900; lia, by have := h.2.2; show A.units + (Code.builtin "type.__call__" ⟨.ref C :: l, kw⟩).cUnits + 8 * k ≤ 9000; lia⟩
theorem CC_make (T : Top W) {C fI : Addr} {args kv : List PV} {kn : List Str} {K : PV → Sig → Prop} (X : ClsIs W C) (hi : findIn W.K (.ref C) "__init__" = some (some (.ref fI))) (hf : typeIn W.K (.ref fI) = some (.type "function"))
    (h : ∀ d, Fresh σ d → CC W k (.ref fI) (.ref (d + 1) :: args) kn kv ((σ.upd d (.part (d + 1))).upd (d + 1) (.inst C d (fun _ => none) 0)) fun p σ' => p = .none ∧ K (.ref (d + 1)) σ') : CC W (k + 1) (.ref C) args kn kv σ K := fun v vs ws A hA s hs hv h1 h2 => by
  obtain rfl : v = .ref C := hv
  have S1 := hs.pushUpd emptyDict (.part (s.heap.objs.size + 1)) ⟨_, Heap.get?_push_size _ rfl⟩
  have F1 := fle_push_upd (σ := σ) (h := s.heap) (o := emptyDict) (ao := .part (s.heap.objs.size + 1))
  have hsz : (s.heap.push emptyDict).objs.size = s.heap.objs.size + 1 := Heap.size_push ..
  have hget : ((s.heap.push emptyDict).push (instObj C s.heap.objs.size)).get? s.heap.objs.size = some emptyDict := Heap.get?_push_of_some _ (Heap.get?_push_size _ rfl)
  have S2 := S1.pushUpd (instObj C s.heap.objs.size) (.inst C s.heap.objs.size (fun _ => none) 0) (by
    show OR _ ((s.heap.push emptyDict).push (instObj C s.heap.objs.size)) (s.heap.push emptyDict).objs.size _
    refine ⟨Heap.get?_push_size _ rfl, by rw [hsz]; exact Nat.lt_succ_self _, ?_, #[], 0, hget, fun e he => by simp at he, Nat.zero_le _, fun y => rfl⟩
    rw [hsz]
    rw [upd_ne (Nat.ne_of_lt (Nat.lt_succ_self _)), upd_same])
  have F2 := fle_push_upd (σ := σ.upd s.heap.objs.size (.part (s.heap.objs.size + 1))) (h := s.heap.push emptyDict) (o := instObj C s.heap.objs.size) (ao := .inst C s.heap.objs.size (fun _ => none) 0)
  rw [show ({ s with heap := s.heap.push emptyDict } : Shared).heap.objs.size = s.heap.objs.size + 1 from hsz] at S2
  rw [hsz] at F2
  have F := F1.trans F2
  have hkin := hs.kin T
  obtain ⟨hh, g, d, t, os⟩ := s
  refine make_core (makes_of hkin X.mks) (looks_findIn hkin hi) (fun self => bind_fn hkin self hf) (.inl rfl) ?_
  refine codeAny_mono (h hh.objs.size hs.fresh (.ref fI) (.ref (hh.objs.size + 1) :: vs) ws (A.under (.builtin "type.__call__" ⟨.ref C :: vs, kn.zip ws⟩)) hA.tc _ S2 (Eq.refl _ : Value.ref fI = Value.ref fI) ⟨_, _, rfl, (Eq.refl _ : Value.ref _ = Value.ref _), VRels.mono F h1⟩ (VRels.mono F h2)) fun r s' z => ?_
  unfold CPost at z
  cases r with
  | error e => exact z.elim
  | ok fl => cases fl with
    | ret v =>
      obtain ⟨b, σ', a1, a2, a3, rfl, a5⟩ := z
      exact ⟨a3, .ref (hh.objs.size + 1), σ', a1, F.trans a2, (Eq.refl _ : Value.ref _ = Value.ref _), a5⟩
    | next => exact z.elim
    | brk => exact z.elim
    | cont => exact z.elim
theorem KP_cls {C : Addr} {o : Obj} {cd : ClassData} (ho : W.h₁.get? C = some o) (hc : o.cls ≠ .none) (hd : o.data = .cls cd) (hs : ∀ h : Heap, W.K.In h → Looks (model W.prog W.w) h (specialOf (.ref C) "__call__") (some (.builtin "type.__call__"))) (T : Top W) : KP W .machine (.ref C) σ := fun A hA s S v hv Q' q => by
  obtain rfl : v = .ref C := hv
  unfold keeperOf
  refine wpAny_bind (wpAny_load (S.base ho hc).2.1 ?_)
  rw [hd]
  refine wpAny_bind ((hs _ (S.kin T)).here (wpAny_pure ?_))
  exact q
end
end Mine
end
section
set_option tactic.hygienic false
set_option hygiene false
set_option maxRecDepth 100000
namespace Mine
structure TabF (W : Wd) (d : Addr) (f : Int → Option (List Nat)) : Prop where
  lo : (d == sysModules) = false
  at_ : ∃ o, W.h₁.get? d = some o ∧ o.cls ≠ .none ∧ o.dict = none
  map : ∃ g : Int → Option Value, W.h₁.MapOf (intKind W.prog W.w) d g ∧ ∀ i, match f i with
    | some x => ∃ t, g i = some (.str (st x) t)
    | none => g i = none
structure SetF (W : Wd) (d : Addr) (f : Int → Bool) : Prop where
  at_ : ∃ o, W.h₁.get? d = some o ∧ o.cls ≠ .none
  set : ∃ n, W.h₁.SetOf (intKind W.prog W.w) d f n
section
variable {W : Wd} {k : Nat} {σ : Sig} {env : Env} {P : FM → Prop} {x y : List Nat}
theorem TabF.here {d : Addr} {f : Int → Option (List Nat)} (t : TabF W d f) {s : Shared} (S : St W σ s) : ∃ g : Int → Option Value, s.heap.MapOf (intKind W.prog W.w) d g ∧ ∀ i, match f i with
    | some x => ∃ t, g i = some (.str (st x) t)
    | none => g i = none := by
  obtain ⟨o, h1, h2, _⟩ := t.at_
  obtain ⟨g, ⟨o', es, ep, e, r⟩, hg⟩ := t.map
  rw [h1] at e; cases e
  exact ⟨g, ⟨o, es, ep, S.old.get_of_cls h1 h2, r⟩, hg⟩
theorem GM_tab {d : Addr} {f : Int → Option (List Nat)} (t : TabF W d f) {K : PV × List PV → Sig → Prop} (h : K (.blt "dict.get", [.ref d]) σ) : GM W k "get" (.ref d) σ K := fun v pl => .id h fun A hA s hs e Q q => by
  obtain rfl : v = .ref d := e
  obtain ⟨g, hm, _⟩ := t.here hs
  obtain ⟨o, h1, h2, h3⟩ := t.at_
  exact getMethod_builtin hm.typeIs PySem.F.plainAttrs_dict PySem.F.slot_dict_get PySem.F.type_dict_get (fun a e => by cases e; exact ⟨o, hs.old.get_of_cls h1 h2, h3⟩) (q _ _ rfl rfl rfl ⟨(Eq.refl _ : Value.builtin _ = Value.builtin _), VRels.one (Eq.refl _ : Value.ref d = Value.ref d)⟩)
theorem C_get1 {d : Addr} {f : Int → Option (List Nat)} (t : TabF W d f) {i : Int} {K : PV → Sig → Prop} (h : K (match f i with | some x => .str x | none => .none) σ) : C W k (.blt "dict.get") [.ref d, .int i] [] [] σ K := C2 fun v va vb => .id h fun A hA s hs hpat Q q => by
  obtain ⟨e, e1, u, e2⟩ := hpat
  obtain rfl : v = .builtin "dict.get" := e
  obtain rfl : va = .ref d := e1
  subst e2
  obtain ⟨g, hm, hg⟩ := t.here hs
  refine call_meetsIn PySem.F.slot_dict_get hm.typeIs PySem.F.entry_dict_get (PySem.F.args_dict_get_2 _ _) (meets_dict_get (intKind W.prog W.w) d (k := i) (by simp [intKind, Value.isInt]) t.lo) ⟨g, hm, q _ _ rfl rfl rfl ?_⟩
  have := hg i
  cases e : f i with
  | none => rw [e] at this; rw [show g i = none from this]; exact (Eq.refl _ : Value.none = Value.none)
  | some x => rw [e] at this; obtain ⟨t', e'⟩ := this; rw [e']; exact ⟨t', rfl⟩
theorem C_get2 {d : Addr} {f : Int → Option (List Nat)} (t : TabF W d f) {i : Int} {p : PV} {K : PV → Sig → Prop} (h : K (match f i with | some x => .str x | none => p) σ) : C W k (.blt "dict.get") [.ref d, .int i, p] [] [] σ K := fun v vs ws => .id h fun A hA s hs hpat Q q => by
  obtain ⟨e, ⟨va, r, e0, e1, vb, r', e0', ⟨u, e2⟩, vc, r'', e0'', e3, e4⟩, _⟩ := hpat
  obtain rfl : v = .builtin "dict.get" := e
  subst e0 e0' e0''
  obtain rfl : va = .ref d := e1
  obtain rfl : r'' = [] := e4
  subst e2
  obtain ⟨g, hm, hg⟩ := t.here hs
  refine call_meetsIn PySem.F.slot_dict_get hm.typeIs PySem.F.entry_dict_get (PySem.F.args_dict_get_3 _ _ _) (meets_dict_get_default (intKind W.prog W.w) d (k := i) (by simp [intKind, Value.isInt]) t.lo vc) ⟨g, hm, q _ _ rfl rfl rfl ?_⟩
  have := hg i
  cases e : f i with
  | none => rw [e] at this; rw [show g i = none from this]; exact e3
  | some x => rw [e] at this; obtain ⟨t', e'⟩ := this; rw [e']; exact ⟨t', rfl⟩
theorem in_set {d : Addr} {f : Int → Bool} (t : SetF W d f) {i : Int} {K : PV → Sig → Prop} (h : K (.bool (f i)) σ) : O2 W k VRel (compareOp .In) (.int i) (.ref d) σ K := fun va vb => .id h fun A hA s hs hpat Q q => by
  obtain ⟨⟨u, e⟩, e1⟩ := hpat
  subst e
  obtain rfl : vb = .ref d := e1
  obtain ⟨o, h1, h2⟩ := t.at_
  obtain ⟨n, o', es, ep, tt, e, r⟩ := t.set
  rw [h1] at e; cases e
  exact wpAny_inSet_of (knd := intKind W.prog W.w) (by simp [intKind, Value.isInt]) rfl ⟨o, es, ep, tt, hs.old.get_of_cls h1 h2, r⟩ (q _ _ rfl rfl rfl (Eq.refl _ : Value.bool _ = Value.bool _))
noncomputable def LstIs (σ : Sig) (p : PV) (l : List PV) : Prop := p = .lst l ∨ ∃ a, p = .ref a ∧ σ a = some (.list l)
theorem LstIs.get {p : PV} {l : List PV} (x : LstIs σ p l) {s : Shared} (S : St W σ s) {v : Value} (h : VRel (FrOf σ s) p v) : ∃ a vs n, v = .ref a ∧ s.heap.get? a = some (listOf vs n) ∧ VRels (FrOf σ s) l vs.toList := by
  rcases x with rfl | ⟨a, rfl, e⟩
  · obtain ⟨a, vs, n, e, f, r⟩ := h; exact ⟨a, vs, n, e, f.2.1, r⟩
  · obtain ⟨vs, n, ho, r⟩ := S.hr _ _ e; exact ⟨a, vs, n, h, ho, r⟩
theorem add_LL (T : Top W) {p q : PV} {l m : List PV} {K : PV → Sig → Prop} (hp : LstIs σ p l) (hq : LstIs σ q m) (hz : l.length + m.length ≤ 1000000) (h : K (.lst (l ++ m)) σ) : O2 W k VRel (binaryOp .Add) p q σ K := fun va vb => .grow T h fun A hA s hs hpat Q q => by
  obtain ⟨h1, h2⟩ := hpat
  obtain ⟨a, vs, n, rfl, f, r⟩ := hp.get hs h1
  obtain ⟨b, ws, n', rfl, f', r'⟩ := hq.get hs h2
  have hl := r.length
  have hl' := r'.length
  refine concat_meets ⟨_, f, rfl⟩ ⟨_, f', rfl⟩ noFill_list_add seq_list_add PySem.F.slot_list_add PySem.F.entry_list_add (PySem.F.args_list_add_2 _ _) (list_addW a b vs ws n n' Option.none Option.none #[] #[] (by
    rw [sizeLine_eq]; rw [Array.length_toList] at hl hl'; lia)) ⟨f, f', q _ _ _ sle_push ⟨_, vs ++ ws, 0, rfl, fz_new hs (by intro z; cases z), ?_⟩⟩
  rw [Array.toList_append]
  exact (r.mono (fle_grow sle_push)).append (r'.mono (fle_grow sle_push))
theorem not_in_ss {K : PV → Sig → Prop} (h : K (.bool (!subOf x y)) σ) : O2 W k VRel (compareOp .NotIn) (.str y) (.str x) σ K := fun va vb => .id h fun A hA s hs hP Q q => by
  obtain ⟨⟨t, rfl⟩, u, rfl⟩ := hP
  with_reducible refine notIn_str (q _ _ rfl rfl rfl ?_)
  show _ = _
  rw [str_len]; rfl
end
end Mine
end
section
set_option tactic.hygienic false
set_option hygiene false
set_option maxRecDepth 100000
namespace Mine
open PySem.Sre (M)
theorem admitted_none (m : Sre.M) (h : ∀ i, i < m.lim → ∀ seen, ∃ seen', Sre.inSet m.code (m.text.getD i 0) m.code.size 5 true seen = .ok (false, seen')) : ∀ fuel s seen, ∃ seen', Sre.M.admitted m fuel s seen = .ok (none, seen')
  | 0, s, seen => ⟨seen, rfl⟩
  | fuel + 1, s, seen => by
    unfold Sre.M.admitted
    by_cases hs : s ≥ m.lim
    · rw [if_pos hs]; exact ⟨seen, rfl⟩
    · rw [if_neg hs]
      obtain ⟨seen', e⟩ := h s (Nat.lt_of_not_le hs) seen
      rw [e]
      exact admitted_none m h fuel (s + 1) seen'
theorem drive_failed {M : Model} {A : Around} {E : Value → Shared → Prop} {s : Shared} {m : Sre.M} {Q : Option Sre.M → Shared → Prop} (h1 : m.answer = some false) (h2 : m.frames = []) (h3 : m.outcome = none) (h : Q none s) : wpAny M A (Builtin.Re.reRunToEnd m) Q E s := by
  unfold Builtin.Re.reRunToEnd
  have e1 : m.step = { m with outcome := some .failed } := by
    unfold Sre.M.step
    rw [h3, h1, h2]
    rfl
  have e2 : m.runFor Builtin.Re.reTurnSteps = { m with outcome := some .failed } := by
    show m.runFor 4 = _
    unfold Sre.M.runFor
    rw [h3, e1]
    rfl
  have e3 : Builtin.Re.reDrive (2 ^ 64) m = Pure.pure { m with outcome := some .failed } := by
    rw [show (2 : Nat) ^ 64 = (2 ^ 64 - 1) + 1 from rfl]
    unfold Builtin.Re.reDrive
    rw [e2]
    rfl
  rw [e3]
  refine wpAny_bind (wpAny_pure ?_)
  refine wpAny_bind (wpAny_forIn_list _ (fun _ _ s' => s' = s) _ (fun x rest b s' e => ?_) (fun b s' e => ?_) _ _ rfl)
  · subst e
    dsimp only
    split
    · exact wpAny_bind (wpAny_rule (wpAny_pure rfl))
    · exact wpAny_pure rfl
  · subst e
    exact wpAny_pure h
structure OneSet (code : Array Nat) : Prop where
  info : Sre.ops[code.getD 0 0]? = some .INFO
  kind : code.getD 2 0 = 4
  least : code.getD 3 0 = 1
theorem search_says {code text : Array Nat} (o : OneSet code) (h : ∀ i, i < text.size → ∀ seen, ∃ seen', Sre.inSet code (text.getD i 0) code.size 5 true seen = .ok (false, seen')) :
    ∃ m, Sre.forSearch code text 0 0 text.size false = m ∧ m.answer = some false ∧ m.frames = [] ∧ m.outcome = none := by
  have key : ∀ m : Sre.M, m.code = code → m.text = text → m.lim = text.size → m.frames = [] → m.outcome = none → ∀ s f, (m.attemptFrom s f).answer = some false ∧ (m.attemptFrom s f).frames = [] ∧ (m.attemptFrom s f).outcome = none := fun m e1 e2 e3 e4 e5 s f => by
    have hf : m.hasFirstSet = true := by
      unfold Sre.M.hasFirstSet
      rw [e1, o.info, o.kind]
      rfl
    obtain ⟨seen', e⟩ := admitted_none m (by rw [e1, e2, e3]; exact h) (m.lim + 1 - s) s m.seen
    unfold Sre.M.attemptFrom
    rw [hf, e]
    exact ⟨rfl, e4, e5⟩
  refine ⟨_, rfl, ?_⟩
  unfold Sre.forSearch
  dsimp only
  split
  · exact ⟨rfl, rfl, rfl⟩
  · exact key _ rfl rfl rfl rfl rfl _ _
theorem set_name {c : Nat} (h1 : 32 ≤ c) (h2 : c ≠ 127) (seen : Sre.Seen) : ∃ seen', Sre.inSet #[14, 10, 4, 1, 1, 22, 0, 31, 16, 127, 0, 13, 7, 22, 0, 31, 16, 127, 0, 1] c 20 5 true seen = .ok (false, seen') := by
  unfold Sre.inSet
  show ∃ seen', (if 0 ≤ c && c ≤ 31 then _ else _) = _
  rw [if_neg (by simp; lia)]
  unfold Sre.inSet
  show ∃ seen', (if c == 127 then _ else _) = _
  rw [if_neg (by simpa using h2)]
  exact ⟨_, rfl⟩
theorem set_value {c : Nat} (h1 : 32 ≤ c ∨ c = 9) (h2 : c ≠ 127) (seen : Sre.Seen) : ∃ seen', Sre.inSet #[14, 14, 4, 1, 1, 9, 4294966783, 0, 0, 2147483648, 0, 0, 0, 0, 0, 13, 11, 9, 4294966783, 0, 0, 2147483648, 0, 0, 0, 0, 0, 1] c 28 5 true seen = .ok (false, seen') := by
  unfold Sre.inSet
  show ∃ seen', (if (decide (c < 256) && Nat.testBit ((#[14, 14, 4, 1, 1, 9, 4294966783, 0, 0, 2147483648, 0, 0, 0, 0, 0, 13, 11, 9, 4294966783, 0, 0, 2147483648, 0, 0, 0, 0, 0, 1] : Array Nat).getD (5 + (1 + c / 32)) 0) (c % 32)) = true then _ else _) = _
  rw [if_neg]
  · exact ⟨_, rfl⟩
  · intro z
    rw [Bool.and_eq_true, decide_eq_true_eq] at z
    obtain ⟨z1, z2⟩ := z
    have : ∀ c : Fin 256, (32 ≤ c.val ∨ c.val = 9) → c.val ≠ 127 → Nat.testBit ((#[14, 14, 4, 1, 1, 9, 4294966783, 0, 0, 2147483648, 0, 0, 0, 0, 0, 13, 11, 9, 4294966783, 0, 0, 2147483648, 0, 0, 0, 0, 0, 1] : Array Nat).getD (5 + (1 + c.val / 32)) 0) (c.val % 32) = false := by decide +kernel
    rw [this ⟨c, z1⟩ h1 h2] at z2
    cases z2
end Mine
end
section
set_option tactic.hygienic false
set_option hygiene false
set_option maxRecDepth 100000
namespace Mine
theorem pat_plain : PlainAttrs "re.Pattern" := ⟨⟨"object.__getattribute__", by rw [typeLookup_type, builtinLookup_eq_fast]; kernel_rfl, by decide +kernel⟩, by rw [typeLookup_type, builtinLookup_eq_fast]; kernel_rfl⟩
theorem pat_slot : Slot "re.Pattern" "search" "re.Pattern.search" :=
  .of (owner := "re.Pattern") (n := "search") (by rw [typeLookup_type, builtinLookup_eq_fast]; kernel_rfl) (by decide +kernel) (by decide +kernel) (by decide +kernel)
    (by first | exact .inl (by decide +kernel) | exact .inr (by decide +kernel)) (by rw [isSubtype_type]; kernel_rfl)
theorem pat_type : typeOf (.builtin "re.Pattern.search") = pure (.type "method_descriptor") := by show builtinType _ = _; rw [builtinType_eq_fast]; kernel_rfl
theorem pat_entry : entryFor table "re.Pattern.search" = some Builtin.«re.Pattern.search» := entryFor_of_fast (by kernel_rfl)
theorem pat_args (a b : Value) : argsOk "re.Pattern.search" ⟨[a, b], []⟩ := by unfold argsOk; kernel_rfl
theorem pat_named (v : Value) : Builtin.Re.reNamed "re.Pattern.search" "search" ["string", "pos", "endpos"] 1 [v] [] = Pure.pure [some v, none, none] := by first | rfl | kernel_rfl
structure PatF (W : Wd) (p : Addr) (code : Array Nat) : Prop where
  at_ : ∃ o vs cl oc xs n, W.h₁.get? p = some o ∧ o.cls = .type "re.Pattern" ∧ o.dict = none ∧ o.data = .fields vs ∧ vs.getD 5 .none = .ref cl ∧ Builtin.Re.reRawNat (vs.getD 6 .none) = 0 ∧ Builtin.Re.reRawNat (vs.getD 2 .none) = 0 ∧
    W.h₁.get? cl = some oc ∧ oc.cls ≠ .none ∧ oc.data = .seq xs n ∧ (xs.map Builtin.Re.reRawOf).map (·.toNat) = code
  one : OneSet code
section
variable {W : Wd} {k : Nat} {σ : Sig} {env : Env} {P : FM → Prop} {x y : List Nat}
theorem GM_pat {p : Addr} {code : Array Nat} (t : PatF W p code) {K : PV × List PV → Sig → Prop} (h : K (.blt "re.Pattern.search", [.ref p]) σ) : GM W k "search" (.ref p) σ K := fun v pl => .id h fun A hA s hs e Q q => by
  obtain rfl : v = .ref p := e
  obtain ⟨o, vs, cl, oc, xs, n, h1, h2, h3, _⟩ := t.at_
  have ho := hs.old.get_of_cls h1 (by rw [h2]; intro z; cases z)
  exact getMethod_builtin ⟨o, ho, h2⟩ pat_plain pat_slot pat_type (fun a e => by cases e; exact ⟨o, ho, h3⟩) (q _ _ rfl rfl rfl ⟨(Eq.refl _ : Value.builtin _ = Value.builtin _), VRels.one (Eq.refl _ : Value.ref p = Value.ref p)⟩)
theorem C_search {p : Addr} {code : Array Nat} (t : PatF W p code) {K : PV → Sig → Prop} (hz : x.length ≤ 1000000) (hx : ∀ c ∈ x, ∀ seen, ∃ seen', Sre.inSet code c code.size 5 true seen = .ok (false, seen')) (h : K .none σ) : C W k (.blt "re.Pattern.search") [.ref p, .str x] [] [] σ K := C2 fun v va vb => .id h fun A hA s hs hpat Q q => by
  obtain ⟨e, e1, u, e2⟩ := hpat
  obtain rfl : v = .builtin "re.Pattern.search" := e
  obtain rfl : va = .ref p := e1
  subst e2
  obtain ⟨o, vs, cl, oc, xs, n, h1, h2, h3, h4, h5, h6, h7, h8, h9, h10, h11⟩ := t.at_
  have ho := hs.old.get_of_cls h1 (by rw [h2]; intro z; cases z)
  have hoc := hs.old.get_of_cls h8 h9
  refine wpAny_call_entry pat_slot ⟨o, ho, h2⟩ pat_entry ?_ (pat_args _ _)
  unfold Builtin.«re.Pattern.search» Builtin.Re.reTarget
  dsimp only
  rw [pat_named]
  refine wpAny_bind (wpAny_bind (wpAny_pure ?_))
  dsimp only
  refine wpAny_bind (wpAny_pure (wpAny_bind (wpAny_pure (wpAny_bind (wpAny_fieldsOf ho h4 ?_)))))
  unfold Builtin.Re.reTextOf asStr?
  refine wpAny_bind (wpAny_bind (wpAny_pure (wpAny_pure ?_)))
  dsimp only
  rw [h6]
  rw [if_neg (by decide), if_neg (by decide)]
  refine wpAny_bind (wpAny_pure ?_)
  rw [h5]
  unfold Builtin.Re.reRawItems
  refine wpAny_bind (wpAny_bind (wpAny_seqItems hoc h10 (wpAny_pure (wpAny_pure ?_))))
  dsimp only
  rw [h7]
  have hl : min (2 ^ 63 - 1 : Int).toNat x.toArray.size = x.toArray.size := by
    rw [List.size_toArray]
    exact Nat.min_eq_right (Nat.le_trans hz (by decide))
  rw [hl]
  have hc : Array.map (fun x => Int.toNat x) (Array.map Builtin.Re.reRawOf ((some xs).getD #[])) = code := h11
  rw [hc, show min (Int.toNat 0) x.toArray.size = 0 from Nat.zero_min _]
  obtain ⟨m, em, m1, m2, m3⟩ := search_says (text := x.toArray) t.one (fun i hi seen => by
    rw [List.size_toArray] at hi
    have : x.toArray.getD i 0 ∈ x := by
      simp [Array.getD, hi]
    exact hx _ this seen)
  rw [em]
  unfold Builtin.Re.reAnswer
  refine wpAny_bind (drive_failed m1 m2 m3 ?_)
  exact wpAny_pure ⟨_, rfl, q _ _ rfl rfl rfl (Eq.refl _ : Value.none = Value.none)⟩
end
end Mine
end
section
set_option tactic.hygienic false
set_option hygiene false
set_option maxRecDepth 100000
namespace Mine
noncomputable def defAt (n : Nat) : Stmt := PySem.Challenge.pw_uc0056_01.main.body.getD n (.Pass default)
noncomputable def bodyOf : Stmt → List Stmt
  | .FunctionDef _ _ b _ _ _ _ _ _ _ => b
  | .ClassDef _ _ _ b .. => b
  | _ => []
noncomputable def paramsOf : Stmt → Arguments
  | .FunctionDef _ p .. => p
  | _ => default
noncomputable def scopeOf : Stmt → Scope
  | .FunctionDef _ _ _ _ _ _ s _ _ _ => s
  | _ => default
noncomputable def nameOf : Stmt → Str
  | .FunctionDef n .. => n
  | .ClassDef n .. => n
  | _ => ""
structure Fn (W : Wd) (a : Addr) (q : Str) (st : Stmt) : Prop where
  fn : ∃ doc pm an cd ct, FnAt W a (fnX (nameOf st) q (paramsOf st) (bodyOf st) (scopeOf st) [] .none .none doc pm an cd ct) (bodyOf st)
section
variable {W : Wd} {k : Nat} {σ : Sig} {env : Env} {P : FM → Prop} {x y : List Nat}
theorem bind1 {fd : FuncData} {n : Str} {p : PV} {K : List (Str × PV) → Sig → Prop} (e : ∀ v, bindArgs fd ⟨[v], []⟩ = Pure.pure [(n, v)]) (h : K [(n, p)] σ) : ∀ vs ws, G W k (fun F => VRels F [p] vs ∧ VRels F [] ws) BRels (bindArgs fd ⟨vs, ([] : List Str).zip ws⟩) σ K := fun vs ws A hA s hs hpat => by
  obtain ⟨⟨v, r, e1, h1, e2⟩, _⟩ := hpat
  subst e1
  obtain rfl : r = [] := e2
  rw [show ([] : List Str).zip ws = [] from rfl, e]
  exact wpAny_pure ⟨[(n, p)], σ, hs, FLe.refl _, ⟨v, [], rfl, h1, rfl⟩, h⟩
theorem bind2 {fd : FuncData} {n m : Str} {p q : PV} {K : List (Str × PV) → Sig → Prop} (e : ∀ v w, bindArgs fd ⟨[v, w], []⟩ = Pure.pure [(n, v), (m, w)]) (h : K [(n, p), (m, q)] σ) : ∀ vs ws, G W k (fun F => VRels F [p, q] vs ∧ VRels F [] ws) BRels (bindArgs fd ⟨vs, ([] : List Str).zip ws⟩) σ K := fun vs ws A hA s hs hpat => by
  obtain ⟨⟨v, r, e1, h1, w, r', e3, h2, e2⟩, _⟩ := hpat
  subst e1 e3
  obtain rfl : r' = [] := e2
  rw [show ([] : List Str).zip ws = [] from rfl, e]
  exact wpAny_pure ⟨[(n, p), (m, q)], σ, hs, FLe.refl _, ⟨v, _, rfl, h1, w, [], rfl, h2, rfl⟩, h⟩
theorem bind3 {fd : FuncData} {n m l : Str} {p q o : PV} {K : List (Str × PV) → Sig → Prop} (e : ∀ v w u, bindArgs fd ⟨[v, w, u], []⟩ = Pure.pure [(n, v), (m, w), (l, u)]) (h : K [(n, p), (m, q), (l, o)] σ) : ∀ vs ws, G W k (fun F => VRels F [p, q, o] vs ∧ VRels F [] ws) BRels (bindArgs fd ⟨vs, ([] : List Str).zip ws⟩) σ K := fun vs ws A hA s hs hpat => by
  obtain ⟨⟨v, r, e1, h1, w, r', e3, h2, u, r'', e4, h3, e2⟩, _⟩ := hpat
  subst e1 e3 e4
  obtain rfl : r'' = [] := e2
  rw [show ([] : List Str).zip ws = [] from rfl, e]
  exact wpAny_pure ⟨[(n, p), (m, q), (l, o)], σ, hs, FLe.refl _, ⟨v, _, rfl, h1, w, _, rfl, h2, u, [], rfl, h3, rfl⟩, h⟩
structure Blts (W : Wd) : Prop where
  blt : ∀ n ∈ (["ord", "chr", "len", "hex", "iter", "sum", "sorted"] : List String), W.mg (Str.ofString n) = none ∧ W.mb (Str.ofString n) = some (.builtin n)
  typ : ∀ n ∈ (["range", "str", "list", "type", "zip"] : List String), W.mg (Str.ofString n) = none ∧ W.mb (Str.ofString n) = some (.type n)
noncomputable def mOf (bp : List (Str × PV)) : Str → Option PV := bp.foldl (fun m x => fset m x.1 x.2) (fun _ => none)
theorem cellsUpd_none : ∀ {names : List (Str × NameKind)} {n : Nat} {σ : Sig}, (names.all fun x => !(x.2 == .cell)) = true → cellsUpd n names σ = σ
  | [], _, _, _ => rfl
  | (x, kd) :: r, n, σ, h => by
    rw [List.all_cons, Bool.and_eq_true] at h
    unfold cellsUpd
    have h1 : (kd == NameKind.cell) = false := by simpa using h.1
    rw [h1]
    exact cellsUpd_none h.2
theorem SB_locals (T : Top W) {env : Env} (hk : env.scope.kind = .function) : ∀ {bp : List (Str × PV)} {m : Str → Option PV} {σ : Sig} {K : Sig → Prop}, (∀ x ∈ bp, env.kindOf x.1 = some .local) → K (σ.upd env.locals (.frame (bp.foldl (fun m x => fset m x.1 x.2) m))) → SB W k env bp (σ.upd env.locals (.frame m)) K
  | [], _, _, _, _, h => h
  | (x, p) :: r, m, σ, K, hl, h => by
    refine S_local T hk (hl _ (List.mem_cons_self ..)) (upd_same _ _ _) ?_
    rw [upd_upd]
    exact SB_locals T hk (fun y hy => hl y (List.mem_cons_of_mem _ hy)) h
theorem CC_std (T : Top W) {a : Addr} {fd : FuncData} {body : List Stmt} (f : FnAt W a fd body) {args kv : List PV} {kn : List Str} {K : PV → Sig → Prop} (bp : List (Str × PV))
    (hb : ∀ vs ws, G W k (fun F => VRels F args vs ∧ VRels F kv ws) BRels (bindArgs fd ⟨vs, kn.zip ws⟩) σ fun b s => b = bp ∧ s = σ) (hk : fd.scope.kind = .function)
    (hl : (bp.all fun x => fd.scope.names.lookup x.1 == some .local) = true) (hn : (fd.scope.names.all fun x => !(x.2 == .cell)) = true)
    (h : ∀ L, Fresh σ L → XS W k (envFn fd [] L a) body (σ.upd L (.frame (mOf bp))) fun fl σ₃ => K (retOf fl) (res L σ₃)) : CC W (k + 1) (.ref a) args kn kv σ K :=
  CC_fn f fun vs ws => (hb vs ws).imp fun b s hpat L hL => by
    obtain ⟨e1, e2⟩ := hpat
    subst e1 e2
    rw [cellsUpd_none hn]
    exact SB_locals T (env := envFn fd [] L a) hk (fun x hx => beq_iff_eq.mp (List.all_eq_true.mp hl x hx)) ((h L hL).imp fun fl σ₃ z => ⟨_, .inl rfl, z⟩)
theorem res_top {L : Addr} {o : AObj} (h : Fresh σ L) : res L (σ.upd L o) = σ := by rw [res_upd_ge (Nat.le_refl _), res_fresh h]
theorem E_bn (T : Top W) (B : Blts W) {n : String} {pos : Pos} {K : PV → Sig → Prop} (hn : n ∈ (["ord", "chr", "len", "hex", "iter", "sum", "sorted"] : List String)) (h : K (.blt n) σ) (hk : env.scope.kind = .function := by rfl) (hx : env.kindOf (Str.ofString n) = some .globalImplicit := by rfl) (hg : env.globals = mainGlobals := by rfl) (hb : env.builtins = builtinsNs := by rfl)
    (hd : ((Str.ofString n) == ("__debug__" : Str)) = false := by decide) : E W k env (.Name (Str.ofString n) pos) σ K := E_blt (p := .blt n) T hk hx hg hb (B.blt n hn).1 (B.blt n hn).2 (fun F => (Eq.refl _ : Value.builtin n = Value.builtin n)) h hd
theorem E_tn (T : Top W) (B : Blts W) {n : String} {pos : Pos} {K : PV → Sig → Prop} (hn : n ∈ (["range", "str", "list", "type", "zip"] : List String)) (h : K (.typ n) σ) (hk : env.scope.kind = .function := by rfl) (hx : env.kindOf (Str.ofString n) = some .globalImplicit := by rfl) (hg : env.globals = mainGlobals := by rfl) (hb : env.builtins = builtinsNs := by rfl)
    (hd : ((Str.ofString n) == ("__debug__" : Str)) = false := by decide) : E W k env (.Name (Str.ofString n) pos) σ K := E_blt (p := .typ n) T hk hx hg hb (B.typ n hn).1 (B.typ n hn).2 (fun F => (Eq.refl _ : Value.type n = Value.type n)) h hd
theorem E_loc {x : Str} {pos : Pos} {m : Str → Option PV} {p : PV} {K : PV → Sig → Prop} (h : K p σ) (hσ : σ env.locals = some (.frame m)) (hm : m x = some p := by rfl) (hk : env.scope.kind = .function := by rfl) (hl : env.kindOf x = some .local := by rfl)
    (hd : (x == ("__debug__" : Str)) = false := by decide) : E W k env (.Name x pos) σ K := E_name (L_local hk hl hσ hm h) hd
theorem E_gl (T : Top W) {x : Str} {pos : Pos} {a : Addr} {K : PV → Sig → Prop} (hv : W.mg x = some (.ref a)) (h : K (.ref a) σ) (hk : env.scope.kind = .function := by rfl) (hx : env.kindOf x = some .globalImplicit := by rfl) (hg : env.globals = mainGlobals := by rfl)
    (hd : (x == ("__debug__" : Str)) = false := by decide) : E W k env (.Name x pos) σ K := E_glob T hk hx hg hv h hd
theorem in_table_b1_C (T : Top W) (B : Blts W) {a b1 : Addr} {f : Int → Bool} {c : Nat} {K : PV → Sig → Prop} (F : Fn W a "in_table_b1" (defAt 9)) (hm : W.mg "b1_set" = some (.ref b1)) (S : SetF W b1 f) (h : K (.bool (f c)) σ) : CC W (k + 1) (.ref a) [.str [c]] [] [] σ K := by
  obtain ⟨doc, pm, an, cd, ct, f1⟩ := F.fn
  refine CC_std T f1 [("code", .str [c])] (bind1 (n := "code") (fun v => by rfl) ⟨rfl, rfl⟩) rfl (by rfl) (by rfl) fun L hL => ?_
  refine XS_cons (X_Return (E_Compare (E_Call [] (kp := .machine) (E_bn T B (n := "ord") (by simp) (EL_cons (E_loc (EL_nil (EK_nil ⟨KP_blt, C_ord (E_gl T hm (in_set S ?_))⟩)) (upd_same _ _ _)))))))
  show K _ _
  rw [res_top hL]
  exact h
end
end Mine
end
section
set_option tactic.hygienic false
set_option hygiene false
set_option maxRecDepth 100000
namespace Mine
section
variable {W : Wd} {k : Nat} {σ : Sig} {env : Env} {P : FM → Prop} {x y : List Nat}
theorem XS_set (T : Top W) {x : Str} {value : Expr} {rest : List Stmt} {pos pos' : Pos} {K : AFlow → Sig → Prop} (h : E W k env value σ fun p σ₁ => ∃ (σ₀ : Sig) (L : Addr) (m : Str → Option PV), σ₁ = σ₀.upd L (.frame m) ∧ env.locals = L ∧ XS W k env rest (σ₀.upd L (.frame (fset m x p))) K)
    (hk : env.scope.kind = .function := by rfl) (hl : env.kindOf x = some .local := by rfl) (hsw : swapsWith value (some (.Name x pos')) pos.line env = Pure.pure false := by rfl) : XS W k env (.Assign [.Name x pos'] value pos :: rest) σ K :=
  XS_cons (X_Assign (h.imp fun p σ₁ hpat => by
    obtain ⟨σ₀, L, m, e1, e2, h2⟩ := hpat
    subst e1 e2
    refine S_local T hk hl (upd_same _ _ _) ?_
    rw [upd_upd]
    exact h2) hsw)
theorem XS_ret {e : Expr} {rest : List Stmt} {pos : Pos} {K : AFlow → Sig → Prop} (h : E W k env e σ fun p σ₁ => K (.ret p) σ₁) : XS W k env (.Return (some e) pos :: rest) σ K := XS_cons (X_Return h)
theorem XS_if {t : Expr} {b o rest : List Stmt} {pos : Pos} {K : AFlow → Sig → Prop} (h : T W k env t σ fun c σ₁ => XS W k env (if c then b else o) σ₁ fun fl σ₂ => match fl with | .next => XS W k env rest σ₂ K | f => K f σ₂) : XS W k env (.If t b o pos :: rest) σ K :=
  XS_cons (X_If (h.imp fun c σ₁ z => by cases c <;> exact z))
theorem XS_expr {e : Expr} {rest : List Stmt} {pos : Pos} {K : AFlow → Sig → Prop} (h : E W k env e σ fun p σ₁ => p = .none ∧ XS W k env rest σ₁ K) (hi : interactive env = false := by rfl) (hsw : swapsWith e none pos.line env = Pure.pure false := by rfl) : XS W k env (.Expr e pos :: rest) σ K := XS_cons (X_Expr h hi hsw)
noncomputable def b3L (f : Int → Option (List Nat)) (c : Nat) : List Nat := match f c with | some x => x | none => lowerL [c]
theorem map_table_b3_C (T : Top W) (B : Blts W) {a b3 : Addr} {f : Int → Option (List Nat)} {c : Nat} {K : PV → Sig → Prop} (F : Fn W a "map_table_b3" (defAt 11)) (hm : W.mg "b3_exceptions" = some (.ref b3)) (S : TabF W b3 f) (h : K (.str (b3L f c)) σ) : CC W (k + 1) (.ref a) [.str [c]] [] [] σ K := by
  obtain ⟨doc, pm, an, cd, ct, f1⟩ := F.fn
  refine CC_std T f1 [("code", .str [c])] (bind1 (n := "code") (fun v => by rfl) ⟨rfl, rfl⟩) rfl (by rfl) (by rfl) fun L hL => ?_
  refine XS_set T ?_
  refine E_Meth [] (kp := .machine) ?_
  refine E_gl T hm ?_
  refine GM_tab S ?_
  refine EL_cons ?_
  refine E_Call [] (kp := .machine) ?_
  refine E_bn T B (n := "ord") (by simp) ?_
  refine EL_cons (E_loc ?_ (upd_same _ _ _))
  refine EL_nil (EK_nil ⟨KP_blt, C_ord ?_⟩)
  refine EL_nil (EK_nil ⟨KP_blt, C_get1 S ⟨_, _, _, rfl, rfl, ?_⟩⟩)
  unfold b3L at h
  cases e : f c with
  | some r =>
    rw [e] at h
    refine XS_if (T_Compare (E_loc (E_none (isnot_none_str (truthy_bool ?_))) (upd_same _ _ _)))
    refine XS_ret (E_loc ?_ (upd_same _ _ _))
    show K _ _
    rw [res_top hL]
    exact h
  | none =>
    rw [e] at h
    refine XS_if (T_Compare (E_loc (E_none (isnot_none_none (truthy_bool ?_))) (upd_same _ _ _)))
    refine XS_nil ?_
    refine XS_ret ?_
    refine E_Meth [] (kp := .machine) ?_
    refine E_loc ?_ (upd_same _ _ _)
    refine GM_str PySem.F.slot_str_lower PySem.F.type_str_lower ?_
    refine EL_nil (EK_nil ⟨KP_blt, C_lower (by simp) ?_⟩)
    show K _ _
    rw [res_top hL]
    exact h
end
end Mine
end
section
set_option tactic.hygienic false
set_option hygiene false
set_option maxRecDepth 100000
namespace Mine
section
variable {W : Wd} {k : Nat} {σ : Sig} {env : Env} {P : FM → Prop} {x y : List Nat}
theorem take_succ_fm {keep : PV → Bool} {val : PV → PV} {items : List PV} {i : Nat} {p : PV} (h : items[i]? = some p) : ((items.take (i + 1)).filter keep).map val = ((items.take i).filter keep).map val ++ (if keep p then [val p] else []) := by
  rw [List.take_add_one, h, List.filter_append, List.map_append]
  cases e : keep p <;> simp [e]
noncomputable def ins (σ₁ : Sig) (D L : Addr) (acc : List PV) (m : Str → Option PV) : Sig := (σ₁.upd D (.list acc)).upd L (.frame m)
theorem res_ins {σ₁ : Sig} {D L : Addr} {acc : List PV} {m : Str → Option PV} (hf : Fresh σ₁ D) (hL : D < L) : res D (ins σ₁ D L acc m) = σ₁ := by
  unfold ins
  rw [res_upd_ge (Nat.le_of_lt hL), res_upd_ge (Nat.le_refl _), res_fresh hf]
theorem ins_D {σ₁ : Sig} {D L : Addr} {acc : List PV} {m : Str → Option PV} (hL : D < L) : ins σ₁ D L acc m D = some (.list acc) := by
  unfold ins; rw [upd_ne (Nat.ne_of_lt hL), upd_same]
theorem ins_L {σ₁ : Sig} {D L : Addr} {acc : List PV} {m : Str → Option PV} : ins σ₁ D L acc m L = some (.frame m) := upd_same _ _ _
theorem ins_set {σ₁ : Sig} {D L : Addr} {acc : List PV} {m : Str → Option PV} {x : Str} {p : PV} : (ins σ₁ D L acc m).upd L (.frame (fset m x p)) = ins σ₁ D L acc (fset m x p) := upd_upd
theorem ins_acc {σ₁ : Sig} {D L : Addr} {acc acc' : List PV} {m : Str → Option PV} (hL : D < L) : (ins σ₁ D L acc m).upd D (.list acc') = ins σ₁ D L acc' m := by
  unfold ins
  rw [upd_comm (Nat.ne_of_gt hL), upd_upd]
theorem comp1 (T : Top W) {elt iter : Expr} {x : Str} {px : Pos} {ifs : List Expr} {scope : Scope} {pos : Pos} {cl : List (Str × Addr)} {items : List PV} {SrcS : Sig → Prop} {σ₁ : Sig} (keep : PV → Bool) (val : PV → PV) {D L : Addr} (hf : Fresh σ₁ D) (hL : D < L)
    (hnc : (scope.names.all fun x => !(x.2 == .cell)) = true) (hk : scope.kind = .function) (hx : scope.names.lookup x = some .local) (hz : items.length ≤ 1000000)
    (hsrc : ∀ acc m, SrcS (ins σ₁ D L acc m))
    (tests : ∀ p ∈ items, ∀ acc m, CI W k (cenvOf scope cl L env) ifs (ins σ₁ D L acc (fset m x p)) fun b σ' => σ' = ins σ₁ D L acc (fset m x p) ∧ b = keep p)
    (elts : ∀ p ∈ items, keep p = true → ∀ acc m, E W k (cenvOf scope cl L env) elt (ins σ₁ D L acc (fset m x p)) fun q σ' => σ' = ins σ₁ D L acc (fset m x p) ∧ q = val p) :
    CompIn W k elt (.Name x px) ifs [⟨.Name x px, iter, ifs, 0⟩] scope pos items SrcS (cenvOf scope cl L env) D σ₁ (fun i σ' => i ≤ items.length ∧ ∃ m, σ' = ins σ₁ D L (((items.take i).filter keep).map val) m) where
  start := ⟨Nat.zero_le _, fun _ => none, by rw [cellsUpd_none hnc]; rfl⟩
  src := fun i σ' ⟨_, m, e⟩ => e ▸ hsrc _ _
  turn := fun i p σ' hp hpat => by
    obtain ⟨hi, m, e⟩ := hpat
    subst e
    have hm : p ∈ items := List.mem_of_getElem? hp
    have hlt : i < items.length := by
      rcases Nat.lt_or_ge i items.length with q | q
      · exact q
      · rw [List.getElem?_eq_none q] at hp; cases hp
    refine AT_name (S_local T (by show scope.kind = _; exact hk) (lookup_relabel_local hx) ins_L ?_)
    show CI W k _ ifs ((ins σ₁ D L _ m).upd L (.frame (fset m x p))) _
    rw [ins_set]
    refine (tests p hm _ m).imp fun b σ'' ⟨e1, e2⟩ => ?_
    subst e1 e2
    cases hk' : keep p with
    | false => exact ⟨hlt, fset m x p, by rw [take_succ_fm hp, hk']; simp⟩
    | true =>
      rw [if_pos rfl]
      refine CB_elt T rfl ((elts p hm hk' _ m).imp fun q σ₃ ⟨e1, e2⟩ => ?_)
      subst e1 e2
      refine ⟨_, ins_D hL, ?_, hlt, fset m x p, by rw [ins_acc hL, take_succ_fm hp, hk', if_pos rfl]⟩
      rw [List.length_map]
      exact Nat.le_trans (List.length_filter_le _ _) (Nat.le_trans (List.length_take_le _ _) (Nat.le_trans hi hz))
theorem E_Comp1 (T : Top W) {elt iter : Expr} {x : Str} {px : Pos} {ifs : List Expr} {scope : Scope} {pos : Pos} {cl : List (Str × Addr)} {K : PV → Sig → Prop} (items : List PV) (SrcS : Sig → Prop) (keep : PV → Bool) (val : PV → PV) (hz : items.length ≤ 1000000)
    (h : E W k env iter σ fun q σ₁ => Itbl W q items SrcS ∧ SrcS σ₁ ∧ (∀ D L, Fresh σ₁ D → D < L → ∀ acc m, SrcS (ins σ₁ D L acc m)) ∧
      (∀ D L, Fresh σ₁ D → D < L → (∀ p ∈ items, ∀ acc m, CI W k (cenvOf scope cl L env) ifs (ins σ₁ D L acc (fset m x p)) fun b σ' => σ' = ins σ₁ D L acc (fset m x p) ∧ b = keep p) ∧
        ∀ p ∈ items, keep p = true → ∀ acc m, E W k (cenvOf scope cl L env) elt (ins σ₁ D L acc (fset m x p)) fun q σ' => σ' = ins σ₁ D L acc (fset m x p) ∧ q = val p) ∧ K (.lst ((items.filter keep).map val)) σ₁)
    (hnc : (scope.names.all fun x => !(x.2 == .cell)) = true := by rfl) (hx : scope.names.lookup x = some .local := by rfl)
    (hclos : closureFor scope env = Pure.pure cl := by rfl) (hkind : scope.kind = .function := by rfl) (hnames : ∀ x ∈ scope.names, x.2 = .local → scope.names.lookup x.1 = some .local := by decide)
    (hfold : ∀ x, foldedSetIterable iter env x = Pure.pure x := by intro _; rfl) : E W k env (.ListComp elt [⟨.Name x px, iter, ifs, 0⟩] scope pos) σ K :=
  E_ListComp T items SrcS (h.imp fun q σ₁ hh => by obtain ⟨a1, a2, a3, a4, a5⟩ := hh; exact ⟨a1, a2, fun D L e1 e2 e3 => ⟨_, comp1 T keep val e1 e2 hnc hkind hx hz (a3 D L e1 e2) (a4 D L e1 e2).1 (a4 D L e1 e2).2, fun σ' hpat => by
    obtain ⟨_, m, e⟩ := hpat
    subst e
    refine ⟨_, m, ins_D e2, ins_L, ?_⟩
    rw [res_ins e1 e2, List.take_length]
    exact a5⟩⟩) hclos hkind hnames hfold
end
end Mine
end
section
set_option tactic.hygienic false
set_option hygiene false
set_option maxRecDepth 100000
namespace Mine
theorem jn_nil : ∀ l : List (List Nat), jn [] l = l.flatten
  | [] => rfl
  | [x] => by simp [jn]
  | x :: y :: r => by
    rw [jn, jn_nil (y :: r)]
    simp
theorem lens_nil (l : List (List Nat)) (n : Nat) : l.foldl (fun n x => n + x.length + ([] : List Nat).length) n = n + l.flatten.length := by
  induction l generalizing n with
  | nil => simp
  | cons x l ih => rw [List.foldl_cons, ih]; simp; lia
noncomputable def prepL (f : Int → Option (List Nat)) (g : Int → Bool) (x : List Nat) : List Nat := ((x.filter fun c : Nat => !g c).map (b3L f)).flatten
noncomputable def kP (g : Int → Bool) : PV → Bool
  | .str (c :: _) => !g c
  | _ => false
noncomputable def vP (f : Int → Option (List Nat)) : PV → PV
  | .str (c :: _) => .str (b3L f c)
  | p => p
theorem prep_signs (f : Int → Option (List Nat)) (g : Int → Bool) : ∀ x : List Nat, ((signs x).filter (kP g)).map (vP f) = stsL ((x.filter fun c : Nat => !g c).map (b3L f))
  | [] => rfl
  | c :: x => by
    have ih := prep_signs f g x
    show ((PV.str [c] :: signs x).filter (kP g)).map (vP f) = _
    rw [List.filter_cons, List.filter_cons]
    show List.map _ (if (!g c) = true then _ else _) = _
    cases h : g c
    · simp only [Bool.not_false, if_true, List.map_cons, ih]; rfl
    · simpa using ih
theorem FnC.kp {W : Wd} {a : Addr} {q : Str} {st : Stmt} (F : Fn W a q st) {σ : Sig} : KP W .frame (.ref a) σ := by obtain ⟨_, _, _, _, _, f⟩ := F.fn; exact f.kp
section
variable {W : Wd} {k : Nat} {σ : Sig} {env : Env} {P : FM → Prop} {x y : List Nat}
theorem E_strL (l : List Nat) {x : Str} {n : Nat} {pos : Pos} {K : PV → Sig → Prop} (h : K (.str l) σ) (e : x.cps.toList = l := by decide +kernel) : E W k env (.Constant (.str x) n pos) σ K := E_str (by rw [e]; exact h)
theorem law_prepared_C (T : Top W) (B : Blts W) {a ab1 am3 b1 b3 : Addr} {f : Int → Option (List Nat)} {g : Int → Bool} {K : PV → Sig → Prop} (F : Fn W a "_law_prepared" (defAt 20))
    (F1 : Fn W ab1 "in_table_b1" (defAt 9)) (h1 : W.mg "in_table_b1" = some (.ref ab1)) (hm1 : W.mg "b1_set" = some (.ref b1)) (S1 : SetF W b1 g)
    (F3 : Fn W am3 "map_table_b3" (defAt 11)) (h3 : W.mg "map_table_b3" = some (.ref am3)) (hm3 : W.mg "b3_exceptions" = some (.ref b3)) (S3 : TabF W b3 f)
    (hz : x.length ≤ 1000000) (hz2 : (prepL f g x).length ≤ 1000000) (h : K (.str (prepL f g x)) σ) : CC W (k + 2) (.ref a) [.str x] [] [] σ K := by
  obtain ⟨doc, pm, an, cd, ct, f1⟩ := F.fn
  refine CC_std T f1 [("text", .str x)] (bind1 (n := "text") (fun v => by rfl) ⟨rfl, rfl⟩) rfl (by rfl) (by rfl) fun L hL => ?_
  refine XS_ret ?_
  refine E_Meth [] (kp := .machine) ?_
  refine E_strL [] ?_
  refine GM_str PySem.F.slot_str_join PySem.F.type_str_join ?_
  refine EL_cons ?_
  refine E_Comp1 T (signs x) (fun _ => True) (kP g) (vP f) (by rw [signs_len]; exact hz) ?_
  refine E_loc ?_ (upd_same _ _ _)
  refine ⟨Itbl.str, trivial, fun _ _ _ _ _ _ => trivial, fun D L' e1 e2 => ⟨fun p hp acc m => ?_, fun p hp _ acc m => ?_⟩, ?_⟩
  · obtain ⟨c, hc, rfl⟩ := List.mem_map.mp hp
    refine CI_one ?_
    refine T_Compare ?_
    refine E_Call [] (kp := .frame) ?_
    refine E_gl T h1 ?_
    refine EL_cons (E_loc ?_ ins_L (fset_same _ _ _))
    refine EL_nil (EK_nil ⟨FnC.kp F1, (in_table_b1_C T B F1 hm1 S1 ?_).call⟩)
    refine E_bool ?_
    refine is_bb (truthy_bool ?_)
    exact ⟨rfl, by show _ = !g c; cases g c <;> rfl⟩
  · obtain ⟨c, hc, rfl⟩ := List.mem_map.mp hp
    refine E_Call [] (kp := .frame) ?_
    refine E_gl T h3 ?_
    refine EL_cons (E_loc ?_ ins_L (fset_same _ _ _))
    refine EL_nil (EK_nil ⟨FnC.kp F3, (map_table_b3_C T B F3 hm3 S3 ?_).call⟩)
    exact ⟨rfl, rfl⟩
  · rw [prep_signs]
    have e0 : (Str.ofString "").cps.toList = [] := rfl
    have hl : lens [] (List.map (b3L f) (List.filter (fun c : Nat => !g c) x)) ≤ 16000000 := by
      unfold lens
      rw [lens_nil]
      show 0 + (prepL f g x).length ≤ _
      lia
    refine EL_nil (EK_nil ⟨KP_blt, ?_⟩)
    refine C_join (x := []) hl ?_
    show K _ _
    rw [res_top hL, jn_nil]
    exact h
end
end Mine
end
section
set_option tactic.hygienic false
set_option hygiene false
set_option maxRecDepth 100000
namespace Mine
theorem dit_entry_iter : entryFor table "dict_itemiterator.__iter__" = some Builtin.«dict_keyiterator.__iter__» :=
  entryFor_alias (id' := "dict_keyiterator.__iter__") (by kernel_rfl) (by first | rfl | decide +kernel) (by decide +kernel) (by kernel_rfl)
section
variable {W : Wd} {k : Nat} {σ : Sig} {env : Env} {P : FM → Prop} {x y : List Nat}
theorem GM_instF (T : Top W) {a C d : Addr} {fs : Str → Option PV} {n : Nat} {name : Str} {p : PV} {K : PV × List PV → Sig → Prop} (X : ClsIs W C) (hf : findIn W.K (.ref C) name = some none) (hσ : σ a = some (.inst C d fs n)) (hp : fs name = some p) (hb : ∀ n, p ≠ .blt n)
    (h : K (p, []) σ) : GM W k name (.ref a) σ K := fun v pl => .id h fun A hA s hs hP Q q => by
  obtain rfl : v = .ref a := hP
  obtain ⟨ha, _, _, es, ep, hd, hk, hz, r⟩ := hs.hr _ _ hσ
  have := r name
  rw [hp] at this
  obtain ⟨w, e, rw⟩ := this
  obtain ⟨cd, hc, hh⟩ := X.cd
  exact method_usual (hs.kin T) (instAt_of ha hd) X.ga X.gt hf rfl (get_value (hs.kin T) (instAt_of ha hd) X.ga (find_val hc hh hf hk e) (handed_ok hb rw) (q _ _ rfl rfl rfl ⟨rw, rfl⟩))
theorem C_type_str {K : PV → Sig → Prop} (h : K (.typ "str") σ) : C W k (.typ "type") [.str x] [] [] σ K := C1 fun v va => .id h fun A hA s hs hpat Q q => by
  obtain ⟨e, t, e1⟩ := hpat
  obtain rfl : v = .type "type" := e
  subst e1
  exact call_type_of (typeIs_str _ _ _) rfl (q _ _ rfl rfl rfl (Eq.refl _ : Value.type "str" = Value.type "str"))
theorem C_type_list {a : Addr} {l : List PV} {K : PV → Sig → Prop} (hσ : σ a = some (.list l)) (h : K (.typ "list") σ) : C W k (.typ "type") [.ref a] [] [] σ K := C1 fun v va => .id h fun A hA s hs hpat Q q => by
  obtain ⟨e, e1⟩ := hpat
  obtain rfl : v = .type "type" := e
  obtain rfl : va = .ref a := e1
  obtain ⟨vs, n, f, r⟩ := hs.hr _ _ hσ
  exact call_type_of ⟨_, f, rfl⟩ rfl (q _ _ rfl rfl rfl (Eq.refl _ : Value.type "list" = Value.type "list"))
theorem is_tt {n : String} {K : PV → Sig → Prop} (h : K (.bool true) σ) : O2 W k VRel (compareOp .Is) (.typ n) (.typ n) σ K := fun va vb => .id h fun A hA s hs hpat Q q => by
  obtain ⟨e, e'⟩ := hpat
  obtain rfl : vb = .type n := e'
  obtain rfl : va = .type n := e
  exact wpAny_is_plain rfl (q _ _ rfl rfl rfl (show Value.bool _ = Value.bool _ by simp))
theorem isnot_tt {n : String} {K : PV → Sig → Prop} (h : K (.bool false) σ) : O2 W k VRel (compareOp .IsNot) (.typ n) (.typ n) σ K := fun va vb => .id h fun A hA s hs hpat Q q => by
  obtain ⟨e, e'⟩ := hpat
  obtain rfl : vb = .type n := e'
  obtain rfl : va = .type n := e
  exact wpAny_isNot_plain rfl (q _ _ rfl rfl rfl (show Value.bool _ = Value.bool _ by simp))
theorem KP_clo {nm q : Str} {ps : Arguments} {b : List Stmt} {sc : Scope} {cs : List (Str × PV)} : KP W .frame (.clo nm q ps b sc cs) σ := fun A hA s hs v hv Q' qq => by
  obtain ⟨a, o, c, oc, vs', t, ct, doc, pm, cl, rfl, f, hcl, hd, _⟩ := hv
  unfold keeperOf
  refine wpAny_bind (wpAny_load f.2.1 ?_)
  rw [hd]; exact wpAny_pure qq
noncomputable def intsL (l : List Int) : List PV := l.map .int
theorem ints_vals {F : FM} : ∀ {l : List Int} {vs : List Value}, VRels F (intsL l) vs → ∃ ts : List (Int × Tok), vs = ts.map (fun p => Value.int p.1 p.2) ∧ ts.map (·.1) = l
  | [], _, h => ⟨[], by rw [show _ = [] from h]; rfl, rfl⟩
  | x :: l, _, h => by
    obtain ⟨v, ws, rfl, ⟨t, rfl⟩, r⟩ := h
    obtain ⟨ts, e1, e2⟩ := ints_vals (l := l) r
    exact ⟨(x, t) :: ts, by rw [e1]; rfl, by rw [List.map_cons, e2]⟩
theorem preSum_list : ∀ (ts : List (Int × Tok)) (xs : Array (Int × Tok)), xs.toList = ts → preSum (numAt xs) xs.size = (ts.map (·.1)).sum := fun ts xs e => by
  subst e
  rw [preSum_eq, List.take_of_length_le (by simp)]
theorem C_sum (T : Top W) {l : List Int} {K : PV → Sig → Prop} (h : K (.int l.sum) σ) : C W k (.blt "sum") [.lst (intsL l)] [] [] σ K := C1 fun v va => .grow T h fun A hA s hs hpat Q q => by
  obtain ⟨e, a, vs, n, e1, f, r⟩ := hpat
  obtain rfl : v = .builtin "sum" := e
  subst e1
  obtain ⟨ts, e2, e3⟩ := ints_vals r
  have hv : vs = intItems ts.toArray := by
    apply Array.toList_inj.mp
    rw [e2]; simp [intItems]
  subst hv
  refine sum_intListG hA.1 (isList_of f.2.1) fun h' tk t' hk => q _ h' tk hk ⟨t', ?_⟩
  rw [preSum_list ts _ rfl, e3]
noncomputable def splitL (x y : List Nat) : List (List Nat) := (Txt.split (st x) (st y)).map fun z : Str => z.cps.toList
theorem st_toList (z : Str) : st z.cps.toList = z := by unfold st; cases z; simp
theorem C_split (T : Top W) (hy : y ≠ []) (hz : x.length + 2 ≤ 1000000) {K : PV → Sig → Prop} (h : K (.lst (stsL (splitL x y))) σ) : C W k (.blt "str.split") [.str x, .str y] [] [] σ K := C2 fun v va vb => .grow T h fun A hA s hs hpat Q q => by
  obtain ⟨e, ⟨t, e1⟩, u, e2⟩ := hpat
  obtain rfl : v = .builtin "str.split" := e
  subst e1 e2
  have hx : (st x).length = x.length := str_len x
  have hy0 : ((st y).length == 0) = false := by
    rw [show (st y).length = y.length from str_len y]
    cases y with
    | nil => exact absurd rfl hy
    | cons _ _ => rfl
  have hn : (Builtin.Str.partsBetween (st x) (Builtin.Str.occurrences (st x) (st y) 0 (st x).length ((st x).length + 1)) (st y).length).length ≤ sizeLine := by
    have e1 := StrLaws.occ_length_le (st x) (st y) 0 (st x).length ((st x).length + 1)
    rw [length_partsBetween, sizeLine_eq]; lia
  have fin : ∀ (l : List (Str × Tok)) (tk : Nat), l.map (·.1) = Txt.split (st x) (st y) → Q (.ref s.heap.objs.size) { s with heap := s.heap.push { cls := .type "list", data := .seq (strValues l).toArray }, toks := tk } := fun l tk hl => by
    refine q _ _ tk sle_push ⟨_, (strValues l).toArray, 0, rfl, fz_new hs (by intro z; cases z), ?_⟩
    rw [List.toList_toArray]
    refine strs_of_values ?_
    rw [hl]
    unfold splitL
    rw [List.map_map]
    show _ = List.map (st ∘ fun z : Str => z.cps.toList) _
    have : (st ∘ fun z : Str => z.cps.toList) = id := funext fun z => st_toList z
    rw [this, List.map_id]
  show wpAny _ _ (call (.builtin "str.split") [.str (st x) t, .str (st y) u]) _ _ s
  cases h1 : (decide ((st x).length < (st y).length) || decide (Builtin.Str.strKind (st x) < Builtin.Str.strKind (st y)))
  · cases hf : (Builtin.Str.occurrences (st x) (st y) 0 (st x).length ((st x).length + 1)).isEmpty
    · refine call_meets PySem.F.slot_str_split (typeIs_str _ _ _) PySem.F.entry_str_split (PySem.F.args_str_split_2 _ _) (meets_str_split_sep (st x) (st y) t u h1 hy0 hf (by rw [hx, sizeLine_eq]; lia) hn) ?_
      show wants Q _ _ { s with toks := _, heap := s.heap.push { cls := .type "list", data := .seq (strsFrom s.toks (Builtin.Str.partsBetween (st x) (Builtin.Str.occurrences (st x) (st y) 0 (st x).length ((st x).length + 1)) (st y).length)).toArray } }
      rw [strsFrom_eq]
      exact fin (numbered s.toks _) _ ((numbered_texts _ _).trans ((if_neg (ne_true_of_eq_false h1)).trans (if_neg (ne_true_of_eq_false hf))).symm)
    · exact call_meets PySem.F.slot_str_split (typeIs_str _ _ _) PySem.F.entry_str_split (PySem.F.args_str_split_2 _ _) (meets_str_split_not_found (st x) (st y) t u h1 hy0 hf)
        (fin [(st x, t)] s.toks ((if_neg (ne_true_of_eq_false h1)).trans (if_pos hf)).symm)
  · exact call_meets PySem.F.slot_str_split (typeIs_str _ _ _) PySem.F.entry_str_split (PySem.F.args_str_split_2 _ _) (meets_str_split_cannot_occur (st x) (st y) t u h1)
      (fin [(st x, t)] s.toks (if_pos h1).symm)
theorem GM_dct {hs : Str → Int} {l : List (Str × PV)} {K : PV × List PV → Sig → Prop} (h : K (.blt "dict.items", [.dct hs l]) σ) : GM W k "items" (.dct hs l) σ K := fun v pl => .id h fun A hA s S hv Q q => by
  obtain ⟨a, es, n, rfl, f, z, r⟩ := id hv
  exact getMethod_builtin (T := "dict") ⟨_, f.2.1, rfl⟩ PySem.F.plainAttrs_dict PySem.F.slot_dict_items PySem.F.type_dict_items (fun a' e => by cases e; exact ⟨_, f.2.1, rfl⟩) (q _ _ rfl rfl rfl ⟨(Eq.refl _ : Value.builtin _ = Value.builtin _), VRels.one hv⟩)
theorem dictAt_nil {prog : Program} {w : World} {h : Heap} {a : Addr} {n : Nat} (e : h.get? a = some ⟨.type "dict", Option.none, .dict #[] n, #[]⟩) : h.DictAt (PySem.strKind prog w) a [] n :=
  ⟨_, #[], e, ⟨rfl, rfl, rfl⟩, rfl, fun e he => by simp at he, .nil, List.nodup_nil⟩
theorem C_items0 (T : Top W) {hs : Str → Int} {K : PV → Sig → Prop} (h : K (.dit hs []) σ) : C W k (.blt "dict.items") [.dct hs []] [] [] σ K := C1 fun v va => .grow T h fun A hA s S hpat Q q => by
  obtain ⟨e, a, es, n, e1, f, z, r⟩ := hpat
  obtain rfl : v = .builtin "dict.items" := e
  subst e1
  obtain rfl : es = #[] := Array.toList_inj.mp r
  have hD := dictAt_nil (prog := W.prog) (w := W.w) f.2.1
  refine call_meetsIn PySem.F.slot_dict_items ⟨_, f.2.1, rfl⟩ PySem.F.entry_dict_items (PySem.F.args_dict_items_1 _) (meets_dict_items (PySem.strKind W.prog W.w) a z) ⟨⟨_, hD.dictOf⟩, q _ _ s.toks sle_push ?_⟩
  exact ⟨_, a, #[], n, rfl, fz_new S (by intro z; cases z), (fle_grow sle_push) _ _ f, z, rfl⟩
theorem Itbl.dit0 {hs : Str → Int} : Itbl W (.dit hs []) [] (fun _ => True) := fun A hA σ s S _ v hv Q E q => by
  obtain ⟨r, a, es, n, rfl, f, g, z, d⟩ := hv
  obtain rfl : es = #[] := Array.toList_inj.mp d
  have hD := dictAt_nil (prog := W.prog) (w := W.w) g.2.1
  refine wpAny_pyIter_items ⟨_, f.2.1, rfl, rfl⟩ hD ?_
  refine q _ (fun F => F a ⟨.type "dict", Option.none, .dict #[] n, #[]⟩) (fun i h => i = 0 ∧ IsItemIter h s.heap.objs.size a 0 0 n .none .none) rfl ?_ ⟨rfl, Heap.get?_push_size _ rfl⟩ g
  exact {
    kind := fun ⟨_, ho⟩ => ⟨_, ho, rfl⟩
    keep := fun ⟨e, ho⟩ e' => ⟨e, e'.trans ho⟩
    mono := fun m x => m _ _ rfl x
    item := fun {i p} hp => by simp at hp
    done := fun A hA σ s' S _ hf ⟨_, hat⟩ Q E q => wpAny_pyNext_items_end hA hat (dictAt_nil (prog := W.prog) (w := W.w) hf.2.1) rfl fun h' hx => q h' s'.toks hx
    self := fun A s' hpat Q E q => by
      obtain ⟨_, hat⟩ := hpat
      refine wpAny_pyIter_slot ⟨_, hat, rfl⟩ PySem.F.slot_dict_itemiterator_iter (wpAny_call_entry PySem.F.slot_dict_itemiterator_iter ⟨_, hat, rfl⟩ dit_entry_iter ?_ (PySem.F.args_dict_itemiterator_iter_1 _))
      exact wpAny_pure ⟨_, rfl, "dict_itemiterator", _, ⟨_, hat, rfl⟩, PySem.F.slot_dict_itemiterator_next.lookup, q⟩
    own := fun t A s' v hpat Q E q => by
      obtain ⟨_, hat⟩ := hpat
      unfold letOwnedTupleGo
      cases t <;> try exact wpAny_pure q
      all_goals
        cases v <;> try exact wpAny_pure q
        refine wpAny_bind (wpAny_load hat ?_)
        exact wpAny_pure q }
end
end Mine
end
section
set_option tactic.hygienic false
set_option hygiene false
set_option maxRecDepth 100000
namespace Mine
noncomputable def cellsAt : Nat → List (Option PV) → Sig → Sig
  | _, [], σ => σ
  | n, c :: r, σ => cellsAt (n + 1) r (σ.upd n (.cell c))
noncomputable def fcs (σ : Sig) (L : Nat) (m : Str → Option PV) (cs : List (Option PV)) : Sig := cellsAt (L + 1) cs (σ.upd L (.frame m))
theorem cellsAt_lt : ∀ {cs : List (Option PV)} {n : Nat} {σ : Sig} {a : Nat}, a < n → cellsAt n cs σ a = σ a
  | [], _, _, _, _ => rfl
  | c :: r, n, σ, a, h => (cellsAt_lt (cs := r) (Nat.lt_succ_of_lt h)).trans (upd_ne (Nat.ne_of_lt h))
theorem cellsAt_ge : ∀ {cs : List (Option PV)} {n : Nat} {σ : Sig} {a : Nat}, n + cs.length ≤ a → cellsAt n cs σ a = σ a
  | [], _, _, _, _ => rfl
  | c :: r, n, σ, a, h => by
    rw [List.length_cons] at h
    exact (cellsAt_ge (cs := r) (by lia)).trans (upd_ne (Nat.ne_of_gt (show n < a by lia)))
theorem cellsAt_get : ∀ {cs : List (Option PV)} {n : Nat} {σ : Sig} {i : Nat} {c : Option PV}, cs[i]? = some c → cellsAt n cs σ (n + i) = some (.cell c)
  | [], _, _, _, _, h => by simp at h
  | c' :: r, n, σ, 0, c, h => by
    obtain rfl : c' = c := by simpa using h
    exact (cellsAt_lt (cs := r) (Nat.lt_succ_self _)).trans (upd_same _ _ _)
  | c' :: r, n, σ, i + 1, c, h => by
    have := cellsAt_get (cs := r) (n := n + 1) (σ := σ.upd n (.cell c')) (i := i) (c := c) (by simpa using h)
    rw [show n + (i + 1) = n + 1 + i by lia]; exact this
theorem cellsAt_swap : ∀ {cs : List (Option PV)} {n : Nat} {σ : Sig} {a : Nat} {o : AObj}, (a < n ∨ n + cs.length ≤ a) → (cellsAt n cs σ).upd a o = cellsAt n cs (σ.upd a o)
  | [], _, _, _, _, _ => rfl
  | c :: r, n, σ, a, o, h => by
    rw [List.length_cons] at h
    show (cellsAt (n + 1) r (σ.upd n (.cell c))).upd a o = cellsAt (n + 1) r ((σ.upd a o).upd n (.cell c))
    rw [cellsAt_swap (by lia), upd_comm (show n ≠ a by lia)]
theorem cellsAt_set : ∀ {cs : List (Option PV)} {n : Nat} {σ : Sig} {i : Nat} {c : Option PV}, i < cs.length → (cellsAt n cs σ).upd (n + i) (.cell c) = cellsAt n (cs.set i c) σ
  | [], _, _, _, _, h => by simp at h
  | c' :: r, n, σ, 0, c, h => by
    show (cellsAt (n + 1) r (σ.upd n (.cell c'))).upd n (.cell c) = cellsAt (n + 1) r (σ.upd n (.cell c))
    rw [cellsAt_swap (.inl (Nat.lt_succ_self _)), upd_upd]
  | c' :: r, n, σ, i + 1, c, h => by
    have := cellsAt_set (cs := r) (n := n + 1) (σ := σ.upd n (.cell c')) (i := i) (c := c) (by simpa using h)
    rw [show n + (i + 1) = n + 1 + i by lia]; exact this
theorem cellsAt_res : ∀ {cs : List (Option PV)} {n L : Nat} {σ : Sig}, L ≤ n → res L (cellsAt n cs σ) = res L σ
  | [], _, _, _, _ => rfl
  | c :: r, n, L, σ, h => by
    show res L (cellsAt (n + 1) r (σ.upd n (.cell c))) = _
    rw [cellsAt_res (Nat.le_succ_of_le h), res_upd_ge h]
section
variable {σ : Sig} {L : Nat} {m : Str → Option PV} {cs : List (Option PV)}
theorem fcs_L : fcs σ L m cs L = some (.frame m) := (cellsAt_lt (Nat.lt_succ_self _)).trans (upd_same _ _ _)
theorem fcs_c {i : Nat} {c : Option PV} (h : cs[i]? = some c) : fcs σ L m cs (L + 1 + i) = some (.cell c) := cellsAt_get h
theorem fcs_lt {a : Nat} (h : a < L) : fcs σ L m cs a = σ a := (cellsAt_lt (Nat.lt_succ_of_lt h)).trans (upd_ne (Nat.ne_of_lt h))
theorem fcs_gt {a : Nat} (h : L + cs.length < a) : fcs σ L m cs a = σ a := (cellsAt_ge (by lia)).trans (upd_ne (Nat.ne_of_gt (show L < a by lia)))
theorem fcs_setL {m' : Str → Option PV} : (fcs σ L m cs).upd L (.frame m') = fcs σ L m' cs := by
  unfold fcs
  rw [cellsAt_swap (.inl (Nat.lt_succ_self _)), upd_upd]
theorem fcs_setC {i : Nat} {c : Option PV} (h : i < cs.length) : (fcs σ L m cs).upd (L + 1 + i) (.cell c) = fcs σ L m (cs.set i c) := cellsAt_set h
theorem fcs_res (h : Fresh σ L) : res L (fcs σ L m cs) = σ := by
  unfold fcs
  rw [cellsAt_res (Nat.le_succ _), res_upd_ge (Nat.le_refl _), res_fresh h]
theorem fcs_resr : res L (fcs σ L m cs) = res L σ := by
  unfold fcs
  rw [cellsAt_res (Nat.le_succ _), res_upd_ge (Nat.le_refl _)]
theorem fcs_lt' {a : Nat} {o : AObj} (h : a < L) : (fcs σ L m cs).upd a o = fcs (σ.upd a o) L m cs := by
  unfold fcs
  rw [cellsAt_swap (.inl (Nat.lt_succ_of_lt h)), upd_comm (Nat.ne_of_gt h)]
theorem fcs_gt' {a : Nat} {o : AObj} (h : L + cs.length < a) : (fcs σ L m cs).upd a o = fcs (σ.upd a o) L m cs := by
  unfold fcs
  rw [cellsAt_swap (.inr (by lia)), upd_comm (show L ≠ a by lia)]
theorem fcs_fresh {a : Nat} (h : Fresh (fcs σ L m cs) a) : L + cs.length < a := by
  rcases Nat.lt_or_ge (L + cs.length) a with q | q
  · exact q
  · cases hc : cs.length with
    | zero =>
      have := h L (by rw [hc] at q; exact q)
      rw [fcs_L] at this; cases this
    | succ n =>
      have hi : n < cs.length := by lia
      have := h (L + 1 + n) (by rw [hc] at q; exact Nat.le_trans q (Nat.le_of_eq (by rw [Nat.add_assoc, Nat.add_comm 1 n])))
      rw [fcs_c (List.getElem?_eq_getElem hi)] at this; cases this
theorem fcs_freshσ {a : Nat} (h : Fresh (fcs σ L m cs) a) : Fresh σ a := fun b hb => by
  have h1 := fcs_fresh h
  have := h b hb
  rwa [fcs_gt (Nat.lt_of_lt_of_le h1 hb)] at this
end
theorem cellsUpd_at : ∀ {names : List (Str × NameKind)} {n : Nat} {σ : Sig}, cellsUpd n names σ = cellsAt n (List.replicate (names.countP fun x => x.2 == .cell) none) σ
  | [], _, _ => rfl
  | (x, kd) :: r, n, σ => by
    unfold cellsUpd
    rw [List.countP_cons]
    cases h : (kd == NameKind.cell) with
    | true => simp only [h, if_true]; rw [List.replicate_succ]; exact cellsUpd_at
    | false => simp only [h, Bool.false_eq_true, if_false]; exact cellsUpd_at
noncomputable def BindsAt (sc : Scope) : List (Str × PV × Option Nat) → Prop
  | [] => True
  | (x, _, none) :: r => sc.names.lookup x = some .local ∧ BindsAt sc r
  | (x, _, some i) :: r => (sc.names.lookup x = some .cell ∧ ∀ L, (cellsFrom (L + 1) sc.names []).lookup x = some (L + 1 + i)) ∧ BindsAt sc r
noncomputable def bm' : (Str → Option PV) → List (Str × PV × Option Nat) → Str → Option PV
  | m, [] => m
  | m, (x, p, none) :: r => bm' (fset m x p) r
  | m, (_, _, some _) :: r => bm' m r
noncomputable def bc' : List (Option PV) → List (Str × PV × Option Nat) → List (Option PV)
  | cs, [] => cs
  | cs, (_, _, none) :: r => bc' cs r
  | cs, (_, p, some i) :: r => bc' (cs.set i (some p)) r
noncomputable def inB (n : Nat) : List (Str × PV × Option Nat) → Bool
  | [] => true
  | (_, _, none) :: r => inB n r
  | (_, _, some i) :: r => decide (i < n) && inB n r
section
variable {W : Wd} {k : Nat} {σ : Sig} {P : FM → Prop} {x y : List Nat}
theorem SB_fcs (T : Top W) {env : Env} {L : Addr} {cl : List (Str × Addr)} (hk : env.scope.kind = .function) (hL : env.locals = L) (hcl : env.cells = cellsFrom (L + 1) env.scope.names []) : ∀ {bp : List (Str × PV × Option Nat)} {m : Str → Option PV} {cs : List (Option PV)} {K : Sig → Prop},
    BindsAt env.scope bp → inB cs.length bp = true → K (fcs σ L (bm' m bp) (bc' cs bp)) → SB W k env (bp.map fun b => (b.1, b.2.1)) (fcs σ L m cs) K
  | [], _, _, _, _, _, h => h
  | (x, p, none) :: r, m, cs, K, hb, hi, h => by
    subst hL
    refine S_local T hk hb.1 fcs_L ?_
    rw [fcs_setL]
    exact SB_fcs (cl := cl) T hk rfl hcl hb.2 hi h
  | (x, p, some i) :: r, m, cs, K, hb, hi, h => by
    have hi : (decide (i < cs.length) && inB cs.length r) = true := hi
    rw [Bool.and_eq_true, decide_eq_true_eq] at hi
    refine S_cell T hk hb.1.1 (by rw [hcl]; exact hb.1.2 L) (fcs_c (List.getElem?_eq_getElem hi.1)) ?_
    rw [fcs_setC hi.1]
    exact SB_fcs (cl := cl) T hk hL hcl hb.2 (by rw [List.length_set]; exact hi.2) h
theorem CC_fcs (T : Top W) {a : Addr} {fd : FuncData} {body : List Stmt} (f : FnAt W a fd body) {args kv : List PV} {kn : List Str} {K : PV → Sig → Prop} (bp : List (Str × PV × Option Nat)) (n : Nat)
    (hb : ∀ vs ws, G W k (fun F => VRels F args vs ∧ VRels F kv ws) BRels (bindArgs fd ⟨vs, kn.zip ws⟩) σ fun b s => b = (bp.map fun b => (b.1, b.2.1)) ∧ s = σ) (hk : fd.scope.kind = .function)
    (hl : BindsAt fd.scope bp) (hn : (fd.scope.names.countP fun x => x.2 == .cell) = n) (hi : inB n bp = true)
    (h : ∀ L, Fresh σ L → XS W k (envFn fd [] L a) body (fcs σ L (bm' (fun _ => none) bp) (bc' (List.replicate n none) bp)) fun fl σ₃ => K (retOf fl) (res L σ₃)) : CC W (k + 1) (.ref a) args kn kv σ K :=
  CC_fn f fun vs ws => (hb vs ws).imp fun b s hpat L hL => by
    obtain ⟨e1, e2⟩ := hpat
    subst e1 e2
    rw [cellsUpd_at, hn]
    exact SB_fcs (env := envFn fd [] L a) (cl := []) T hk rfl rfl hl (by rw [List.length_replicate]; exact hi) ((h L hL).imp fun fl σ₃ z => ⟨_, .inl rfl, z⟩)
variable {env : Env}
theorem E_l {L : Addr} {cs : List (Option PV)} {x : Str} {pos : Pos} {m : Str → Option PV} {p : PV} {K : PV → Sig → Prop} (h : K p (fcs σ L m cs)) (hm : m x = some p := by rfl) (hL : env.locals = L := by rfl) (hk : env.scope.kind = .function := by rfl) (hl : env.kindOf x = some .local := by rfl)
    (hd : (x == ("__debug__" : Str)) = false := by decide) : E W k env (.Name x pos) (fcs σ L m cs) K := by subst hL; exact E_name (L_local hk hl fcs_L hm h) hd
theorem E_c (i : Nat) {L : Addr} {cs : List (Option PV)} {x : Str} {pos : Pos} {m : Str → Option PV} {p : PV} {K : PV → Sig → Prop} (h : K p (fcs σ L m cs)) (hm : cs[i]? = some (some p) := by rfl) (hc : env.cells.lookup x = some (L + 1 + i) := by rfl) (hk : env.scope.kind = .function := by rfl) (hl : env.kindOf x = some .cell := by rfl)
    (hd : (x == ("__debug__" : Str)) = false := by decide) : E W k env (.Name x pos) (fcs σ L m cs) K := E_name (L_cell hk hl hc (fcs_c hm) h) hd
theorem XS_setl (T : Top W) {L : Nat} {x : Str} {value : Expr} {rest : List Stmt} {pos pos' : Pos} {m₀ : Str → Option PV} {cs₀ : List (Option PV)} {K : AFlow → Sig → Prop} (h : E W k env value (fcs σ L m₀ cs₀) fun p σ₁ => ∃ (σ₀ : Sig) (m : Str → Option PV) (cs : List (Option PV)), σ₁ = fcs σ₀ L m cs ∧ XS W k env rest (fcs σ₀ L (fset m x p) cs) K)
    (hL : env.locals = L := by rfl) (hk : env.scope.kind = .function := by rfl) (hl : env.kindOf x = some .local := by rfl) (hsw : swapsWith value (some (.Name x pos')) pos.line env = Pure.pure false := by rfl) : XS W k env (.Assign [.Name x pos'] value pos :: rest) (fcs σ L m₀ cs₀) K :=
  XS_cons (X_Assign (h.imp fun p σ₁ hpat => by
    obtain ⟨σ₀, m, cs, e1, h2⟩ := hpat
    subst e1 hL
    refine S_local T hk hl fcs_L ?_
    rw [fcs_setL]
    exact h2) hsw)
theorem XS_setc (T : Top W) (i : Nat) {L : Nat} {x : Str} {value : Expr} {rest : List Stmt} {pos pos' : Pos} {m₀ : Str → Option PV} {cs₀ : List (Option PV)} {K : AFlow → Sig → Prop} (h : E W k env value (fcs σ L m₀ cs₀) fun p σ₁ => ∃ (σ₀ : Sig) (m : Str → Option PV) (cs : List (Option PV)), σ₁ = fcs σ₀ L m cs ∧ i < cs.length ∧ XS W k env rest (fcs σ₀ L m (cs.set i (some p))) K)
    (hc : env.cells.lookup x = some (L + 1 + i) := by rfl) (hk : env.scope.kind = .function := by rfl) (hl : env.kindOf x = some .cell := by rfl) (hsw : swapsWith value (some (.Name x pos')) pos.line env = Pure.pure false := by rfl) : XS W k env (.Assign [.Name x pos'] value pos :: rest) (fcs σ L m₀ cs₀) K :=
  XS_cons (X_Assign (h.imp fun p σ₁ hpat => by
    obtain ⟨σ₀, m, cs, e1, hi, h2⟩ := hpat
    subst e1
    refine S_cell T hk hl hc (fcs_c (List.getElem?_eq_getElem hi)) ?_
    rw [fcs_setC hi]
    exact h2) hsw)
theorem XS_augl (T : Top W) {L : Addr} {x : Str} {op : Operator} {value : Expr} {rest : List Stmt} {pos pos' : Pos} {K : AFlow → Sig → Prop} {m : Str → Option PV} {cs : List (Option PV)} {a : PV}
    (h : E W k env value (fcs σ L m cs) fun b σ₁ => O2 W k VRel (inplaceOp op) a b σ₁ fun p σ₂ => ∃ (σ₀ : Sig) (m : Str → Option PV) (cs : List (Option PV)), σ₂ = fcs σ₀ L m cs ∧ XS W k env rest (fcs σ₀ L (fset m x p) cs) K)
    (hm : m x = some a := by rfl) (hL : env.locals = L := by rfl) (hk : env.scope.kind = .function := by rfl) (hl : env.kindOf x = some .local := by rfl) : XS W k env (.AugAssign (.Name x pos') op value pos :: rest) (fcs σ L m cs) K := XS_cons (X_AugName (by
    subst hL
    exact L_local hk hl fcs_L hm (h.imp fun b σ₁ z va vb => (z va vb).imp fun p σ₂ hpat => by
      obtain ⟨σ₀, m, cs, e, h2⟩ := hpat
      subst e
      refine S_local T hk hl fcs_L ?_
      rw [fcs_setL]
      exact h2)))
theorem S_l (T : Top W) {L : Addr} {x : Str} {m : Str → Option PV} {cs : List (Option PV)} {p : PV} {K : Unit → Sig → Prop} (h : K () (fcs σ L (fset m x p) cs)) (hL : env.locals = L := by rfl) (hk : env.scope.kind = .function := by rfl) (hl : env.kindOf x = some .local := by rfl) : O1 W k REq (storeName env x) p (fcs σ L m cs) K := by
  subst hL
  refine S_local T hk hl fcs_L ?_
  rw [fcs_setL]; exact h
theorem S_c (T : Top W) (i : Nat) {L : Addr} {x : Str} {m : Str → Option PV} {cs : List (Option PV)} {p : PV} {K : Unit → Sig → Prop} (h : K () (fcs σ L m (cs.set i (some p)))) (hi : i < cs.length := by simp) (hc : env.cells.lookup x = some (L + 1 + i) := by rfl) (hk : env.scope.kind = .function := by rfl) (hl : env.kindOf x = some .cell := by rfl) : O1 W k REq (storeName env x) p (fcs σ L m cs) K := by
  refine S_cell T hk hl hc (fcs_c (List.getElem?_eq_getElem hi)) ?_
  rw [fcs_setC hi]; exact h
end
end Mine
end
section
set_option tactic.hygienic false
set_option hygiene false
set_option maxRecDepth 100000
namespace Mine
section
variable {W : Wd} {k : Nat} {σ : Sig} {env : Env} {P : FM → Prop} {x y : List Nat}
theorem fcs_freshm {L : Nat} {m m' : Str → Option PV} {cs : List (Option PV)} {a : Nat} (h : Fresh (fcs σ L m cs) a) : Fresh (fcs σ L m' cs) a := fun b hb => by
  have h1 := fcs_fresh h
  rw [fcs_gt (Nat.lt_of_lt_of_le h1 hb)]
  exact fcs_freshσ h b hb
theorem ins_old {σ₁ : Sig} {D L a : Nat} {acc : List PV} {m : Str → Option PV} {o : AObj} (hf : Fresh σ₁ D) (hL : D < L) (h : σ₁ a = some o) : ins σ₁ D L acc m a = some o := by
  have ha : a < D := by
    rcases Nat.lt_or_ge a D with q | q
    · exact q
    · have := hf a q; rw [h] at this; cases this
  unfold ins
  rw [upd_ne (Nat.ne_of_lt (Nat.lt_trans ha hL)), upd_ne (Nat.ne_of_lt ha)]; exact h
theorem E_f (i : Nat) {L D L' : Nat} {m m' : Str → Option PV} {cs : List (Option PV)} {acc : List PV} {x : Str} {pos : Pos} {p : PV} {K : PV → Sig → Prop} (hf : Fresh (fcs σ L m cs) D) (hD : D < L') (h : K p (ins (fcs σ L m cs) D L' acc m')) (hm : cs[i]? = some (some p) := by rfl)
    (hc : env.cells.lookup x = some (L + 1 + i) := by rfl) (hk : env.scope.kind = .function := by rfl) (hl : env.kindOf x = some .cell := by rfl) (hd : (x == ("__debug__" : Str)) = false := by decide) : E W k env (.Name x pos) (ins (fcs σ L m cs) D L' acc m') K :=
  E_name (L_cell hk hl hc (ins_old hf hD (fcs_c hm)) h) hd
theorem E_m {D L' : Nat} {m' : Str → Option PV} {acc : List PV} {x : Str} {pos : Pos} {p : PV} {K : PV → Sig → Prop} (h : K p (ins σ D L' acc m')) (hm : m' x = some p := by rfl)
    (hL : env.locals = L' := by rfl) (hk : env.scope.kind = .function := by rfl) (hl : env.kindOf x = some .local := by rfl) (hd : (x == ("__debug__" : Str)) = false := by decide) : E W k env (.Name x pos) (ins σ D L' acc m') K := by subst hL; exact E_name (L_local hk hl ins_L hm h) hd
noncomputable def Makes (W : Wd) (k : Nat) (elt target : Expr) (ifs : List Expr) (gens : List Comprehension) (scope : Scope) (pos : Pos) (items : List PV) (SrcS : Sig → Prop) (cl : List (Str × Addr)) (env : Env) (σ₁ : Sig) (r : List PV) : Prop :=
  ∀ D L', Fresh σ₁ D → D < L' → ∃ J, CompIn W k elt target ifs gens scope pos items SrcS (cenvOf scope cl L' env) D σ₁ J ∧ ∀ σ', J items.length σ' → ∃ m', σ' D = some (.list r) ∧ σ' L' = some (.frame m') ∧ res D σ' = σ₁
theorem E_Makes (T : Top W) {elt target iter : Expr} {ifs : List Expr} {rest : List Comprehension} {scope : Scope} {pos : Pos} {cl : List (Str × Addr)} (items : List PV) (SrcS : Sig → Prop) (r : List PV) {K : PV → Sig → Prop}
    (h : E W k env iter σ fun q σ₁ => Itbl W q items SrcS ∧ SrcS σ₁ ∧ Makes W k elt target ifs (⟨target, iter, ifs, 0⟩ :: rest) scope pos items SrcS cl env σ₁ r ∧ K (.lst r) σ₁)
    (hclos : closureFor scope env = Pure.pure cl := by rfl) (hkind : scope.kind = .function := by rfl) (hnames : ∀ x ∈ scope.names, x.2 = .local → scope.names.lookup x.1 = some .local := by decide)
    (hfold : ∀ x, foldedSetIterable iter env x = Pure.pure x := by intro _; rfl) : E W k env (.ListComp elt (⟨target, iter, ifs, 0⟩ :: rest) scope pos) σ K :=
  E_ListComp T items SrcS (h.imp fun q σ₁ ⟨a1, a2, a3, a5⟩ => ⟨a1, a2, fun D L e1 e2 e3 => by
    obtain ⟨J, b1, b2⟩ := a3 D L e1 e2
    refine ⟨J, b1, fun σ' hJ => ?_⟩
    obtain ⟨m, c1, c2, c3⟩ := b2 σ' hJ
    exact ⟨r, m, c1, c2, by rw [c3]; exact a5⟩⟩) hclos hkind hnames hfold
theorem XS_Makes (T : Top W) {x : Str} {elt target iter : Expr} {ifs : List Expr} {rest : List Comprehension} {stmts : List Stmt} {scope : Scope} {pos p' pos' : Pos} {cl : List (Str × Addr)} {L : Nat} {m₀ : Str → Option PV} {cs₀ : List (Option PV)} (items : List PV) (SrcS : Sig → Prop) (r : List PV) {K : AFlow → Sig → Prop}
    (h : E W k env iter (fcs σ L m₀ cs₀) fun q σ₁ => ∃ (σ₀ : Sig) (m : Str → Option PV) (cs : List (Option PV)), σ₁ = fcs σ₀ L m cs ∧ Itbl W q items SrcS ∧ SrcS σ₁ ∧ Makes W k elt target ifs (⟨target, iter, ifs, 0⟩ :: rest) scope p' items SrcS cl env σ₁ r ∧
      XS W k env stmts (fcs σ₀ L (fset m x (.lst r)) cs) K)
    (hL : env.locals = L := by rfl) (hk : env.scope.kind = .function := by rfl) (hl : env.kindOf x = some .local := by rfl)
    (hsw : swapsWith (.ListComp elt (⟨target, iter, ifs, 0⟩ :: rest) scope p') (some (.Name x pos')) pos.line env = Pure.pure true := by rfl)
    (hclos : closureFor scope env = Pure.pure cl := by rfl) (hkind : scope.kind = .function := by rfl) (hnames : ∀ x ∈ scope.names, x.2 = .local → scope.names.lookup x.1 = some .local := by decide)
    (hfold : ∀ x, foldedSetIterable iter env x = Pure.pure x := by intro _; rfl) : XS W k env (.Assign [.Name x pos'] (.ListComp elt (⟨target, iter, ifs, 0⟩ :: rest) scope p') pos :: stmts) (fcs σ L m₀ cs₀) K := by
  subst hL
  refine XS_cons (X_AssignComp T items SrcS (h.imp fun q σ₁ hpat => ?_) hsw hclos hkind hnames hfold)
  obtain ⟨σ₀, m, cs, e, a1, a2, a3, a5⟩ := hpat
  refine ⟨a1, a2, fun D L' e1 e2 e3 => ?_⟩
  subst e
  obtain ⟨J, b1, b2⟩ := a3 D L' e1 e2
  refine ⟨J, b1, fun σ' hJ => ?_⟩
  obtain ⟨m', c1, c2, c3⟩ := b2 σ' hJ
  refine ⟨r, m', c1, c2, ?_⟩
  rw [c3]
  have hfr := fcs_fresh e1
  have hLD : env.locals < D := Nat.lt_of_le_of_lt (Nat.le_add_right _ _) hfr
  have hLL : env.locals < L' := Nat.lt_trans hLD e2
  refine S_local T hk hl ((upd_ne (Nat.ne_of_lt hLL)).trans fcs_L) ?_
  refine ⟨m', (upd_ne (Nat.ne_of_gt hLL)).trans (upd_same _ _ _), ?_⟩
  rw [upd_comm (Nat.ne_of_gt hLL), res_upd_ge (Nat.le_of_lt e2), fcs_setL, res_fresh (fcs_freshm e1)]
  exact a5
theorem Makes1 (T : Top W) {elt iter : Expr} {x : Str} {px : Pos} {ifs : List Expr} {scope : Scope} {pos : Pos} {cl : List (Str × Addr)} {items : List PV} {SrcS : Sig → Prop} {σ₁ : Sig} (keep : PV → Bool) (val : PV → PV) {r : List PV} (hr : (items.filter keep).map val = r)
    (hz : items.length ≤ 1000000) (hsrc : ∀ D L, Fresh σ₁ D → D < L → ∀ acc m, SrcS (ins σ₁ D L acc m))
    (h : ∀ D L, Fresh σ₁ D → D < L → (∀ p ∈ items, ∀ acc m, CI W k (cenvOf scope cl L env) ifs (ins σ₁ D L acc (fset m x p)) fun b σ' => σ' = ins σ₁ D L acc (fset m x p) ∧ b = keep p) ∧
        ∀ p ∈ items, keep p = true → ∀ acc m, E W k (cenvOf scope cl L env) elt (ins σ₁ D L acc (fset m x p)) fun q σ' => σ' = ins σ₁ D L acc (fset m x p) ∧ q = val p)
    (hnc : (scope.names.all fun x => !(x.2 == .cell)) = true := by rfl) (hk : scope.kind = .function := by rfl) (hx : scope.names.lookup x = some .local := by rfl) :
    Makes W k elt (.Name x px) ifs [⟨.Name x px, iter, ifs, 0⟩] scope pos items SrcS cl env σ₁ r := fun D L e1 e2 =>
  ⟨_, comp1 T keep val e1 e2 hnc hk hx hz (hsrc D L e1 e2) (h D L e1 e2).1 (h D L e1 e2).2, fun σ' hpat => by
    obtain ⟨_, m, e⟩ := hpat
    rw [List.take_length, hr] at e
    subst e
    exact ⟨m, ins_D e2, ins_L, res_ins e1 e2⟩⟩
theorem flatMap_take {items : List PV} {g : PV → List PV} {i : Nat} {p : PV} (h : items[i]? = some p) : (items.take (i + 1)).flatMap g = (items.take i).flatMap g ++ g p := by
  rw [List.take_add_one, h, List.flatMap_append]; simp
theorem flatMap_bound {items : List PV} {g : PV → List PV} {i : Nat} {p : PV} (h : items[i]? = some p) : ((items.take i).flatMap g).length + (g p).length ≤ (items.flatMap g).length := by
  have e : items.flatMap g = (items.take (i + 1)).flatMap g ++ (items.drop (i + 1)).flatMap g := by rw [← List.flatMap_append, List.take_append_drop]
  rw [e, List.length_append, flatMap_take h, List.length_append]; lia
theorem filter_map_take_len {items : List PV} {keep : PV → Bool} {val : PV → PV} {i : Nat} : (((items.take i).filter keep).map val).length ≤ ((items.filter keep).map val).length := by
  rw [List.length_map, List.length_map]
  exact ((List.take_sublist i items).filter keep).length_le
theorem Makes2 (T : Top W) {elt iter iter2 : Expr} {x y : Str} {px py : Pos} {ifs : List Expr} {scope : Scope} {pos : Pos} {cl : List (Str × Addr)} {items : List PV} {SrcS Src2 : Sig → Prop} {σ₁ : Sig} (items2 : PV → List PV) (q2 : PV → PV) (keep : PV → PV → Bool) (val : PV → PV → PV) {r : List PV}
    (hr : (items.flatMap fun p => ((items2 p).filter (keep p)).map (val p)) = r) (hz : r.length ≤ 1000000)
    (hsrc : ∀ D L, Fresh σ₁ D → D < L → ∀ acc m, SrcS (ins σ₁ D L acc m)) (hsrc2 : ∀ D L, Fresh σ₁ D → D < L → ∀ acc m, Src2 (ins σ₁ D L acc m))
    (it2 : ∀ D L, Fresh σ₁ D → D < L → ∀ p ∈ items, ∀ acc m, m x = some p → E W k (cenvOf scope cl L env) iter2 (ins σ₁ D L acc m) fun q σ' => σ' = ins σ₁ D L acc m ∧ q = q2 p ∧ Itbl W (q2 p) (items2 p) Src2)
    (h : ∀ D L, Fresh σ₁ D → D < L → (∀ p ∈ items, ∀ q ∈ items2 p, ∀ acc m, m x = some p → m y = some q → CI W k (cenvOf scope cl L env) ifs (ins σ₁ D L acc m) fun b σ' => σ' = ins σ₁ D L acc m ∧ b = keep p q) ∧
        ∀ p ∈ items, ∀ q ∈ items2 p, keep p q = true → ∀ acc m, m x = some p → m y = some q → E W k (cenvOf scope cl L env) elt (ins σ₁ D L acc m) fun v σ' => σ' = ins σ₁ D L acc m ∧ v = val p q)
    (hxy : x ≠ y := by decide) (hnc : (scope.names.all fun x => !(x.2 == .cell)) = true := by rfl) (hk : scope.kind = .function := by rfl) (hx : scope.names.lookup x = some .local := by rfl) (hy : scope.names.lookup y = some .local := by rfl)
    (hfold : ∀ L v, foldedSetIterable iter2 (cenvOf scope cl L env) v = Pure.pure v := by intro _ _; rfl) :
    Makes W k elt (.Name x px) [] [⟨.Name x px, iter, [], 0⟩, ⟨.Name y py, iter2, ifs, 0⟩] scope pos items SrcS cl env σ₁ r := fun D L e1 e2 => by
  subst hr
  refine ⟨fun i σ' => i ≤ items.length ∧ ∃ m, σ' = ins σ₁ D L ((items.take i).flatMap fun p => ((items2 p).filter (keep p)).map (val p)) m, ?_, fun σ' hpat => by
    obtain ⟨_, m, e⟩ := hpat
    rw [List.take_length] at e
    subst e
    exact ⟨m, ins_D e2, ins_L, res_ins e1 e2⟩⟩
  exact {
    start := ⟨Nat.zero_le _, fun _ => none, by rw [cellsUpd_none hnc]; rfl⟩
    src := fun i σ' ⟨_, m, e⟩ => e ▸ hsrc D L e1 e2 _ _
    turn := fun i p σ' hp hpat => by
      obtain ⟨hi, m, e⟩ := hpat
      subst e
      have hm : p ∈ items := List.mem_of_getElem? hp
      have hlt : i < items.length := by
        rcases Nat.lt_or_ge i items.length with q | q
        · exact q
        · rw [List.getElem?_eq_none q] at hp; cases hp
      refine AT_name (S_local T (by show scope.kind = _; exact hk) (lookup_relabel_local hx) ins_L ?_)
      show CI W k _ [] ((ins σ₁ D L _ m).upd L (.frame (fset m x p))) _
      rw [ins_set]
      refine CI_nil ?_
      rw [if_pos rfl]
      refine CB_for (q₀ := q2 p) T rfl (items2 p) Src2 (fun j σ' => ∃ m, m x = some p ∧ σ' = ins σ₁ D L (((items.take i).flatMap fun p => ((items2 p).filter (keep p)).map (val p)) ++ (((items2 p).take j).filter (keep p)).map (val p)) m) ?_ ?_ ?_ ?_ (hfold L)
      · refine (it2 D L e1 e2 p hm _ _ (fset_same _ _ _)).imp fun q σ'' ⟨a1, a2, a3⟩ => ?_
        exact ⟨a2, a3, fset m x p, fset_same _ _ _, by rw [a1]; simp⟩
      · intro j σ'' ⟨m, _, e⟩; exact e ▸ hsrc2 D L e1 e2 _ _
      · intro j q σ'' hq ⟨m, hmx, e⟩
        subst e
        have hm2 : q ∈ items2 p := List.mem_of_getElem? hq
        refine AT_name (S_local T (by show scope.kind = _; exact hk) (lookup_relabel_local hy) ins_L ?_)
        show CI W k _ ifs ((ins σ₁ D L _ m).upd L (.frame (fset m y q))) _
        rw [ins_set]
        have hx' : fset m y q x = some p := (fset_ne hxy).trans hmx
        refine ((h D L e1 e2).1 p hm q hm2 _ _ hx' (fset_same _ _ _)).imp fun b σ₂ ⟨b1, b2⟩ => ?_
        subst b1 b2
        cases hk' : keep p q with
        | false => exact ⟨fset m y q, hx', by rw [take_succ_fm hq, hk']; simp⟩
        | true =>
          rw [if_pos rfl]
          refine CB_elt T rfl (((h D L e1 e2).2 p hm q hm2 hk' _ _ hx' (fset_same _ _ _)).imp fun v σ₃ ⟨c1, c2⟩ => ?_)
          subst c1 c2
          refine ⟨_, ins_D e2, ?_, fset m y q, hx', by rw [ins_acc e2, take_succ_fm hq, hk', if_pos rfl, List.append_assoc]⟩
          rw [List.length_append]
          have h1 := flatMap_bound (g := fun p => ((items2 p).filter (keep p)).map (val p)) hp
          have h2 := filter_map_take_len (items := items2 p) (keep := keep p) (val := val p) (i := j)
          have h1 : ((items.take i).flatMap fun p => ((items2 p).filter (keep p)).map (val p)).length + (((items2 p).filter (keep p)).map (val p)).length ≤ (items.flatMap fun p => ((items2 p).filter (keep p)).map (val p)).length := h1
          lia
      · intro σ'' ⟨m, hmx, e⟩
        exact ⟨hlt, m, by rw [e, flatMap_take hp, List.take_length]⟩ }
theorem Makes1c (T : Top W) {elt iter : Expr} {x : Str} {px : Pos} {scope : Scope} {pos : Pos} {cl : List (Str × Addr)} {items : List PV} {SrcS : Sig → Prop} {σ₁ : Sig} (val : PV → PV) {r : List PV} (hr : items.map val = r)
    (hz : items.length ≤ 1000000) (hsrc : ∀ D L, Fresh σ₁ D → D < L → ∀ acc m c, SrcS (fcs (σ₁.upd D (.list acc)) L m [c]))
    (h : ∀ D L : Nat, Fresh σ₁ D → D < L → ∀ p ∈ items, ∀ acc m, E W k (cenvOf scope cl L env) elt (fcs (σ₁.upd D (.list acc)) L m [some p]) fun q σ' => σ' = fcs (σ₁.upd D (.list acc)) L m [some p] ∧ q = val p)
    (hnc : (scope.names.countP fun x => x.2 == .cell) = 1 := by rfl) (hk : scope.kind = .function := by rfl) (hx : ∀ L, (cenvOf scope cl L env).kindOf x = some .cell := by intro _; rfl) (hc : ∀ L, (cenvOf scope cl L env).cells.lookup x = some (L + 1) := by intro _; rfl) :
    Makes W k elt (.Name x px) [] [⟨.Name x px, iter, [], 0⟩] scope pos items SrcS cl env σ₁ r := fun (D : Nat) (L : Nat) e1 e2 => by
  subst hr
  have e2 : D < L := e2
  refine ⟨fun i σ' => i ≤ items.length ∧ ∃ m c, σ' = fcs (σ₁.upd D (.list ((items.take i).map val))) L m [c], ?_, fun σ' ⟨_, m, c, e⟩ => ?_⟩
  · exact {
      start := ⟨Nat.zero_le _, fun _ => none, none, by rw [cellsUpd_at, hnc]; rfl⟩
      src := fun i σ' ⟨_, m, c, e⟩ => e ▸ hsrc D L e1 e2 _ _ _
      turn := fun i p σ' hp hpat => by
        obtain ⟨hi, m, c, e⟩ := hpat
        subst e
        have hm : p ∈ items := List.mem_of_getElem? hp
        have hlt : i < items.length := by
          rcases Nat.lt_or_ge i items.length with q | q
          · exact q
          · rw [List.getElem?_eq_none q] at hp; cases hp
        refine AT_name (S_cell T (by show scope.kind = _; exact hk) (hx L) (hc L) (fcs_c (i := 0) rfl) ?_)
        refine CI_nil ?_
        rw [if_pos rfl]
        have e0 : (fcs (σ₁.upd D (.list ((items.take i).map val))) L m [c]).upd (L + 1) (.cell (some p)) = fcs (σ₁.upd D (.list ((items.take i).map val))) L m [some p] := fcs_setC (i := 0) (by simp)
        refine CB_elt T rfl ?_
        show E W k _ elt ((fcs (σ₁.upd D (.list ((items.take i).map val))) L m [c]).upd (L + 1) (.cell (some p))) _
        rw [e0]
        refine (h D L e1 e2 p hm _ m).imp fun q σ₃ ⟨c1, c2⟩ => ?_
        subst c1 c2
        refine ⟨_, (fcs_lt e2).trans (upd_same _ _ _), ?_, hlt, m, some p, ?_⟩
        · rw [List.length_map]; exact Nat.le_trans (List.length_take_le _ _) (Nat.le_trans hi hz)
        · rw [fcs_lt' e2, upd_upd, List.take_add_one, hp, List.map_append]; rfl }
  · rw [List.take_length] at e
    subst e
    refine ⟨m, (fcs_lt e2).trans (upd_same _ _ _), fcs_L, ?_⟩
    unfold fcs
    rw [cellsAt_res (Nat.le_succ_of_le (Nat.le_of_lt e2)), res_upd_ge (Nat.le_of_lt e2), res_upd_ge (Nat.le_refl _), res_fresh e1]
theorem E_freeze {e : Expr} {K : PV → Sig → Prop} (h : E W k env e σ fun p σ' => ∃ a l, p = .ref a ∧ σ' a = some (.list l) ∧ K (.lst l) (σ'.del a)) : E W k env e σ K := G.freeze (R := VRel) (α := Value) (t := eval e env) h
theorem fcs_del {L a : Nat} {m : Str → Option PV} {cs : List (Option PV)} (h : L + cs.length < a) : (fcs σ L m cs).del a = fcs (σ.del a) L m cs := by
  funext b
  have key : ∀ b : Nat, ((fcs σ L m cs).del a) b = fcs (σ.del a) L m cs b := fun b => by
    by_cases q : b = a
    · subst q
      rw [fcs_gt h]
      unfold Sig.del; simp
    · have e : ∀ τ : Sig, (τ.del a) b = τ b := fun τ => by unfold Sig.del; rw [if_neg q]
      rw [e]
      rcases Nat.lt_or_ge b L with q1 | q1
      · rw [fcs_lt q1, fcs_lt q1, e]
      · rcases Nat.lt_or_ge (L + cs.length) b with q2 | q2
        · rw [fcs_gt q2, fcs_gt q2, e]
        · rcases Nat.eq_or_lt_of_le q1 with rfl | q3
          · rw [fcs_L, fcs_L]
          · obtain ⟨i, rfl⟩ : ∃ i, b = L + 1 + i := ⟨b - (L + 1), (Nat.add_sub_of_le (by lia)).symm⟩
            have hi : i < cs.length := by lia
            rw [fcs_c (List.getElem?_eq_getElem hi), fcs_c (List.getElem?_eq_getElem hi)]
  exact key b
theorem upd_del {a : Addr} {o : AObj} (h : σ a = none) : (σ.upd a o).del a = σ := by
  funext b
  unfold Sig.del Sig.upd
  by_cases q : b = a
  · subst q; simp [h]
  · simp [q]
end
end Mine
end
section
set_option tactic.hygienic false
set_option hygiene false
set_option maxRecDepth 100000
namespace Mine
noncomputable def methAt (c n : Nat) : Stmt := (bodyOf (defAt c)).getD n (.Pass default)
noncomputable def names10 : List (List Nat) := (["OPTIMIZED", "NEWLOCALS", "VARARGS", "VARKEYWORDS", "NESTED", "GENERATOR", "NOFREE", "COROUTINE", "ITERABLE_COROUTINE", "ASYNC_GENERATOR"] : List String).map fun s => s.toList.map Char.toNat
noncomputable def wordC (i : Nat) : List Nat := if i < 10 then names10.getD i [] else hexL ((2 ^ i : Nat) : Int)
noncomputable def wordOf (f : Int → Option (List Nat)) (i : Nat) : List Nat := match f ((2 ^ i : Nat) : Int) with | some x => x | none => hexL ((2 ^ i : Nat) : Int)
structure L1 (W : Wd) where
  T : Top W
  B : Blts W
  cfn : Addr
  cfnG : W.mg "COMPILER_FLAG_NAMES" = some (.ref cfn)
  cfnF : Int → Option (List Nat)
  cfnT : TabF W cfn cfnF
  cfnW : ∀ i, i < 32 → wordOf cfnF i = wordC i
  pf : Addr
  pfG : W.mg "pretty_flags" = some (.ref pf)
  pfF : Fn W pf "pretty_flags" (defAt 4)
section
variable {W : Wd} {k : Nat} {σ : Sig} {env : Env} {P : FM → Prop} {x y : List Nat}
theorem C_joinL {p : PV} {l : List (List Nat)} {K : PV → Sig → Prop} (hp : LstIs σ p (stsL l)) (hz : lens x l ≤ 16000000) (h : K (.str (jn x l)) σ) : C W k (.blt "str.join") [.str x, p] [] [] σ K := C2 fun v va vb => .id h fun A hA s hs hpat Q q => by
  obtain ⟨e, ⟨t, e1⟩, e2⟩ := hpat
  obtain rfl : v = .builtin "str.join" := e
  obtain ⟨a, vs, n, rfl, f, r⟩ := hp.get hs e2
  subst e1
  obtain ⟨ts, e3, e4⟩ := strs_vals r
  have hv : vs = (strValues ts).toArray := by rw [← e3, Array.toArray_toList]
  subst hv
  exact SC.join (x := st x) (isList_of f) e4 (joinOk_st x l hz) fun t' k' => q _ _ rfl rfl rfl ⟨t', by rw [join_st]; rfl⟩
noncomputable def up (v i : Nat) : Nat := (v >>> i) <<< i
theorem up_bit (v i j : Nat) : (up v i).testBit j = (decide (i ≤ j) && v.testBit j) := by
  unfold up
  rw [Nat.testBit_shiftLeft, Nat.testBit_shiftRight]
  by_cases h : i ≤ j
  · simp [h, show i + (j - i) = j by lia]
  · simp [h]
theorem up_zero (v : Nat) : up v 0 = v := by simp [up]
theorem C_get2e {d : Addr} {f : Int → Option (List Nat)} (t : TabF W d f) {i : Int} {p : PV} {K : PV → Sig → Prop} (h : K ((f i).elim p .str) σ) : C W k (.blt "dict.get") [.ref d, .int i, p] [] [] σ K := C_get2 t (by cases e : f i <;> rw [e] at h <;> exact h)
theorem up_and (v i : Nat) : (up v i) &&& 2 ^ i = if v.testBit i then 2 ^ i else 0 := by
  apply Nat.eq_of_testBit_eq
  intro j
  rw [Nat.testBit_and, up_bit, Nat.testBit_two_pow]
  by_cases e : i = j
  · subst e
    cases h : v.testBit i <;> simp
  · cases h : v.testBit i <;> simp [e]
theorem up_take {v i : Nat} (h : v.testBit i = true) : up v i = up v (i + 1) + 2 ^ i := by
  unfold up
  rw [Nat.shiftLeft_eq, Nat.shiftLeft_eq, Nat.shiftRight_succ, Nat.pow_succ]
  have h1 : (v >>> i) % 2 = 1 := by
    have : v.testBit i = (v >>> i).testBit 0 := by rw [Nat.testBit_shiftRight]; simp
    rw [this, Nat.testBit_zero] at h
    exact of_decide_eq_true h
  generalize v >>> i = u at h1
  have : u = 2 * (u / 2) + 1 := by lia
  generalize u / 2 = q at this
  subst this
  rw [Nat.add_mul, Nat.one_mul, Nat.mul_comm (2 ^ i) 2, Nat.mul_comm 2 q, Nat.mul_assoc]
theorem up_xor {v i : Nat} (h : v.testBit i = true) : Builtin.bitXor ((up v i : Nat) : Int) ((2 ^ i : Nat) : Int) = ((up v (i + 1) : Nat) : Int) := by
  show Builtin.bitOr _ _ - Builtin.bitAnd _ _ = _
  rw [bitOr_and, bitAnd_pp (Int.natCast_nonneg _) (Int.natCast_nonneg _), Int.toNat_natCast, Int.toNat_natCast, up_and, h, if_pos rfl, up_take h]
  lia
theorem up_skip {v i : Nat} (h : v.testBit i = false) : up v i = up v (i + 1) := by
  apply Nat.eq_of_testBit_eq
  intro j
  rw [up_bit, up_bit]
  by_cases e : i = j
  · subst e; simp [h]
  · by_cases q : i ≤ j
    · simp [q, show i + 1 ≤ j by lia]
    · simp [q, show ¬ i + 1 ≤ j by lia]
theorem up_done {v i : Nat} (h : up v i = 0) {j : Nat} (hj : i ≤ j) : v.testBit j = false := by
  have := up_bit v i j
  rw [h, Nat.zero_testBit] at this
  simpa [hj] using this.symm
theorem up_top {v : Nat} (h : v < 2 ^ 32) : up v 32 = 0 := by
  unfold up
  rw [Nat.shiftRight_eq_div_pow, Nat.div_eq_of_lt h, Nat.zero_shiftLeft]
noncomputable def wordsTo (f : Int → Option (List Nat)) (v n : Nat) : List (List Nat) := ((List.range n).filter fun i => v.testBit i).map (wordOf f)
theorem wordsTo_succ (f : Int → Option (List Nat)) (v n : Nat) : wordsTo f v (n + 1) = wordsTo f v n ++ (if v.testBit n then [wordOf f n] else []) := by
  unfold wordsTo
  rw [List.range_succ, List.filter_append, List.map_append]
  cases h : v.testBit n <;> simp [h]
theorem wordsTo_done {f : Int → Option (List Nat)} {v n : Nat} (h : up v n = 0) : ∀ d, wordsTo f v (n + d) = wordsTo f v n
  | 0 => rfl
  | d + 1 => by rw [← Nat.add_assoc, wordsTo_succ, up_done h (Nat.le_add_right _ _), wordsTo_done h d]; simp
theorem wordsTo_len (f : Int → Option (List Nat)) (v n : Nat) : (wordsTo f v n).length ≤ n := by
  unfold wordsTo
  rw [List.length_map]
  exact Nat.le_trans (List.length_filter_le _ _) (by simp)
theorem wordOf_len {f : Int → Option (List Nat)} (hf : ∀ i, i < 32 → (wordOf f i).length ≤ 30) {v n : Nat} (hn : n ≤ 32) : lens [44, 32] (wordsTo f v n) ≤ 2000 := by
  have : ∀ (l : List (List Nat)) (a : Nat), (∀ x ∈ l, x.length ≤ 30) → l.foldl (fun n x => n + x.length + 2) a ≤ a + 32 * l.length := by
    intro l
    induction l with
    | nil => intro a _; simp
    | cons x l ih =>
      intro a h
      rw [List.foldl_cons, List.length_cons]
      have h1 := ih (a + x.length + 2) (fun y hy => h y (List.mem_cons_of_mem _ hy))
      have h2 := h x (List.mem_cons_self ..)
      lia
  have h1 := this (wordsTo f v n) 0 (fun x hx => by
    unfold wordsTo at hx
    obtain ⟨i, hi, rfl⟩ := List.mem_map.mp hx
    have := (List.mem_filter.mp hi).1
    exact hf i (by have := List.mem_range.mp this; lia))
  have h2 := wordsTo_len f v n
  show (wordsTo f v n).foldl (fun n x => n + x.length + 2) 0 ≤ _
  lia
noncomputable def prettyL (f : Int → Option (List Nat)) (v : Nat) : List Nat := jn [44, 32] (wordsTo f v 32)
theorem pretty_flags_C0 (D : L1 W) {v : Nat} {K : PV → Sig → Prop} (h0 : v ≠ 0) (hv : v < 2 ^ 32) (hw : ∀ i, i < 32 → (wordOf D.cfnF i).length ≤ 30) (hh : ∀ i : Nat, i < 32 → (hexL ((2 ^ i : Nat) : Int)).length ≤ 1000) (h : K (.str (prettyL D.cfnF v)) σ) : CC W (k + 1) (.ref D.pf) [.int v] [] [] σ K := by
  obtain ⟨doc, pm, an, cd, ct, f1⟩ := D.pfF.fn
  have T := D.T
  refine CC_fcs T f1 [("flags", .int v, none)] 0 (bind1 (n := "flags") (fun v => by rfl) ⟨rfl, rfl⟩) rfl ⟨rfl, trivial⟩ (by rfl) rfl fun L hL => ?_
  refine XS_setl T (E_ListM (EL_nil ⟨by simp, fun a ha => ?_⟩))
  have hla := fcs_fresh ha
  refine ⟨_, _, _, fcs_gt' hla, ?_⟩
  refine XS_cons (X_For (q₀ := .rng 0 32) T (inums 0 32) (fun _ => True) (fun i σ' => ∃ m, σ' = fcs (σ.upd a (.list (stsL (wordsTo D.cfnF v i)))) L m [] ∧ m "names" = some (.ref a) ∧ m "flags" = some (.int (up v i)) ∧ up v i ≠ 0 ∧ i ≤ 32) ?_ (fun _ _ _ => trivial) ?_ ?_)
  · refine E_Call [] (kp := .machine) ?_
    refine E_tn T D.B (n := "range") (by simp) ?_
    refine EL_cons (E_int (EL_nil (EK_nil ⟨KP_typ, C_range1 T ⟨rfl, Itbl.rng (by decide) 32 (by decide), ?_⟩⟩)))
    exact ⟨_, rfl, rfl, by rw [up_zero]; rfl, by rw [up_zero]; exact h0, Nat.zero_le _⟩
  · rintro i p σ' hp ⟨m, rfl, hm1, hm2, hu, hi⟩
    obtain ⟨hi', rfl⟩ := int_at hp
    refine AT_name (S_l T ?_)
    refine XS_setl T ?_
    refine E_BinOp (E_int (E_l ?_))
    refine shl_ii (by exact z1 _) (by lia) (by decide) ?_
    rw [show (1 : Int) * 2 ^ ((0 : Int) + (i : Nat)).toNat = ((2 ^ i : Nat) : Int) by simp]
    refine ⟨_, _, _, rfl, ?_⟩
    refine XS_if (T_val (E_BinOp (E_l (E_l (and_ii (truthy_int ?_))) hm2)))
    rw [bitAnd_pp (Int.natCast_nonneg _) (Int.natCast_nonneg _), Int.toNat_natCast, Int.toNat_natCast, up_and]
    cases hb : v.testBit i with
    | false =>
      rw [show (((if false = true then 2 ^ i else 0 : Nat) : Int) != 0) = false by simp]
      have ew : wordsTo D.cfnF v i = wordsTo D.cfnF v (i + 1) := by rw [wordsTo_succ, hb]; simp
      exact XS_nil (XS_nil ⟨_, congrArg (fun w => fcs (σ.upd a (.list (stsL w))) L _ []) ew, hm1, hm2.trans (by rw [up_skip hb]), by rw [← up_skip hb]; exact hu, hi'⟩)
    | true =>
      have hpos : 0 < 2 ^ i := Nat.two_pow_pos i
      rw [show (((if true = true then 2 ^ i else 0 : Nat) : Int) != 0) = true by simp only [if_true, bne_iff_ne, ne_eq]; lia]
      refine XS_expr ?_
      refine E_Meth [] (kp := .machine) ?_
      refine E_l ?_ hm1
      refine GM_ref ((fcs_gt (Nat.lt_of_le_of_lt (Nat.le_add_right _ _) hla)).trans (upd_same _ _ _)) PySem.F.slot_list_append PySem.F.type_list_append ?_
      refine EL_cons ?_
      refine E_Meth [] (kp := .machine) ?_
      refine E_gl T D.cfnG ?_
      refine GM_tab D.cfnT ?_
      refine EL_cons (E_l ?_)
      refine EL_cons ?_
      refine E_Call [] (kp := .machine) ?_
      refine E_bn T D.B (n := "hex") (by simp) ?_
      refine EL_cons (E_l ?_)
      refine EL_nil (EK_nil ⟨KP_blt, C_hex (by have := hh i hi'; exact Nat.le_trans (by assumption) (by decide)) ?_⟩)
      refine EL_nil (EK_nil ⟨KP_blt, C_get2e D.cfnT ?_⟩)
      have e1 : (D.cfnF ((2 ^ i : Nat) : Int)).elim (PV.str (hexL ((2 ^ i : Nat) : Int))) .str = .str (wordOf D.cfnF i) := by
        unfold wordOf; cases D.cfnF ((2 ^ i : Nat) : Int) <;> rfl
      rw [e1]
      have hwl := wordsTo_len D.cfnF v i
      refine EL_nil (EK_nil ⟨KP_blt, C_append T ((fcs_gt (Nat.lt_of_le_of_lt (Nat.le_add_right _ _) hla)).trans (upd_same _ _ _)) (by unfold stsL; rw [List.length_map]; lia) ?_⟩)
      rw [fcs_gt' (Nat.lt_of_le_of_lt (Nat.le_add_right _ _) hla), upd_upd]
      refine ⟨rfl, ?_⟩
      rw [show stsL (wordsTo D.cfnF v i) ++ [PV.str (wordOf D.cfnF i)] = stsL (wordsTo D.cfnF v (i + 1)) by rw [wordsTo_succ, hb]; unfold stsL; simp]
      refine XS_augl T (E_l (ixor_ii ?_)) hm2
      rw [up_xor hb]
      refine ⟨_, _, _, rfl, ?_⟩
      refine XS_if (T_not (T_val (E_l (truthy_int ?_))))
      by_cases hz : up v (i + 1) = 0
      · rw [hz, show (!(((0 : Nat) : Int) != 0)) = true by simp]
        refine XS_cons (X_Break ?_)
        refine XS_ret ?_
        refine E_Meth [] (kp := .machine) ?_
        refine E_strL [44, 32] ?_
        refine GM_str PySem.F.slot_str_join PySem.F.type_str_join ?_
        refine EL_cons (E_l ?_ hm1)
        refine EL_nil (EK_nil ⟨KP_blt, C_joinL (.inr ⟨a, rfl, (fcs_gt (Nat.lt_of_le_of_lt (Nat.le_add_right _ _) hla)).trans (upd_same _ _ _)⟩) (Nat.le_trans (wordOf_len hw hi') (by lia)) ?_⟩)
        show K _ _
        rw [fcs_resr, res_upd_ge (Nat.le_of_lt (Nat.lt_of_le_of_lt (Nat.le_add_right _ _) hla)), res_fresh hL]
        have := wordsTo_done (f := D.cfnF) hz (32 - (i + 1))
        rw [show i + 1 + (32 - (i + 1)) = 32 by lia] at this
        rw [← this]
        exact h
      · rw [show (!((((up v (i + 1)) : Nat) : Int) != 0)) = false by simp; assumption]
        exact XS_nil (XS_nil (XS_nil ⟨_, rfl, hm1, fset_same _ _ _, hz, hi'⟩))
  · rintro σ' ⟨m, rfl, hm1, hm2, hu, hi⟩
    rw [inums_len] at hu
    exact absurd (up_top hv) hu
theorem wordC_len : ∀ i : Fin 32, (wordC i.val).length ≤ 30 := by decide +kernel
theorem hex_len : ∀ i : Fin 32, (hexL ((2 ^ i.val : Nat) : Int)).length ≤ 1000 := by decide +kernel
noncomputable def flagsL (v : Nat) : List (List Nat) := ((List.range 32).filter fun i => v.testBit i).map wordC
theorem flags_eq (D : L1 W) (v : Nat) : wordsTo D.cfnF v 32 = flagsL v := by
  unfold wordsTo flagsL
  refine List.map_congr_left fun i hi => D.cfnW i ?_
  have := (List.mem_filter.mp hi).1
  exact List.mem_range.mp this
theorem pretty_flags_C (D : L1 W) {v : Nat} {K : PV → Sig → Prop} (h0 : v ≠ 0) (hv : v < 2 ^ 32) (h : K (.str (jn [44, 32] (flagsL v))) σ) : CC W (k + 1) (.ref D.pf) [.int v] [] [] σ K :=
  pretty_flags_C0 D h0 hv (fun i hi => by rw [D.cfnW i hi]; exact wordC_len ⟨i, hi⟩) (fun i hi => hex_len ⟨i, hi⟩) (by unfold prettyL; rw [flags_eq]; exact h)
end
end Mine
end
section
set_option tactic.hygienic false
set_option hygiene false
set_option maxRecDepth 100000
namespace Mine
noncomputable def readDef : Stmt := (bodyOf (defAt 19)).getD 2 (.Pass default)
noncomputable def readClo (tx : List Nat) (P : Addr) : PV := .clo "read" "_law_lexer.<locals>.read" (paramsOf readDef) (bodyOf readDef) (scopeOf readDef) [("text", .str tx), ("place", .ref P)]
theorem Blts.with {W : Wd} (B : Blts W) (cs : List (Str × PV)) (cl : List (Str × Addr)) : Blts (W.with cs cl) := ⟨B.blt, B.typ⟩
section
variable {W : Wd} {k : Nat} {σ : Sig} {env : Env} {P : FM → Prop} {x y : List Nat}
theorem E_k {cs : List (Str × PV)} {cl : List (Str × Addr)} {x : Str} {pos : Pos} {p : PV} {K : PV → Sig → Prop} (h : K p σ) (hc : cs.lookup x = some p := by rfl) (he : env.cells = cl := by rfl) (hk : env.scope.kind = .function := by rfl) (hl : env.kindOf x = some .free := by rfl)
    (hd : (x == ("__debug__" : Str)) = false := by decide) (hn : (x == ("__classdict__" : Str)) = false := by decide) : E (W.with cs cl) k env (.Name x pos) σ K := by subst he; exact E_name (L_freeK hk hl (fun F h => h.2) hc h hn) hd
noncomputable def sgn (tx : List Nat) (pos : Nat) : List Nat := (tx.drop pos).take 1
theorem sgn_slc {tx : List Nat} {pos : Nat} (h : pos ≤ tx.length) : slc (some (pos : Int)) (some ((pos : Int) + 1)) tx = sgn tx pos := by
  have e1 : clipAt tx.length (pos : Int) = pos := clip_nat.trans (Nat.min_eq_left h)
  have e2 : clipAt tx.length ((pos : Int) + 1) = min (pos + 1) tx.length := clip_nat (a := pos + 1)
  unfold slc sgn
  simp only [Option.elim]
  rw [e1, e2]
  rcases Nat.lt_or_ge pos tx.length with q | q
  · rw [show min (pos + 1) tx.length - pos = 1 by lia]
  · rw [List.drop_of_length_le q]; simp
theorem sgn_len {tx : List Nat} {pos : Nat} (h : pos ≤ tx.length) : (sgn tx pos).length ≤ 1 ∧ pos + (sgn tx pos).length ≤ tx.length := by
  unfold sgn
  rw [List.length_take, List.length_drop]; lia
theorem read_C (D : L1 W) {tx : List Nat} {Pl : Addr} {pos : Nat} {K : PV → Sig → Prop} (hσ : σ Pl = some (.list [.int pos])) (hp : pos ≤ tx.length) (hz : tx.length ≤ 1000000) (h : K (.str (sgn tx pos)) (σ.upd Pl (.list [.int ((pos + (sgn tx pos).length : Nat) : Int)]))) : CC W (k + 1) (readClo tx Pl) [.int 1] [] [] σ K := by
  refine CC_clo (by rfl) (by rfl) fun a c ct doc pm cl vs ws => ?_
  have T : Top (W.with [("text", .str tx), ("place", .ref Pl)] cl) := D.T.with _ _
  have B := D.B.with [("text", .str tx), ("place", .ref Pl)] cl
  refine bind1 (n := "count") (fun v => by rfl) (fun L hL => ?_) vs ws
  rw [cellsUpd_none (by rfl)]
  refine SB_locals (env := envFn (fnX "read" "_law_lexer.<locals>.read" (paramsOf readDef) (bodyOf readDef) (scopeOf readDef) cl .none .none doc pm none (.ref c) ct) cl L a) T (by rfl) (fun x hx => by
    obtain rfl : x = (("count", PV.int 1) : Str × PV) := by simpa using hx
    rfl) ?_
  have hPL : Pl < L := by
    rcases Nat.lt_or_ge Pl L with q | q
    · exact q
    · have := hL Pl q; rw [hσ] at this; cases this
  have hP1 : ∀ {m}, fcs σ L m [] Pl = some (.list [.int pos]) := fun {m} => (fcs_lt hPL).trans hσ
  have hpos : (pos : Int) < 2 ^ 62 := by lia
  refine (?_ : XS _ k _ _ (fcs σ L (fset (fun _ => none) "count" (.int 1)) []) _)
  refine XS_setl T ?_
  refine E_SliceStr T ?_
  refine E_k ?_
  refine EP_some (E_Sub (E_k (E_int ⟨Sbs.ref hP1, get_ref hP1 (by decide) (by decide) rfl ⟨pos, rfl, ?_⟩⟩)))
  refine EP_some (E_BinOp (E_Sub (E_k (E_int ⟨Sbs.ref hP1, get_ref hP1 (by decide) (by decide) rfl ?_⟩))))
  refine E_l (add_ii ⟨_, rfl, tx, rfl, hz, ?_⟩)
  rw [sgn_slc hp]
  refine ⟨_, _, _, rfl, ?_⟩
  obtain ⟨hs1, hs2⟩ := sgn_len hp
  refine XS_cons (X_AssignSub ?_)
  refine E_BinOp (E_Sub (E_k (E_int ⟨Sbs.ref hP1, get_ref hP1 (by decide) (by decide) rfl ?_⟩)))
  refine E_Call [] (kp := .machine) ?_
  refine E_bn T B (n := "len") (by simp) ?_
  refine EL_cons (E_l ?_)
  refine EL_nil (EK_nil ⟨KP_blt, C_len_str (by exact Nat.le_trans (by assumption) (by decide)) (add_ii ?_)⟩)
  refine E_k (E_int (set_ref T hP1 (by decide) (by simp) (by decide) ?_))
  rw [fcs_lt' hPL]
  refine XS_ret (E_l ?_)
  refine ⟨_, .inl rfl, ?_⟩
  show K _ _
  rw [fcs_resr, res_upd_lt hPL, res_fresh hL]
  exact h
end
end Mine
end
section
set_option tactic.hygienic false
set_option hygiene false
set_option maxRecDepth 100000
namespace Mine
structure MethIs (W : Wd) (C : Addr) (name : Str) (a : Addr) (q : Str) (st : Stmt) : Prop where
  find : findIn W.K (.ref C) name = some (some (.ref a))
  ty : typeIn W.K (.ref a) = some (.type "function")
  fn : Fn W a q st
structure LexCls (W : Wd) where
  C : Addr
  G : W.mg "_netrclex" = some (.ref C)
  X : ClsIs W C
  kp : ∀ σ, KP W .machine (.ref C) σ
  no : ∀ n ∈ (["lineno", "instream", "whitespace", "pushback", "read"] : List String), findIn W.K (.ref C) (Str.ofString n) = some none
  ini : Addr
  iniM : MethIs W C "__init__" ini "_netrclex.__init__" (methAt 6 0)
  rc : Addr
  rcM : MethIs W C "_read_char" rc "_netrclex._read_char" (methAt 6 1)
  rcG : specialIn W.K (.ref rc) "__get__" = some (some (.builtin "function.__get__"))
  rcT : takesIn W.K (.ref rc) = some false
  gt : Addr
  gtM : MethIs W C "get_token" gt "_netrclex.get_token" (methAt 6 2)
  pt : Addr
  ptM : MethIs W C "push_token" pt "_netrclex.push_token" (methAt 6 3)
structure LexA where
  (a d pb tape td P : Nat)
noncomputable def lexF (tape pb : Addr) (ln : Int) : Str → Option PV := fset (fset (fset (fset (fun _ => none) "lineno" (.int ln)) "instream" (.ref tape)) "whitespace" (.str [10, 9, 13, 32])) "pushback" (.ref pb)
theorem lexF_line {tape pb : Addr} {ln ln' : Int} : fset (lexF tape pb ln) "lineno" (.int ln') = lexF tape pb ln' := by
  funext y
  unfold lexF fset
  by_cases h1 : y = "lineno"
  · subst h1; rfl
  · simp [h1]
noncomputable def lxs (C : Addr) (A : LexA) (pos : Nat) (pbl : List (List Nat)) (ln : Int) (σ : Sig) : Sig := ((σ.upd A.P (.list [.int pos])).upd A.pb (.list (stsL pbl))).upd A.a (.inst C A.d (lexF A.tape A.pb ln) 4)
structure LexOK (C : Addr) (A : LexA) (tx : List Nat) (σ : Sig) : Prop where
  tape : ∃ fs n, σ A.tape = some (.inst C A.td fs n) ∧ fs "read" = some (readClo tx A.P)
  ta : A.tape ≠ A.a
  tb : A.tape ≠ A.pb
  tp : A.tape ≠ A.P
  ab : A.a ≠ A.pb
  ap : A.a ≠ A.P
  bp : A.pb ≠ A.P
noncomputable def LexA.below (A : LexA) (L : Nat) : Prop := A.a < L ∧ A.pb < L ∧ A.P < L ∧ A.tape < L
section
variable {C : Addr} {A : LexA} {tx : List Nat} {pos pos' : Nat} {pbl pbl' : List (List Nat)} {ln ln' : Int} {σ : Sig}
theorem lxs_a : lxs C A pos pbl ln σ A.a = some (.inst C A.d (lexF A.tape A.pb ln) 4) := upd_same _ _ _
theorem lxs_pb (h : LexOK C A tx σ) : lxs C A pos pbl ln σ A.pb = some (.list (stsL pbl)) := (upd_ne h.ab.symm).trans (upd_same _ _ _)
theorem lxs_P (h : LexOK C A tx σ) : lxs C A pos pbl ln σ A.P = some (.list [.int pos]) := (upd_ne h.ap.symm).trans ((upd_ne h.bp.symm).trans (upd_same _ _ _))
theorem lxs_else {b : Nat} (h1 : b ≠ A.a) (h2 : b ≠ A.pb) (h3 : b ≠ A.P) : lxs C A pos pbl ln σ b = σ b := (upd_ne h1).trans ((upd_ne h2).trans (upd_ne h3))
theorem lxs_setP (h : LexOK C A tx σ) : (lxs C A pos pbl ln σ).upd A.P (.list [.int pos']) = lxs C A pos' pbl ln σ := by
  unfold lxs
  rw [upd_comm h.ap, upd_comm h.bp, upd_upd]
theorem lxs_setpb (h : LexOK C A tx σ) : (lxs C A pos pbl ln σ).upd A.pb (.list (stsL pbl')) = lxs C A pos pbl' ln σ := by
  unfold lxs
  rw [upd_comm h.ab, upd_upd]
theorem lxs_seta : (lxs C A pos pbl ln σ).upd A.a (.inst C A.d (lexF A.tape A.pb ln') 4) = lxs C A pos pbl ln' σ := upd_upd
theorem lxs_fcs {L : Nat} {m : Str → Option PV} {cs : List (Option PV)} (h : A.below L) : lxs C A pos pbl ln (fcs σ L m cs) = fcs (lxs C A pos pbl ln σ) L m cs := by
  unfold lxs
  rw [fcs_lt' h.2.2.1, fcs_lt' h.2.1, fcs_lt' h.1]
theorem lxs_upd {b : Nat} {o : AObj} (h1 : b ≠ A.a) (h2 : b ≠ A.pb) (h3 : b ≠ A.P) : lxs C A pos pbl ln (σ.upd b o) = (lxs C A pos pbl ln σ).upd b o := by
  unfold lxs
  rw [upd_comm h3, upd_comm h2, upd_comm h1]
theorem lxs_res {L : Nat} (h : A.below L) : res L (lxs C A pos pbl ln σ) = lxs C A pos pbl ln (res L σ) := by
  unfold lxs
  rw [res_upd_lt h.1, res_upd_lt h.2.1, res_upd_lt h.2.2.1]
theorem LexOK.below (h : LexOK C A tx σ) {L : Nat} (hf : Fresh (lxs C A pos pbl ln σ) L) : A.below L := by
  have key : ∀ b o, lxs C A pos pbl ln σ b = some o → b < L := fun b o e => by
    rcases Nat.lt_or_ge b L with q | q
    · exact q
    · have := hf b q; rw [e] at this; cases this
  obtain ⟨fs, n, e, _⟩ := h.tape
  exact ⟨key _ _ lxs_a, key _ _ (lxs_pb h), key _ _ (lxs_P h), key _ _ ((lxs_else h.ta h.tb h.tp).trans e)⟩
theorem LexOK.fresh (h : LexOK C A tx σ) {L : Nat} (hf : Fresh (lxs C A pos pbl ln σ) L) : Fresh σ L := fun b hb => by
  have hA := h.below hf
  have := hf b hb
  rwa [lxs_else (Nat.ne_of_gt (Nat.lt_of_lt_of_le hA.1 hb)) (Nat.ne_of_gt (Nat.lt_of_lt_of_le hA.2.1 hb)) (Nat.ne_of_gt (Nat.lt_of_lt_of_le hA.2.2.1 hb))] at this
theorem LexOK.fcs (h : LexOK C A tx σ) {L : Nat} {m : Str → Option PV} {cs : List (Option PV)} (hL : A.tape < L) : LexOK C A tx (fcs σ L m cs) := by
  obtain ⟨fs, n, e, r⟩ := h.tape
  exact ⟨⟨fs, n, (fcs_lt hL).trans e, r⟩, h.ta, h.tb, h.tp, h.ab, h.ap, h.bp⟩
theorem LexOK.upd (h : LexOK C A tx σ) {b : Nat} {o : AObj} (hb : b ≠ A.tape) : LexOK C A tx (σ.upd b o) := by
  obtain ⟨fs, n, e, r⟩ := h.tape
  exact ⟨⟨fs, n, (upd_ne hb.symm).trans e, r⟩, h.ta, h.tb, h.tp, h.ab, h.ap, h.bp⟩
end
section
variable {W : Wd} {k : Nat} {σ : Sig} {env : Env} {P : FM → Prop} {x y : List Nat}
theorem MethIs.kp {C : Addr} {name q : Str} {a : Addr} {st : Stmt} (m : MethIs W C name a q st) : KP W .frame (.ref a) σ := FnC.kp m.fn
theorem rc_C (D : L1 W) (N : LexCls W) {A : LexA} {tx : List Nat} {pos : Nat} {pbl : List (List Nat)} {ln : Int} {K : PV → Sig → Prop} (O : LexOK N.C A tx σ) (hp : pos ≤ tx.length) (hz : tx.length ≤ 1000000)
    (h : K (.str (sgn tx pos)) (lxs N.C A (pos + (sgn tx pos).length) pbl (ln + if sgn tx pos = [10] then 1 else 0) σ)) : CC W (k + 2) (.ref N.rc) [.ref A.a] [] [] (lxs N.C A pos pbl ln σ) K := by
  obtain ⟨doc, pm, an, cd, ct, f1⟩ := N.rcM.fn.fn
  have T := D.T
  refine CC_fcs T f1 [("self", .ref A.a, none)] 0 (bind1 (n := "self") (fun v => by rfl) ⟨rfl, rfl⟩) rfl ⟨rfl, trivial⟩ (by rfl) rfl fun L hL => ?_
  have hb := O.below hL
  have hf := O.fresh hL
  refine XS_setl T ?_
  refine E_Meth [] (kp := .frame) ?_
  refine E_Attr (E_l ?_)
  refine OA_inst T N.X (N.no _ (by simp)) ((fcs_lt hb.1).trans lxs_a) rfl (by intro n z; cases z) ?_
  obtain ⟨fs, n, e, r⟩ := O.tape
  refine GM_instF T N.X (N.no _ (by simp)) ((fcs_lt hb.2.2.2).trans ((lxs_else O.ta O.tb O.tp).trans e)) r (by intro n z; cases z) ?_
  refine EL_cons (E_int (EL_nil (EK_nil ⟨KP_clo, (read_C D ((fcs_lt hb.2.2.1).trans (lxs_P O)) hp hz ?_).call⟩)))
  rw [fcs_lt' hb.2.2.1, lxs_setP O]
  refine ⟨_, _, _, rfl, ?_⟩
  refine XS_if (T_Compare (E_l (E_strL [10] (eq_ss (truthy_bool ?_)))))
  have fin : ∀ ln', ln' = ln + (if sgn tx pos = [10] then 1 else 0) → K (.str (sgn tx pos)) (res L (fcs (lxs N.C A (pos + (sgn tx pos).length) pbl ln' σ) L (fset (bm' (fun _ => none) [(("self" : Str), PV.ref A.a, none)]) "ch" (.str (sgn tx pos))) (bc' (List.replicate 0 none) [(("self" : Str), PV.ref A.a, none)]))) := fun ln' e => by
    rw [fcs_resr, lxs_res hb, res_fresh hf, e]
    exact h
  by_cases hs : sgn tx pos = [10]
  · rw [decide_eq_true hs]
    refine XS_cons (X_AugAttr ?_)
    refine E_l ?_
    refine OA_inst T N.X (N.no _ (by simp)) ((fcs_lt hb.1).trans lxs_a) rfl (by intro n z; cases z) ?_
    refine E_int (iadd_ii ?_)
    refine SA_inst T N.X (N.no _ (by simp)) ((fcs_lt hb.1).trans lxs_a) (by decide) 4 (.inr ⟨(by intro z; cases z), rfl⟩) ?_
    rw [fcs_lt' hb.1, lexF_line, lxs_seta]
    refine XS_nil (XS_ret (E_l ?_))
    exact fin (ln + 1) (by rw [if_pos hs])
  · rw [decide_eq_false hs]
    refine XS_nil (XS_ret (E_l ?_))
    exact fin ln (by rw [if_neg hs]; lia)
theorem pt_C (D : L1 W) (N : LexCls W) {A : LexA} {tx : List Nat} {pos : Nat} {pbl : List (List Nat)} {ln : Int} {K : PV → Sig → Prop} (O : LexOK N.C A tx σ) (hz : pbl.length ≤ 100000)
    (h : K .none (lxs N.C A pos (pbl ++ [x]) ln σ)) : CC W (k + 1) (.ref N.pt) [.ref A.a, .str x] [] [] (lxs N.C A pos pbl ln σ) K := by
  obtain ⟨doc, pm, an, cd, ct, f1⟩ := N.ptM.fn.fn
  have T := D.T
  refine CC_fcs T f1 [("self", .ref A.a, none), ("token", .str x, none)] 0 (bind2 (n := "self") (m := "token") (fun v w => by rfl) ⟨rfl, rfl⟩) rfl ⟨rfl, rfl, trivial⟩ (by rfl) rfl fun L hL => ?_
  have hb := O.below hL
  have hf := O.fresh hL
  refine XS_expr ?_
  refine E_Meth [] (kp := .machine) ?_
  refine E_Attr (E_l ?_)
  refine OA_inst T N.X (N.no _ (by simp)) ((fcs_lt hb.1).trans lxs_a) rfl (by intro n z; cases z) ?_
  refine GM_ref ((fcs_lt hb.2.1).trans (lxs_pb O)) PySem.F.slot_list_append PySem.F.type_list_append ?_
  refine EL_cons (E_l ?_)
  refine EL_nil (EK_nil ⟨KP_blt, C_append T ((fcs_lt hb.2.1).trans (lxs_pb O)) (by unfold stsL; rw [List.length_map]; exact Nat.le_trans (by assumption) (by decide)) ?_⟩)
  rw [fcs_lt' hb.2.1, show stsL pbl ++ [PV.str x] = stsL (pbl ++ [x]) by unfold stsL; simp, lxs_setpb O]
  refine ⟨rfl, XS_nil ?_⟩
  show K _ _
  rw [fcs_resr, lxs_res hb, res_fresh hf]
  exact h
end
end Mine
end
section
set_option tactic.hygienic false
set_option hygiene false
set_option maxRecDepth 100000
namespace Mine
noncomputable def isW (c : Nat) : Bool := decide (c ∈ ([10, 9, 13, 32] : List Nat))
noncomputable def lexQ : List Nat → List Nat → List Nat × List Nat
  | tok, [] => (tok, [])
  | tok, [c] => if c = 34 then (tok, []) else if c = 92 then (tok, []) else (tok ++ [c], [])
  | tok, c :: d :: r => if c = 34 then (tok, d :: r) else if c = 92 then lexQ (tok ++ [d]) r else lexQ (tok ++ [c]) (d :: r)
noncomputable def lexU : List Nat → List Nat → List Nat × List Nat
  | tok, [] => (tok, [])
  | tok, [c] => if isW c then (tok, []) else if c = 92 then (tok, []) else (tok ++ [c], [])
  | tok, c :: d :: r => if isW c then (tok, d :: r) else if c = 92 then lexU (tok ++ [d]) r else lexU (tok ++ [c]) (d :: r)
noncomputable def lexS : List Nat → List Nat × List Nat
  | [] => ([], [])
  | c :: r => if isW c then lexS r else if c = 34 then lexQ [] r else if c = 92 then lexU (r.take 1) (r.drop 1) else lexU [c] r
theorem lexQ_34 (tok r : List Nat) : lexQ tok (34 :: r) = (tok, r) := by cases r <;> simp [lexQ]
theorem lexQ_92 (tok r : List Nat) : lexQ tok (92 :: r) = lexQ (tok ++ r.take 1) (r.drop 1) := by cases r <;> simp [lexQ]
theorem lexQ_c {c : Nat} (tok r : List Nat) (h1 : c ≠ 34) (h2 : c ≠ 92) : lexQ tok (c :: r) = lexQ (tok ++ [c]) r := by cases r <;> simp [lexQ, h1, h2]
theorem lexU_w {c : Nat} (tok r : List Nat) (h : isW c = true) : lexU tok (c :: r) = (tok, r) := by cases r <;> simp [lexU, h]
theorem lexU_92 (tok r : List Nat) : lexU tok (92 :: r) = lexU (tok ++ r.take 1) (r.drop 1) := by cases r <;> simp [lexU, isW]
theorem lexU_c {c : Nat} (tok r : List Nat) (h1 : isW c = false) (h2 : c ≠ 92) : lexU tok (c :: r) = lexU (tok ++ [c]) r := by cases r <;> simp [lexU, h1, h2]
noncomputable def lnAt (tx : List Nat) (pos : Nat) : Int := 1 + ((tx.take pos).count 10 : Nat)
theorem lnAt_next (tx : List Nat) (pos : Nat) : lnAt tx (pos + (sgn tx pos).length) = lnAt tx pos + if sgn tx pos = [10] then 1 else 0 := by
  unfold lnAt sgn
  cases h : tx.drop pos with
  | nil => simp
  | cons c r =>
    have e : tx[pos]? = some c := by
      have : (tx.drop pos)[0]? = some c := by rw [h]; rfl
      simpa using this
    show (1 : Int) + ((tx.take (pos + 1)).count 10 : Nat) = _
    rw [List.take_add_one, e, List.count_append]
    by_cases q : c = 10
    · subst q; simp; lia
    · simp [q]
theorem sgn_nil {tx : List Nat} {pos : Nat} (h : tx.drop pos = []) : sgn tx pos = [] := by unfold sgn; rw [h]; rfl
theorem sgn_cons {tx r : List Nat} {pos c : Nat} (h : tx.drop pos = c :: r) : sgn tx pos = [c] := by unfold sgn; rw [h]; rfl
theorem drop_next {tx r : List Nat} {pos c : Nat} (h : tx.drop pos = c :: r) : tx.drop (pos + 1) = r ∧ pos + 1 ≤ tx.length := by
  constructor
  · rw [← List.drop_drop, h]; rfl
  · rcases Nat.lt_or_ge pos tx.length with q | q
    · exact q
    · rw [List.drop_of_length_le q] at h; cases h
noncomputable def gts (N : LexCls W) (A : LexA) (tx : List Nat) (σ : Sig) (I : Nat) (pos : Nat) (b : Bool) : Sig := lxs N.C A pos [] (lnAt tx pos) (σ.upd I (.citer (if b then .none else .bm N.rc A.a) b))
section
variable {W : Wd} {k : Nat} {σ : Sig} {env : Env} {P : FM → Prop} {x y : List Nat}
structure ItOK (A : LexA) (I L : Nat) : Prop where
  il : L < I
  bl : A.below L
theorem ItOK.ne {A : LexA} {I L : Nat} (i : ItOK A I L) : I ≠ A.a ∧ I ≠ A.pb ∧ I ≠ A.P ∧ I ≠ A.tape := ⟨Nat.ne_of_gt (Nat.lt_trans i.bl.1 i.il), Nat.ne_of_gt (Nat.lt_trans i.bl.2.1 i.il), Nat.ne_of_gt (Nat.lt_trans i.bl.2.2.1 i.il), Nat.ne_of_gt (Nat.lt_trans i.bl.2.2.2 i.il)⟩
theorem gts_I {N : LexCls W} {A : LexA} {tx : List Nat} {I pos L : Nat} {b : Bool} {m : Str → Option PV} (i : ItOK A I L) : fcs (gts N A tx σ I pos b) L m [] I = some (.citer (if b then .none else .bm N.rc A.a) b) := by
  rw [fcs_gt (show L + ([] : List (Option PV)).length < I from i.il)]
  unfold gts
  rw [lxs_else i.ne.1 i.ne.2.1 i.ne.2.2.1, upd_same]
theorem gts_a {N : LexCls W} {A : LexA} {tx : List Nat} {I pos L : Nat} {b : Bool} {m : Str → Option PV} (i : ItOK A I L) : fcs (gts N A tx σ I pos b) L m [] A.a = some (.inst N.C A.d (lexF A.tape A.pb (lnAt tx pos)) 4) := by
  rw [fcs_lt i.bl.1]; exact lxs_a
theorem rc_gts (D : L1 W) (N : LexCls W) {A : LexA} {tx : List Nat} {I pos L : Nat} {b : Bool} {m : Str → Option PV} {K : PV → Sig → Prop} (i : ItOK A I L) (O : LexOK N.C A tx σ) (hp : pos ≤ tx.length) (hz : tx.length ≤ 1000000)
    (h : K (.str (sgn tx pos)) (fcs (gts N A tx σ I (pos + (sgn tx pos).length) b) L m [])) : CC W (k + 2) (.ref N.rc) [.ref A.a] [] [] (fcs (gts N A tx σ I pos b) L m []) K := by
  unfold gts
  rw [← lxs_fcs i.bl]
  refine rc_C D N ((O.upd i.ne.2.2.2).fcs i.bl.2.2.2) hp hz ?_
  rw [← lnAt_next, lxs_fcs i.bl]
  exact h
theorem nx_gts (D : L1 W) (N : LexCls W) {A : LexA} {tx : List Nat} {I pos L : Nat} {m : Str → Option PV} {K : Option PV → Sig → Prop} (i : ItOK A I L) (O : LexOK N.C A tx σ) (hp : pos ≤ tx.length) (hz : tx.length ≤ 1000000)
    (h0 : tx.drop pos = [] → K none (fcs (gts N A tx σ I pos true) L m [])) (h1 : ∀ c r, tx.drop pos = c :: r → K (some (.str [c])) (fcs (gts N A tx σ I (pos + 1) false) L m [])) : NX W (k + 3) I (fcs (gts N A tx σ I pos false) L m []) K := by
  obtain ⟨doc, pm, an, cd, ct, f1⟩ := N.rcM.fn.fn
  obtain ⟨o, ho, hc, hd⟩ := f1.at_
  refine NX_call D.T ho hc hd (gts_I i) ?_
  refine rc_gts D N i O hp hz ⟨_, rfl, gts_I i, ?_⟩
  cases e : tx.drop pos with
  | nil =>
    rw [sgn_nil e, if_pos rfl]
    have := h0 e
    rw [fcs_gt' (show L + ([] : List (Option PV)).length < I from i.il)]
    unfold gts at this ⊢
    rw [← lxs_upd i.ne.1 i.ne.2.1 i.ne.2.2.1, upd_upd]
    exact this
  | cons c r =>
    rw [sgn_cons e, if_neg (by intro z; cases z)]
    exact h1 c r e
theorem nx_end (D : L1 W) (N : LexCls W) {A : LexA} {tx : List Nat} {I pos L : Nat} {m : Str → Option PV} {K : Option PV → Sig → Prop} (i : ItOK A I L) (h : K none (fcs (gts N A tx σ I pos true) L m [])) : NX W k I (fcs (gts N A tx σ I pos true) L m []) K := NX_done D.T (gts_I i) h
end
end Mine
end
section
set_option tactic.hygienic false
set_option hygiene false
set_option maxRecDepth 100000
namespace Mine
section
variable {W : Wd} {k : Nat} {σ : Sig} {env : Env} {P : FM → Prop} {x y : List Nat}
theorem XS_cut {st : Stmt} {rest : List Stmt} {K : AFlow → Sig → Prop} (Q : Sig → Prop) (h : X W k env st σ fun fl σ₁ => fl = .next ∧ Q σ₁) (h2 : ∀ σ₁, Q σ₁ → XS W k env rest σ₁ K) : XS W k env (st :: rest) σ K :=
  XS_cons (h.imp fun fl σ₁ ⟨e, q⟩ => by subst e; exact h2 σ₁ q)
theorem gen {α β : Type} {R : FM → β → α → Prop} {t : Sem α} {K : β → Sig → Prop} (h : ∀ K', K' = K → G W k P R t σ K') : G W k P R t σ K := h K rfl
theorem gt_pop_C (D : L1 W) (N : LexCls W) {A : LexA} {tx : List Nat} {pos : Nat} {pbl : List (List Nat)} {ln : Int} {K : PV → Sig → Prop} (O : LexOK N.C A tx σ) (hz : pbl.length ≤ 100000)
    (h : K (.str x) (lxs N.C A pos pbl ln σ)) : CC W (k + 1) (.ref N.gt) [.ref A.a] [] [] (lxs N.C A pos (x :: pbl) ln σ) K := by
  obtain ⟨doc, pm, an, cd, ct, f1⟩ := N.gtM.fn.fn
  have T := D.T
  refine CC_fcs T f1 [("self", .ref A.a, none)] 0 (bind1 (n := "self") (fun v => by rfl) ⟨rfl, rfl⟩) rfl ⟨rfl, trivial⟩ (by rfl) rfl fun L hL => ?_
  have hb := O.below hL
  have hf := O.fresh hL
  have hl : (stsL (x :: pbl)).length ≤ 1000000 := by unfold stsL; rw [List.length_map, List.length_cons]; lia
  refine XS_if (T_val (E_Attr (E_l ?_)))
  refine OA_inst T N.X (N.no _ (by simp)) ((fcs_lt hb.1).trans lxs_a) rfl (by intro n z; cases z) ?_
  refine truthy_ref ((fcs_lt hb.2.1).trans (lxs_pb O)) hl ?_
  refine XS_ret ?_
  refine E_Meth [] (kp := .machine) ?_
  refine E_Attr (E_l ?_)
  refine OA_inst T N.X (N.no _ (by simp)) ((fcs_lt hb.1).trans lxs_a) rfl (by intro n z; cases z) ?_
  refine GM_ref ((fcs_lt hb.2.1).trans (lxs_pb O)) PySem.F.slot_list_pop PySem.F.type_list_pop ?_
  refine EL_cons (E_int (EL_nil (EK_nil ⟨KP_blt, C_pop0 T (p := .str x) (l := stsL pbl) ((fcs_lt hb.2.1).trans (lxs_pb O)) (by unfold stsL; rw [List.length_map]; exact Nat.le_trans (by assumption) (by decide)) ?_⟩)))
  rw [fcs_lt' hb.2.1, lxs_setpb O]
  show K _ _
  rw [fcs_resr, lxs_res hb, res_fresh hf]
  exact h
theorem len_drop {tx rs : List Nat} {pos : Nat} (h : tx.drop pos = rs) (hp : pos ≤ tx.length) : pos = tx.length - rs.length := by
  have := congrArg List.length h
  rw [List.length_drop] at this
  rw [← this, Nat.sub_sub_self hp]
theorem gt_C (D : L1 W) (N : LexCls W) {A : LexA} {tx : List Nat} {pos : Nat} {K : PV → Sig → Prop} (O : LexOK N.C A tx σ) (hp : pos ≤ tx.length) (hz : tx.length ≤ 1000000)
    (h : K (.str (lexS (tx.drop pos)).1) (lxs N.C A (tx.length - (lexS (tx.drop pos)).2.length) [] (lnAt tx (tx.length - (lexS (tx.drop pos)).2.length)) σ)) : CC W (k + 4) (.ref N.gt) [.ref A.a] [] [] (lxs N.C A pos [] (lnAt tx pos) σ) K := by
  obtain ⟨doc, pm, an, cd, ct, f1⟩ := N.gtM.fn.fn
  have T := D.T
  refine CC_fcs (k := k + 3) T f1 [("self", .ref A.a, none)] 0 (bind1 (n := "self") (fun v => by rfl) ⟨rfl, rfl⟩) rfl ⟨rfl, trivial⟩ (by rfl) rfl fun L hL => ?_
  have hb := O.below hL
  have hf := O.fresh hL
  generalize hfin : lexS (tx.drop pos) = fin at h
  obtain ⟨tk, rs⟩ := fin
  refine XS_if (T_val (E_Attr (E_l ?_)))
  refine OA_inst T N.X (N.no _ (by simp)) ((fcs_lt hb.1).trans lxs_a) rfl (by intro n z; cases z) ?_
  refine truthy_ref ((fcs_lt hb.2.1).trans (lxs_pb O)) (by simp [stsL]) ?_
  refine XS_nil ?_
  refine XS_setl T ?_
  refine E_strL [] ?_
  refine ⟨_, _, _, rfl, ?_⟩
  refine XS_setl T ?_
  refine E_Call [] (kp := .machine) ?_
  refine E_bn T D.B (n := "iter") (by simp) ?_
  refine EL_cons (E_Attr (E_l ?_))
  refine OA_bm T N.X N.rcM.find N.rcM.ty N.rcG N.rcT (by decide) ((fcs_lt hb.1).trans lxs_a) rfl ?_
  refine EL_cons (E_strL [] ?_)
  refine EL_nil (EK_nil ⟨KP_blt, C_iter2 T fun I hI => ?_⟩)
  have hIL := fcs_fresh hI
  have i : ItOK A I L := ⟨hIL, hb⟩
  refine ⟨_, _, _, fcs_gt' hIL, ?_⟩
  rw [show (lxs N.C A pos [] (lnAt tx pos) σ).upd I (.citer (.bm N.rc A.a) false) = gts N A tx σ I pos false from (lxs_upd i.ne.1 i.ne.2.1 i.ne.2.2.1).symm]
  -- what a return does
  have ret : ∀ pos' b m, pos' ≤ tx.length → tx.drop pos' = rs → K (.str tk) (res L (fcs (gts N A tx σ I pos' b) L m [])) := fun pos' b m h1 h2 => by
    rw [fcs_resr]
    unfold gts
    rw [lxs_res hb, res_upd_ge (Nat.le_of_lt i.il), res_fresh hf]
    have := len_drop h2 h1
    rw [this]
    exact h
  refine XS_cons (X_ForIt (I := I) T (fun n σ' => (∃ pos m, σ' = fcs (gts N A tx σ I pos false) L m [] ∧ m "self" = some (.ref A.a) ∧ m "fiter" = some (.ref I) ∧ m "token" = some (.str []) ∧ pos ≤ tx.length ∧ lexS (tx.drop pos) = (tk, rs) ∧ (tx.drop pos).length < n) ∨
    (∃ m, σ' = fcs (gts N A tx σ I tx.length true) L m [] ∧ m "token" = some (.str tk) ∧ rs = [])) (tx.length + 1) ?_ ?_)
  · refine E_l ⟨rfl, ⟨_, _, gts_I i⟩, .inl ⟨pos, _, rfl, rfl, rfl, rfl, hp, hfin, ?_⟩⟩
    rw [List.length_drop]; lia
  rintro n σ' (⟨pos, m, rfl, hm1, hm2, hm3, hp, hS, hn⟩ | ⟨m, rfl, hm, hrs⟩)
  · refine ⟨⟨_, _, gts_I i⟩, nx_gts D N i O hp hz (fun e => ?_) (fun c r e => ⟨⟨_, _, gts_I i⟩, AT_name (S_l T ?_)⟩)⟩
    · rw [e] at hS
      obtain ⟨rfl, rfl⟩ : [] = tk ∧ [] = rs := by simpa [lexS] using hS
      refine XS_nil (XS_ret (E_l ?_ hm3))
      exact ret _ _ _ hp e
    refine gen fun K₁ hK₁ => ?_
    obtain ⟨e1, hp1⟩ := drop_next e
    rw [e] at hS
    have hrl : r.length + 1 < n := by have := hn; rw [e, List.length_cons] at this; exact this
    have hwsF : ∀ {m : Str → Option PV} {pos}, fcs (gts N A tx σ I pos false) L m [] A.a = some (.inst N.C A.d (lexF A.tape A.pb (lnAt tx pos)) 4) := fun {m pos} => gts_a i
    refine XS_if (T_Compare (E_l (E_Attr (E_l ?_ hm1))))
    refine OA_inst T N.X (N.no _ (by simp)) hwsF rfl (by intro n z; cases z) (in_cs (truthy_bool ?_))
    rw [show decide (c ∈ ([10, 9, 13, 32] : List Nat)) = isW c from rfl]
    cases hw : isW c with
    | true =>
      refine XS_cons (X_Continue ?_)
      subst hK₁
      refine ⟨r.length + 1, hrl, .inl ⟨_, _, rfl, hm1, hm2, hm3, hp1, ?_, ?_⟩⟩
      · rw [e1, ← hS]; simp [lexS, hw]
      · rw [e1]; lia
    | false =>
    refine XS_nil ?_
    refine XS_if (T_Compare (E_l (E_strL [34] (eq_ss (truthy_bool ?_)))))
    by_cases h34 : c = 34
    · subst h34
      rw [decide_eq_true rfl]
      have hS : lexQ [] r = (tk, rs) := by rw [← hS]; simp [lexS, hw]
      refine XS_cons (X_ForIt (I := I) T (fun n σ' => (∃ pos m tok, σ' = fcs (gts N A tx σ I pos false) L m [] ∧ m "self" = some (.ref A.a) ∧ m "fiter" = some (.ref I) ∧ m "token" = some (.str tok) ∧ pos ≤ tx.length ∧ lexQ tok (tx.drop pos) = (tk, rs) ∧ tok.length ≤ pos ∧ (tx.drop pos).length < n) ∨
        (∃ m, σ' = fcs (gts N A tx σ I tx.length true) L m [] ∧ m "token" = some (.str tk) ∧ rs = [])) (r.length + 1) ?_ ?_)
      · refine E_l ⟨rfl, ⟨_, _, gts_I i⟩, .inl ⟨pos + 1, _, [], rfl, hm1, hm2, hm3, hp1, by rw [e1]; exact hS, Nat.zero_le _, by rw [e1]; lia⟩⟩ hm2
      · rintro n' σ' (⟨pos, m, tok, rfl, hm1, hm2, hm3, hp, hS, ht, hn'⟩ | ⟨m, rfl, hm, hrs⟩)
        · refine ⟨⟨_, _, gts_I i⟩, nx_gts D N i O hp hz (fun e => ?_) (fun c r e => ⟨⟨_, _, gts_I i⟩, AT_name (S_l T ?_)⟩)⟩
          · rw [e] at hS
            obtain ⟨rfl, rfl⟩ : tok = tk ∧ [] = rs := by simpa [lexQ] using hS
            have hpe : pos = tx.length := by
              have := len_drop e hp
              simpa using this
            subst hpe
            (refine XS_nil (XS_nil (XS_nil ?_)); subst hK₁; exact ⟨0, by lia, .inr ⟨_, rfl, hm3, rfl⟩⟩)
          refine gen fun K₂ hK₂ => ?_
          obtain ⟨e1, hp1⟩ := drop_next e
          rw [e] at hS
          have hrl : r.length + 1 < n' := by have := hn'; rw [e, List.length_cons] at this; exact this
          refine XS_if (T_Compare (E_l (E_strL [34] (eq_ss (truthy_bool ?_)))))
          by_cases h34 : c = 34
          · subst h34
            rw [decide_eq_true rfl]
            rw [lexQ_34] at hS
            obtain ⟨rfl, rfl⟩ : tok = tk ∧ r = rs := by simpa using hS
            refine XS_ret (E_l ?_ hm3)
            subst hK₂
            subst hK₁
            exact ret _ _ _ hp1 e1
          · rw [decide_eq_false (by simpa using h34)]
            by_cases h92 : c = 92
            · subst h92
              refine XS_if (T_Compare (E_l (E_strL [92] (eq_ss (truthy_bool ?_)))))
              rw [decide_eq_true rfl]
              refine XS_setl T ?_
              refine E_Meth [] (kp := .frame) ?_
              refine E_l ?_ hm1
              refine GM_inst T N.X N.rcM.find N.rcM.ty (gts_a i) rfl ?_
              refine EL_nil (EK_nil ⟨N.rcM.kp, (rc_gts (k := k + 1) D N i O hp1 hz ?_).call⟩)
              refine ⟨_, _, _, rfl, XS_nil (XS_nil ?_)⟩
              refine XS_augl T (E_l ?_) hm3
              refine iadd_ss (by have := sgn_len hp1; lia) ⟨_, _, _, rfl, XS_nil ?_⟩
              have hsl := sgn_len hp1
              subst hK₂
              refine ⟨r.length + 1, hrl, .inl ⟨_, _, _, rfl, hm1, hm2, fset_same _ _ _, hsl.2, ?_, ?_, ?_⟩⟩
              · rw [← hS, lexQ_92, ← List.drop_drop, e1]
                unfold sgn
                rw [e1]
                cases r <;> rfl
              · rw [List.length_append]; lia
              · rw [← List.drop_drop, e1, List.length_drop]; lia
            · refine XS_if (T_Compare (E_l (E_strL [92] (eq_ss (truthy_bool ?_)))))
              rw [decide_eq_false (by simpa using h92)]
              refine XS_nil (XS_nil ?_)
              refine XS_augl T (E_l ?_) hm3
              refine iadd_ss (by simp; lia) ⟨_, _, _, rfl, XS_nil ?_⟩
              subst hK₂
              refine ⟨r.length + 1, hrl, .inl ⟨_, _, _, rfl, hm1, hm2, fset_same _ _ _, hp1, ?_, ?_, ?_⟩⟩
              · rw [← hS, lexQ_c _ _ h34 h92, e1]
              · simp; assumption
              · rw [e1]; lia
        · (refine ⟨⟨_, _, gts_I i⟩, nx_end D N i (XS_nil (XS_nil (XS_nil ?_)))⟩; subst hK₁; exact ⟨0, by lia, .inr ⟨_, rfl, hm, hrs⟩⟩)
    · rw [decide_eq_false (by simpa using h34)]
      -- the first sign of a bare word
      refine XS_cut (fun σ' => ∃ pos m y, σ' = fcs (gts N A tx σ I pos false) L m [] ∧ m "self" = some (.ref A.a) ∧ m "fiter" = some (.ref I) ∧ m "token" = some (.str []) ∧ m "ch" = some (.str y) ∧ y.length ≤ pos ∧ pos ≤ tx.length ∧ lexU y (tx.drop pos) = (tk, rs) ∧ (tx.drop pos).length ≤ r.length) (X_If (T_Compare (E_l (E_strL [92] (eq_ss (truthy_bool ?_)))))) ?_
      · by_cases h92 : c = 92
        · subst h92
          rw [decide_eq_true rfl]
          refine XS_setl T ?_
          refine E_Meth [] (kp := .frame) ?_
          refine E_l ?_ hm1
          refine GM_inst T N.X N.rcM.find N.rcM.ty (gts_a i) rfl ?_
          refine EL_nil (EK_nil ⟨N.rcM.kp, (rc_gts (k := k + 1) D N i O hp1 hz ?_).call⟩)
          have hsl := sgn_len hp1
          refine ⟨_, _, _, rfl, XS_nil ⟨rfl, _, _, _, rfl, hm1, hm2, hm3, fset_same _ _ _, by lia, hsl.2, ?_, ?_⟩⟩
          · have hS : lexU (r.take 1) (r.drop 1) = (tk, rs) := by rw [← hS]; simp [lexS, hw]
            rw [← List.drop_drop, e1]
            unfold sgn
            rw [e1, ← hS]
            cases r <;> rfl
          · rw [← List.drop_drop, e1, List.length_drop]; lia
        · rw [decide_eq_false (by simpa using h92)]
          have hS : lexU [c] r = (tk, rs) := by rw [← hS]; simp [lexS, hw, h34, h92]
          exact XS_nil ⟨rfl, _, _, _, rfl, hm1, hm2, hm3, fset_same _ _ _, by simp, hp1, by rw [e1]; exact hS, by rw [e1]; exact Nat.le_refl _⟩
      rintro _ ⟨pos, m, y, rfl, g1, g2, g3, g4, gl, gp, gS, gr⟩
      refine XS_augl T (E_l ?_ g4) g3
      refine iadd_ss (by simp; lia) ⟨_, _, _, rfl, ?_⟩
      refine XS_cons (X_ForIt (I := I) T (fun n σ' => (∃ pos m tok, σ' = fcs (gts N A tx σ I pos false) L m [] ∧ m "self" = some (.ref A.a) ∧ m "fiter" = some (.ref I) ∧ m "token" = some (.str tok) ∧ pos ≤ tx.length ∧ lexU tok (tx.drop pos) = (tk, rs) ∧ tok.length ≤ pos ∧ (tx.drop pos).length < n) ∨
      (∃ m, σ' = fcs (gts N A tx σ I tx.length true) L m [] ∧ m "token" = some (.str tk) ∧ rs = [])) (r.length + 1) ?_ ?_)
      · refine E_l ⟨rfl, ⟨_, _, gts_I i⟩, .inl ⟨_, _, _, rfl, g1, g2, fset_same _ _ _, gp, gS, by rw [List.nil_append]; exact gl, by lia⟩⟩ g2
      · rintro n' σ' (⟨pos, m, tok, rfl, hm1, hm2, hm3, hp, hS, ht, hn'⟩ | ⟨m, rfl, hm, hrs⟩)
        · refine ⟨⟨_, _, gts_I i⟩, nx_gts D N i O hp hz (fun e => ?_) (fun c r e => ⟨⟨_, _, gts_I i⟩, AT_name (S_l T ?_)⟩)⟩
          · rw [e] at hS
            obtain ⟨rfl, rfl⟩ : tok = tk ∧ [] = rs := by simpa [lexU] using hS
            have hpe : pos = tx.length := by
              have := len_drop e hp
              simpa using this
            subst hpe
            (refine XS_nil (XS_nil (XS_nil ?_)); subst hK₁; exact ⟨0, by lia, .inr ⟨_, rfl, hm3, rfl⟩⟩)
          refine gen fun K₂ hK₂ => ?_
          obtain ⟨e1, hp1⟩ := drop_next e
          rw [e] at hS
          have hrl : r.length + 1 < n' := by have := hn'; rw [e, List.length_cons] at this; exact this
          have hwsF : ∀ {m : Str → Option PV} {pos}, fcs (gts N A tx σ I pos false) L m [] A.a = some (.inst N.C A.d (lexF A.tape A.pb (lnAt tx pos)) 4) := fun {m pos} => gts_a i
          refine XS_if (T_Compare (E_l (E_Attr (E_l ?_ hm1))))
          refine OA_inst T N.X (N.no _ (by simp)) hwsF rfl (by intro n z; cases z) (in_cs (truthy_bool ?_))
          rw [show decide (c ∈ ([10, 9, 13, 32] : List Nat)) = isW c from rfl]
          cases hw : isW c with
          | true =>
            rw [lexU_w _ _ hw] at hS
            obtain ⟨rfl, rfl⟩ : tok = tk ∧ r = rs := by simpa using hS
            refine XS_ret (E_l ?_ hm3)
            subst hK₂
            subst hK₁
            exact ret _ _ _ hp1 e1
          | false =>
            by_cases h92 : c = 92
            · subst h92
              refine XS_if (T_Compare (E_l (E_strL [92] (eq_ss (truthy_bool ?_)))))
              rw [decide_eq_true rfl]
              refine XS_setl T ?_
              refine E_Meth [] (kp := .frame) ?_
              refine E_l ?_ hm1
              refine GM_inst T N.X N.rcM.find N.rcM.ty (gts_a i) rfl ?_
              refine EL_nil (EK_nil ⟨N.rcM.kp, (rc_gts (k := k + 1) D N i O hp1 hz ?_).call⟩)
              refine ⟨_, _, _, rfl, XS_nil (XS_nil ?_)⟩
              refine XS_augl T (E_l ?_) hm3
              refine iadd_ss (by have := sgn_len hp1; lia) ⟨_, _, _, rfl, XS_nil ?_⟩
              have hsl := sgn_len hp1
              subst hK₂
              refine ⟨r.length + 1, hrl, .inl ⟨_, _, _, rfl, hm1, hm2, fset_same _ _ _, hsl.2, ?_, ?_, ?_⟩⟩
              · rw [← hS, lexU_92, ← List.drop_drop, e1]
                unfold sgn
                rw [e1]
                cases r <;> rfl
              · rw [List.length_append]; lia
              · rw [← List.drop_drop, e1, List.length_drop]; lia
            · refine XS_if (T_Compare (E_l (E_strL [92] (eq_ss (truthy_bool ?_)))))
              rw [decide_eq_false (by simpa using h92)]
              refine XS_nil (XS_nil ?_)
              refine XS_augl T (E_l ?_) hm3
              refine iadd_ss (by simp; lia) ⟨_, _, _, rfl, XS_nil ?_⟩
              subst hK₂
              refine ⟨r.length + 1, hrl, .inl ⟨_, _, _, rfl, hm1, hm2, fset_same _ _ _, hp1, ?_, ?_, ?_⟩⟩
              · rw [← hS, lexU_c _ _ hw h92, e1]
              · simp; assumption
              · rw [e1]; lia
        · (refine ⟨⟨_, _, gts_I i⟩, nx_end D N i (XS_nil (XS_nil (XS_nil ?_)))⟩; subst hK₁; exact ⟨0, by lia, .inr ⟨_, rfl, hm, hrs⟩⟩)
  · refine ⟨⟨_, _, gts_I i⟩, nx_end D N i ?_⟩
    refine XS_nil (XS_ret (E_l ?_ hm))
    exact ret _ _ _ (Nat.le_refl _) (by rw [hrs]; simp)
end
end Mine
end
section
set_option tactic.hygienic false
set_option hygiene false
set_option maxRecDepth 100000
namespace Mine
section
variable {W : Wd} {k : Nat} {σ : Sig} {env : Env} {P : FM → Prop} {x y : List Nat}
theorem fcs_range {τ : Sig} {L a : Nat} {m : Str → Option PV} {cs : List (Option PV)} (h1 : L ≤ a) (h2 : a ≤ L + cs.length) : (∃ m', fcs τ L m cs a = some (.frame m')) ∨ ∃ c, fcs τ L m cs a = some (.cell c) := by
  rcases Nat.eq_or_lt_of_le h1 with rfl | h
  · exact .inl ⟨_, fcs_L⟩
  · obtain ⟨i, rfl⟩ : ∃ i, a = L + 1 + i := ⟨a - (L + 1), (Nat.add_sub_of_le h).symm⟩
    have hi : i < cs.length := by lia
    exact .inr ⟨_, fcs_c (List.getElem?_eq_getElem hi)⟩
theorem sub_fcs {τ : Sig} {L : Nat} {m : Str → Option PV} {cs : List (Option PV)} (hτ : ∀ a, L ≤ a → a ≤ L + cs.length → τ a = none) : ∀ s, St W (fcs τ L m cs) s → Sub τ (fcs τ L m cs) := fun s S => by
  have eq : ∀ a, (a < L ∨ L + cs.length < a) → fcs τ L m cs a = τ a := fun a h => h.elim (fun h => fcs_lt h) (fun h => fcs_gt h)
  have out : ∀ a o, τ a = some o → (a < L ∨ L + cs.length < a) := fun (a : Nat) o e => by
    rcases Nat.lt_or_ge a L with q | q
    · exact .inl q
    · rcases Nat.lt_or_ge (L + cs.length) a with q' | q'
      · exact .inr q'
      · rw [hτ a q q'] at e; cases e
  refine ⟨fun a o e => (eq a (out a o e)).trans e, fun a C d fs n e => ?_⟩
  have hd := (S.dict_there ((eq a (out a _ e)).trans e)).1
  have : (d : Nat) < L ∨ L + cs.length < d := by
    rcases Nat.lt_or_ge d L with q | q
    · exact .inl q
    · rcases Nat.lt_or_ge (L + cs.length) d with q' | q'
      · exact .inr q'
      · rcases fcs_range (τ := τ) (m := m) q q' with ⟨m', e'⟩ | ⟨c, e'⟩ <;> (rw [e'] at hd; cases hd)
  rw [eq d this] at hd; exact hd
theorem CC_fcsS (T : Top W) {a : Addr} {fd : FuncData} {body : List Stmt} (f : FnAt W a fd body) {args kv : List PV} {kn : List Str} {K : PV → Sig → Prop} (bp : List (Str × PV × Option Nat)) (n : Nat)
    (hb : ∀ vs ws, G W k (fun F => VRels F args vs ∧ VRels F kv ws) BRels (bindArgs fd ⟨vs, kn.zip ws⟩) σ fun b s => b = (bp.map fun b => (b.1, b.2.1)) ∧ s = σ) (hk : fd.scope.kind = .function)
    (hl : BindsAt fd.scope bp) (hn : (fd.scope.names.countP fun x => x.2 == .cell) = n) (hi : inB n bp = true)
    (h : ∀ L, Fresh σ L → XS W k (envFn fd [] L a) body (fcs σ L (bm' (fun _ => none) bp) (bc' (List.replicate n none) bp)) fun fl σ₃ => ∃ τ m cs, σ₃ = fcs τ L m cs ∧ (∀ a, L ≤ a → a ≤ L + cs.length → τ a = none) ∧ K (retOf fl) τ) : CC W (k + 1) (.ref a) args kn kv σ K :=
  CC_fn f fun vs ws => (hb vs ws).imp fun b s hpat L hL => by
    obtain ⟨e1, e2⟩ := hpat
    subst e1 e2
    rw [cellsUpd_at, hn]
    exact SB_fcs (env := envFn fd [] L a) (cl := []) T hk rfl rfl hl (by rw [List.length_replicate]; exact hi) ((h L hL).imp fun fl σ₃ hpat => by obtain ⟨τ, m, cs, e, hτ, z⟩ := hpat; exact ⟨τ, .inr (e ▸ sub_fcs hτ), z⟩)
theorem fcs_dels {τ : Sig} {L : Nat} {m : Str → Option PV} {c d : Option PV} (h1 : τ (L + 1) = none) (h2 : τ (L + 1 + 1) = none) : (fcs τ L m [c, d]).dels [L + 1, L + 1 + 1] = fcs τ L m [] := by
  funext b
  unfold Sig.dels
  by_cases q1 : b = L + 1
  · subst q1
    rw [if_pos (by simp), fcs_gt (by simp), h1]
  · by_cases q2 : b = L + 1 + 1
    · subst q2
      rw [if_pos (by simp), fcs_gt (by simp; lia), h2]
    · rw [if_neg (by simp [q1, q2])]
      have hb : ∀ b : Nat, b ≠ L + 1 → b ≠ L + 1 + 1 → fcs τ L m [c, d] b = fcs τ L m [] b := fun b q1 q2 => by
        rcases Nat.lt_trichotomy b L with q | q | q
        · rw [fcs_lt q, fcs_lt q]
        · subst q; rw [fcs_L, fcs_L]
        · have e : ([c, d] : List (Option PV)).length = 2 := rfl
          rw [fcs_gt (show L + ([c, d] : List (Option PV)).length < b by rw [e]; lia), fcs_gt (by simpa using q)]
      exact hb b q1 q2
noncomputable def lexG (fp : PV) (pb : Addr) (ln : Int) : Str → Option PV := fset (fset (fset (fset (fun _ => none) "lineno" (.int ln)) "instream" fp) "whitespace" (.str [10, 9, 13, 32])) "pushback" (.ref pb)
theorem ini_C (D : L1 W) (N : LexCls W) {fp : PV} {d a : Nat} {K : PV → Sig → Prop} (hd : d < a) (hσd : σ a = some (.inst N.C d (fun _ => none) 0)) 
    (h : ∀ b, a < b → Fresh σ b → K .none ((σ.upd a (.inst N.C d (lexG fp b 1) 4)).upd b (.list []))) : CC W (k + 1) (.ref N.ini) [.ref a, fp] [] [] σ K := by
  obtain ⟨doc, pm, an, cd, ct, f1⟩ := N.iniM.fn.fn
  have T := D.T
  refine CC_fcsS T f1 [("self", .ref a, none), ("fp", fp, none)] 0 (bind2 (n := "self") (m := "fp") (fun v w => by rfl) ⟨rfl, rfl⟩) rfl ⟨rfl, rfl, trivial⟩ (by rfl) rfl fun L hL => ?_
  have haL : a < L := by
    rcases Nat.lt_or_ge a L with q | q
    · exact q
    · have := hL a q; rw [hσd] at this; cases this
  refine XS_cons (X_AssignAttr (E_int (E_l ?_)))
  refine SA_inst T N.X (N.no _ (by simp)) ((fcs_lt haL).trans hσd) (by decide) 1 (.inl rfl) ?_
  rw [fcs_lt' haL]
  refine XS_cons (X_AssignAttr (E_l (E_l ?_)))
  refine SA_inst T N.X (N.no _ (by simp)) ((fcs_lt haL).trans (upd_same _ _ _)) (by decide) 2 (.inl rfl) ?_
  rw [fcs_lt' haL, upd_upd]
  refine XS_cons (X_AssignAttr (E_strL [10, 9, 13, 32] (E_l ?_)))
  refine SA_inst T N.X (N.no _ (by simp)) ((fcs_lt haL).trans (upd_same _ _ _)) (by decide) 3 (.inl rfl) ?_
  rw [fcs_lt' haL, upd_upd]
  refine XS_cons (X_AssignAttr (E_ListM (EL_nil ⟨by simp, fun b hb => ?_⟩)))
  have hLb := fcs_fresh hb
  rw [fcs_gt' hLb]
  have hab : a ≠ b := Nat.ne_of_lt (Nat.lt_trans haL (Nat.lt_of_le_of_lt (Nat.le_add_right _ _) hLb))
  refine E_l ?_
  refine SA_inst T N.X (N.no _ (by simp)) ((fcs_lt haL).trans ((upd_ne hab).trans (upd_same _ _ _))) (by decide) 4 (.inl rfl) ?_
  rw [fcs_lt' haL, upd_comm hab.symm, upd_upd]
  refine XS_nil ⟨_, _, _, rfl, fun c h1 h2 => ?_, ?_⟩
  · have h2 : c ≤ L := h2
    have : c = L := Nat.le_antisymm h2 h1
    subst this
    rw [upd_ne (Nat.ne_of_lt (Nat.lt_of_le_of_lt (Nat.le_add_right _ _) hLb)), upd_ne (Nat.ne_of_gt haL)]
    exact hL c (Nat.le_refl _)
  · refine h b (Nat.lt_trans haL (Nat.lt_of_le_of_lt (Nat.le_add_right _ _) hLb)) fun c hc => hL c (Nat.le_trans (Nat.le_of_lt (Nat.lt_of_le_of_lt (Nat.le_add_right _ _) hLb)) hc)
theorem make_C (D : L1 W) (N : LexCls W) {fp : PV} {K : PV → Sig → Prop} (h : ∀ d b : Nat, Fresh σ d → d + 1 < b → K (.ref (d + 1)) (((σ.upd d (.part (d + 1))).upd (d + 1) (.inst N.C d (lexG fp b 1) 4)).upd b (.list []))) : CC W (k + 2) (.ref N.C) [fp] [] [] σ K := by
  refine CC_make D.T N.X N.iniM.find N.iniM.ty fun d hd => ?_
  refine ini_C D N (Nat.lt_succ_self d) (upd_same _ _ _) fun b hb _ => ⟨rfl, ?_⟩
  rw [upd_upd]
  exact h d b hd hb
structure NestOK (W : Wd) (a c : Addr) : Prop where
  fn : ∃ doc pm an ct, FnAt W a (fnX (nameOf (defAt 19)) "_law_lexer" (paramsOf (defAt 19)) (bodyOf (defAt 19)) (scopeOf (defAt 19)) [] .none .none doc pm an (.ref c) ct) (bodyOf (defAt 19))
  tab : TabTop W c
  pos : readDef.pos = W.tpos
  q : W.tq = "_law_lexer.<locals>.read"
noncomputable def lexBase (C : Addr) (A : LexA) (tpb : Nat) (tx : List Nat) (σ : Sig) : Sig := (((σ.upd A.td (.part A.tape)).upd A.tape (.inst C A.td (fset (lexG .none tpb 1) "read" (readClo tx A.P)) 5)).upd tpb (.list [])).upd A.d (.part A.a)
theorem law_lexer_C (D : L1 W) (N : LexCls W) {a c : Addr} (O : NestOK W a c) {tx : List Nat} {K : PV → Sig → Prop} (h : ∀ A tpb, Fresh σ A.P → A.P < A.td → A.tape = A.td + 1 → A.tape < tpb → tpb < A.d → A.a = A.d + 1 → A.a < A.pb → K (.ref A.a) (lxs N.C A 0 [] 1 (lexBase N.C A tpb tx σ))) : CC W (k + 3) (.ref a) [.str tx] [] [] σ K := by
  obtain ⟨doc, pm, an, ct, f1⟩ := O.fn
  have T := D.T
  refine CC_fcsS T f1 [("text", .str tx, some 0)] 2 (bind1 (n := "text") (fun v => by rfl) ⟨rfl, rfl⟩) rfl ⟨⟨rfl, fun L => rfl⟩, trivial⟩ (by rfl) rfl fun (L : Nat) hL => ?_
  refine (?_ : XS W _ _ _ (fcs σ L (fun _ => none) [some (.str tx), none]) _)
  refine XS_setc T 1 (E_ListM (EL_cons (E_int (EL_nil ⟨by simp, fun (P : Nat) hP => ?_⟩))))
  have hLP := fcs_fresh hP
  have hPσ := fcs_freshσ hP
  refine ⟨_, _, _, fcs_gt' hLP, by simp, ?_⟩
  refine (?_ : XS W _ _ _ (fcs _ L (fun _ => none) [some (.str tx), some (.ref P)]) _)
  refine XS_setl T ?_
  refine E_Call [] (kp := .machine) (E_gl T N.G ?_)
  refine EL_cons (E_none (EL_nil (EK_nil ⟨N.kp _, (make_C D N fun td tpb htd htb => ?_).call⟩)))
  have hL2 : L + 2 < P := hLP
  have hPtd : P < td := by
    rcases Nat.lt_or_ge P td with q | q
    · exact q
    · have := htd P q
      rw [fcs_gt (show L + ([some (PV.str tx), some (PV.ref P)] : List (Option PV)).length < P from hL2), upd_same] at this; cases this
  have htdσ : Fresh σ td := fun b hb => hPσ b (Nat.le_trans (Nat.le_of_lt hPtd) hb)
  have hLn : ([some (.str tx), some (.ref P)] : List (Option PV)).length = 2 := rfl
  rw [fcs_gt' (by rw [hLn]; lia), fcs_gt' (by rw [hLn]; lia), fcs_gt' (by rw [hLn]; lia)]
  refine ⟨_, _, _, rfl, ?_⟩
  generalize hτ : (((σ.upd P (.list [.int 0])).upd td (.part (td + 1))).upd (td + 1) (.inst N.C td (lexG .none tpb 1) 4)).upd tpb (.list []) = τ
  have τL : ∀ b : Nat, L ≤ b → b < P → τ b = none := fun b h1 h2 => by
    subst hτ
    rw [upd_ne (show b ≠ tpb by lia), upd_ne (show b ≠ td + 1 by lia), upd_ne (show b ≠ td by lia), upd_ne (show b ≠ P by exact Nat.ne_of_lt (by assumption))]
    exact hL b h1
  refine XS_cons (X_Def (q₀ := ("text", L + 1)) (cr := [("place", L + 1 + 1)]) (cs := [("text", .str tx), ("place", .ref P)]) T O.tab rfl rfl rfl rfl rfl rfl O.pos (by rw [O.q]; rfl) rfl ?_ ?_)
  · exact ⟨_, _, rfl, fcs_c (i := 0) rfl, _, _, rfl, fcs_c (i := 1) rfl, rfl⟩
  rw [show (List.map (fun x => x.2) [((Str.ofString "text", L + 1) : Str × Addr), (Str.ofString "place", L + 1 + 1)]) = [L + 1, L + 1 + 1] from rfl, fcs_dels (τL _ (by lia) (by lia)) (τL _ (by lia) (by assumption)), O.q]
  refine S_l T ?_
  refine XS_cons (X_AssignAttr (E_l (E_l ?_)))
  have hLt : L + ([] : List (Option PV)).length = L := rfl
  have hτt : τ (td + 1) = some (.inst N.C td (lexG .none tpb 1) 4) := by
    subst hτ
    rw [upd_ne (show td + 1 ≠ tpb by exact Nat.ne_of_lt (by assumption)), upd_same]
  refine SA_inst T N.X (N.no _ (by simp)) ((fcs_gt (by rw [hLt]; lia)).trans hτt) (by decide) 5 (.inl rfl) ?_
  rw [fcs_gt' (by rw [hLt]; lia)]
  refine XS_ret ?_
  refine E_Call [] (kp := .machine) (E_gl T N.G ?_)
  refine EL_cons (E_l (EL_nil (EK_nil ⟨N.kp _, (make_C D N fun d pb hd hpb => ?_).call⟩)))
  have hdt : tpb < d := by
    rcases Nat.lt_or_ge tpb d with q | q
    · exact q
    · have := hd tpb q
      rw [fcs_gt (by rw [hLt]; lia), upd_ne (show tpb ≠ td + 1 by exact Nat.ne_of_gt (by assumption))] at this
      subst hτ
      rw [upd_same] at this; cases this
  rw [fcs_gt' (by rw [hLt]; lia), fcs_gt' (by rw [hLt]; lia), fcs_gt' (by rw [hLt]; lia)]
  refine ⟨_, _, _, rfl, fun (b : Nat) (h1 : L ≤ b) (h2 : b ≤ L + 0) => ?_, ?_⟩
  · rw [upd_ne (show b ≠ pb by lia), upd_ne (show b ≠ d + 1 by lia), upd_ne (show b ≠ d by lia), upd_ne (show b ≠ td + 1 by lia)]
    exact τL b h1 (by lia)
  · have := h ⟨d + 1, d, pb, td + 1, td, P⟩ tpb hPσ hPtd rfl htb hdt rfl hpb
    unfold lxs lexBase at this
    dsimp only at this
    rw [upd_comm (show d ≠ P by lia), upd_comm (show tpb ≠ P by lia), upd_comm (show td + 1 ≠ P by lia), upd_comm (show td ≠ P by exact Nat.ne_of_gt (by assumption)), upd_comm (show pb ≠ d + 1 by exact Nat.ne_of_gt (by assumption))] at this
    subst hτ
    rw [upd_comm (show tpb ≠ td + 1 by exact Nat.ne_of_gt (by assumption)), upd_upd]
    exact this
end
end Mine
end
section
set_option tactic.hygienic false
set_option hygiene false
set_option maxRecDepth 100000
namespace Mine
structure FnD (W : Wd) (a : Addr) (q : Str) (st : Stmt) (items : Array Value) : Prop where
  fn : ∃ T doc pm an cd ct, FnAt W a (fnX (nameOf st) q (paramsOf st) (bodyOf st) (scopeOf st) [] (.ref T) .none doc pm an cd ct) (bodyOf st) ∧ ∃ o n, W.h₁.get? T = some o ∧ o.cls ≠ .none ∧ o.data = .seq items n
structure MethD (W : Wd) (C : Addr) (name : Str) (a : Addr) (q : Str) (st : Stmt) (items : Array Value) : Prop where
  find : findIn W.K (.ref C) name = some (some (.ref a))
  ty : typeIn W.K (.ref a) = some (.type "function")
  fn : FnD W a q st items
noncomputable def nameCode : Array Nat := #[14, 10, 4, 1, 1, 22, 0, 31, 16, 127, 0, 13, 7, 22, 0, 31, 16, 127, 0, 1]
noncomputable def valueCode : Array Nat := #[14, 14, 4, 1, 1, 9, 4294966783, 0, 0, 2147483648, 0, 0, 0, 0, 0, 13, 11, 9, 4294966783, 0, 0, 2147483648, 0, 0, 0, 0, 0, 1]
structure HdrCls (W : Wd) where
  C : Addr
  G : W.mg "Headers" = some (.ref C)
  X : ClsIs W C
  kp : ∀ σ, KP W .machine (.ref C) σ
  no : findIn W.K (.ref C) "_headers" = some none
  ini : Addr
  iniM : MethD W C "__init__" ini "Headers.__init__" (methAt 17 0) #[.none]
  cv : Addr
  cvM : MethIs W C "_convert_string_type" cv "Headers._convert_string_type" (methAt 17 1)
  ga : Addr
  gaM : MethIs W C "get_all" ga "Headers.get_all" (methAt 17 7)
  ah : Addr
  ahM : MethIs W C "add_header" ah "Headers.add_header" (methAt 17 16)
  nm : Addr
  nmG : W.mg "_name_disallowed_re" = some (.ref nm)
  nmP : PatF W nm nameCode
  vl : Addr
  vlG : W.mg "_value_disallowed_re" = some (.ref vl)
  vlP : PatF W vl valueCode
  sys : sysModules < W.h₁.objs.size
noncomputable def okN (x : List Nat) : Prop := ∀ c ∈ x, 32 ≤ c ∧ c ≠ 127
noncomputable def okV (x : List Nat) : Prop := ∀ c ∈ x, (32 ≤ c ∨ c = 9) ∧ c ≠ 127
structure HdrA where
  (a d l : Nat)
noncomputable def hdF (l : Addr) : Str → Option PV := fset (fun _ => none) "_headers" (.ref l)
noncomputable def ents (es : List (List Nat × List Nat)) : List PV := es.map fun e => .tup [.str e.1, .str e.2]
noncomputable def hds (H : HdrA) (es : List (List Nat × List Nat)) (σ : Sig) : Sig := σ.upd H.l (.list (ents es))
structure HdrOK (C : Addr) (H : HdrA) (σ : Sig) : Prop where
  at_ : σ H.a = some (.inst C H.d (hdF H.l) 1)
  al : H.a ≠ H.l
section
variable {W : Wd} {k : Nat} {σ : Sig} {env : Env} {P : FM → Prop} {x y : List Nat}
theorem Sbs.tup {l : List PV} : Sbs W (.tup l) σ := fun s S v hpat => by obtain ⟨a, vs, n, e, f, r⟩ := hpat; exact ⟨"tuple", _, slot_tuple_getitem.lookup, e ▸ ⟨_, f.2.1, rfl⟩⟩
theorem get_tup {l : List PV} {i : Int} {p : PV} {K : PV → Sig → Prop} (h0 : 0 ≤ i) (h1 : i < 2 ^ 63) (hp : l[i.toNat]? = some p) (h : K p σ) : O2 W k VRel getItem (.tup l) (.int i) σ K := fun va vb => .id h fun A hA s hs hpat Q q => by
  obtain ⟨hP, hi⟩ := hpat
  obtain ⟨a, vs, n, rfl, f, r⟩ := hP
  obtain ⟨t, rfl⟩ := hi
  obtain ⟨v, hv, rv⟩ := vrels_at r hp
  have hl := r.length
  rw [Array.length_toList] at hl
  have hlt : i.toNat < l.length := by
    rcases Nat.lt_or_ge i.toNat l.length with q | q
    · exact q
    · rw [List.getElem?_eq_none q] at hp; cases hp
  refine PyProof.Rows.getItem_tuple (t := a) (j := i.toNat) ⟨_, f.2.1, rfl, n, rfl⟩ (by lia) h1 ?_ hv (q _ _ rfl rfl rfl rv)
  unfold seqIndex?
  rw [hl]
  simp [h0]
  lia
theorem cv_C (D : L1 W) (N : HdrCls W) {a : Addr} {b : Bool} {K : PV → Sig → Prop} (hx : if b = true then okN x else okV x) (hz : x.length ≤ 1000000) (h : K (.str x) σ) : CC W (k + 1) (.ref N.cv) [.ref a, .str x] ["name"] [.bool b] σ K := by
  obtain ⟨doc, pm, an, cd, ct, f1⟩ := N.cvM.fn.fn
  have T := D.T
  refine CC_fcs T f1 [("self", .ref a, none), ("value", .str x, none), ("name", .bool b, none)] 0 (fun vs ws A hA s hs hpat => ?_) rfl ⟨rfl, rfl, rfl, trivial⟩ (by rfl) rfl fun (L : Nat) hL => ?_
  · obtain ⟨⟨v, r, e1, h1, w, r', e3, h2, e2⟩, u, r'', e4, h3, e5⟩ := hpat
    subst e1 e3 e4
    obtain rfl : r' = [] := e2
    obtain rfl : r'' = [] := e5
    rw [show bindArgs (fnX (nameOf (methAt 17 1)) "Headers._convert_string_type" (paramsOf (methAt 17 1)) (bodyOf (methAt 17 1)) (scopeOf (methAt 17 1)) [] .none .none doc pm an cd ct) ⟨[v, w], (["name"] : List Str).zip [u]⟩ = (Pure.pure [(("self" : Str), v), ("value", w), ("name", u)] : Sem (List (Str × Value))) by rfl]
    exact wpAny_pure ⟨[("self", .ref a), ("value", .str x), ("name", .bool b)], σ, hs, FLe.refl _, ⟨v, _, rfl, h1, w, _, rfl, h2, u, [], rfl, h3, rfl⟩, rfl, rfl⟩
  have ret : ∀ m, K (.str x) (res L (fcs σ L m [])) := fun m => by rw [fcs_res hL]; exact h
  refine XS_if (T_Compare (E_Call [] (kp := .machine) (E_tn T D.B (n := "type") (by simp) ?_)))
  refine EL_cons (E_l ?_)
  refine EL_nil (EK_nil ⟨KP_typ, C_type_str ?_⟩)
  refine E_tn T D.B (n := "str") (by simp) (is_tt (truthy_bool ?_))
  refine XS_setl T (E_IfExp (T_val (E_l (truthy_bool ?_))))
  cases b with
  | true =>
    refine E_gl T N.nmG ⟨_, _, _, rfl, ?_⟩
    refine XS_if (T_val (E_Meth [] (kp := .machine) (E_l (GM_pat N.nmP ?_))))
    refine EL_cons (E_l ?_)
    refine EL_nil (EK_nil ⟨KP_blt, C_search N.nmP hz (fun c hc seen => set_name (hx c hc).1 (hx c hc).2 seen) (truthy_none ?_)⟩)
    exact XS_nil (XS_ret (E_l (ret _)))
  | false =>
    refine E_gl T N.vlG ⟨_, _, _, rfl, ?_⟩
    refine XS_if (T_val (E_Meth [] (kp := .machine) (E_l (GM_pat N.vlP ?_))))
    refine EL_cons (E_l ?_)
    refine EL_nil (EK_nil ⟨KP_blt, C_search N.vlP hz (fun c hc seen => set_value (hx c hc).1 (hx c hc).2 seen) (truthy_none ?_)⟩)
    exact XS_nil (XS_ret (E_l (ret _)))
theorem E_cv (D : L1 W) (N : HdrCls W) {o e₁ e₂ : Expr} {apos pos kpos : Pos} {H : HdrA} {K : PV → Sig → Prop}
    (h : E W (k + 1) env o σ fun q σ₁ => q = .ref H.a ∧ HdrOK N.C H σ₁ ∧ E W (k + 1) env e₁ σ₁ fun p σ₂ => E W (k + 1) env e₂ σ₂ fun b σ₃ => ∃ x b', p = .str x ∧ b = .bool b' ∧ (if b' = true then okN x else okV x) ∧ x.length ≤ 1000000 ∧ K (.str x) σ₃)
    (hb : ∀ whole, attributeBase o "_convert_string_type" env whole = whole := by intro _; rfl)
    (hf : methodCallForm 2 (backTo pos (starEach [e₁] env)) (backToKw pos (keywordEach [⟨some "name", e₂, kpos⟩] env)) = true := by rfl) (hl : (apos.endLine == pos.line) = true := by rfl)
    (he : starEach [e₁] env = [(false, eval e₁ env)] := by rfl) : E W (k + 1) env (.Call (.Attribute o "_convert_string_type" apos) [e₁] [⟨some "name", e₂, kpos⟩] pos) σ K := by
  refine E_Meth ["name"] (kp := .frame) ?_ (.inl rfl) hb hf hl ?_
  · refine h.imp fun q σ₁ ⟨e, O, h2⟩ => ?_
    subst e
    refine GM_inst D.T N.X N.cvM.find N.cvM.ty O.at_ rfl ?_
    refine EL_cons (h2.imp fun p σ₂ h3 => ?_) he
    refine EL_nil (EK_cons (h3.imp fun b σ₃ ⟨x, b', e1, e2, e3, e4, e5⟩ => EK_nil ⟨N.cvM.kp, ?_⟩))
    subst e1 e2
    exact (cv_C D N e3 e4 e5).call
  · unfold backTo; rw [he]; rfl
end
end Mine
end
section
set_option tactic.hygienic false
set_option hygiene false
set_option maxRecDepth 100000
namespace Mine
section
variable {W : Wd} {k : Nat} {σ : Sig} {env : Env} {P : FM → Prop} {x y : List Nat}
theorem hini_C (D : L1 W) (N : HdrCls W) {d a : Nat} {K : PV → Sig → Prop} (hσd : σ a = some (.inst N.C d (fun _ => none) 0))
    (h : ∀ l : Nat, a < l → Fresh σ l → K .none ((σ.upd a (.inst N.C d (hdF l) 1)).upd l (.list []))) : CC W (k + 1) (.ref N.ini) [.ref a] [] [] σ K := by
  obtain ⟨Tt, doc, pm, an, cd, ct, f1, ot, nt, ht1, ht2, ht3⟩ := N.iniM.fn.fn
  have T := D.T
  refine CC_fcsS T f1 [("self", .ref a, none), ("headers", .none, none)] 0 (fun vs ws A hA s hs hpat => ?_) rfl ⟨rfl, rfl, trivial⟩ (by rfl) rfl fun (L : Nat) hL => ?_
  · obtain ⟨⟨v, r, e1, h1, e2⟩, e3⟩ := hpat
    subst e1
    obtain rfl : r = [] := e2
    have hB : BindsTo s (fnX (nameOf (methAt 17 0)) "Headers.__init__" (paramsOf (methAt 17 0)) (bodyOf (methAt 17 0)) (scopeOf (methAt 17 0)) [] (.ref Tt) .none doc pm an cd ct) ⟨[v], ([] : List Str).zip ws⟩ [("self", v), ("headers", .none)] :=
      BindsTo.of_defaults rfl (hs.base ht1 ht2).2.1 ht3 rfl rfl
    refine hB _ _ _ _ ?_
    exact ⟨[("self", .ref a), ("headers", .none)], σ, hs, FLe.refl _, ⟨v, _, rfl, h1, .none, [], rfl, (Eq.refl _ : Value.none = Value.none), rfl⟩, rfl, rfl⟩
  have haL : a < L := by
    rcases Nat.lt_or_ge a L with q | q
    · exact q
    · have := hL a q; rw [hσd] at this; cases this
  refine XS_setl T (E_IfExp (T_Compare (E_l (E_none (isnot_none_none (truthy_bool ?_))))))
  refine E_ListM (EL_nil ⟨by simp, fun (l : Nat) hl => ?_⟩)
  have hLl : L < l := fcs_fresh hl
  refine ⟨_, _, _, fcs_gt' hLl, ?_⟩
  have hσl : ∀ {m : Str → Option PV}, fcs (σ.upd l (.list [])) L m [] l = some (.list []) := fun {m} => (fcs_gt hLl).trans (upd_same _ _ _)
  refine XS_if (T_Compare (E_Call [] (kp := .machine) (E_tn T D.B (n := "type") (by simp) ?_)))
  refine EL_cons (E_l ?_)
  refine EL_nil (EK_nil ⟨KP_typ, C_type_list hσl ?_⟩)
  refine E_tn T D.B (n := "list") (by simp) (isnot_tt (truthy_bool ?_))
  refine XS_nil ?_
  refine XS_cons (X_AssignAttr (E_l (E_l ?_)))
  have hal : a ≠ l := Nat.ne_of_lt (Nat.lt_trans haL hLl)
  refine SA_inst T N.X N.no ((fcs_lt haL).trans ((upd_ne hal).trans hσd)) (by decide) 1 (.inl rfl) ?_
  rw [fcs_lt' haL, upd_comm hal.symm]
  refine XS_if (T_val (E_bool (truthy_bool ?_)))
  refine XS_cons (X_For (q₀ := .ref l) T [] (fun σ => σ l = some (.list [])) (fun _ σ' => σ' = fcs ((σ.upd a (.inst N.C d (hdF l) 1)).upd l (.list [])) L (fset (bm' (fun _ => none) [(("self" : Str), PV.ref a, none), ("headers", .none, none)]) "headers" (.ref l)) []) ?_ ?_ ?_ ?_)
  · exact E_l ⟨rfl, Itbl.ref, rfl⟩
  · rintro _ _ rfl
    exact (fcs_gt hLl).trans (upd_same _ _ _)
  · intro i p σ' hp; simp at hp
  · rintro _ rfl
    refine XS_nil (XS_nil (XS_nil ⟨_, _, _, rfl, fun (c : Nat) (h1 : L ≤ c) (h2 : c ≤ L + 0) => ?_, ?_⟩))
    · rw [upd_ne (show c ≠ l by lia), upd_ne (show c ≠ a by lia)]
      exact hL c h1
    · exact h l (Nat.lt_trans haL hLl) fun c hc => hL c (Nat.le_trans (Nat.le_of_lt hLl) hc)
theorem hmake_C (D : L1 W) (N : HdrCls W) {K : PV → Sig → Prop} (h : ∀ d l : Nat, Fresh σ d → d + 1 < l → K (.ref (d + 1)) (hds ⟨d + 1, d, l⟩ [] ((σ.upd d (.part (d + 1))).upd (d + 1) (.inst N.C d (hdF l) 1)))) : CC W (k + 2) (.ref N.C) [] [] [] σ K := by
  refine CC_make D.T N.X N.iniM.find N.iniM.ty fun d hd => ?_
  refine hini_C D N (upd_same _ _ _) fun l hl _ => ⟨rfl, ?_⟩
  rw [upd_upd]
  exact h d l hd hl
theorem ents_app (es : List (List Nat × List Nat)) (e : List Nat × List Nat) : ents es ++ [.tup [.str e.1, .str e.2]] = ents (es ++ [e]) := by unfold ents; simp
theorem ah_C (D : L1 W) (N : HdrCls W) {H : HdrA} {es : List (List Nat × List Nat)} {K : PV → Sig → Prop} (O : HdrOK N.C H σ) (hx : okN x) (hy : okV y) (hzx : x.length ≤ 1000000) (hzy : y.length ≤ 1000000) (hz : es.length ≤ 100000)
    (h : K .none (hds H (es ++ [(x, y)]) σ)) : CC W (k + 2) (.ref N.ah) [.ref H.a, .str x, .str y] [] [] (hds H es σ) K := by
  obtain ⟨doc, pm, an, cd, ct, f1⟩ := N.ahM.fn.fn
  have T := D.T
  have hal := O.al
  refine CC_fcs T f1 [("self", .ref H.a, none), ("_name", .str x, none), ("_value", .str y, none), ("_params", .dct (fun _ => 0) [], none)] 0 (fun vs ws => ?_) rfl ⟨rfl, rfl, rfl, rfl, trivial⟩ (by rfl) rfl fun (L : Nat) hL => ?_
  · refine .grow (b := [(("self" : Str), PV.ref H.a), ("_name", .str x), ("_value", .str y), ("_params", .dct (fun _ => 0) [])]) T ⟨rfl, rfl⟩ fun A hA s hs hpat Q q => ?_
    obtain ⟨⟨v, r, e1, h1, w, r', e3, h2, u, r'', e4, h3, e5⟩, e6⟩ := hpat
    subst e1 e3 e4
    obtain rfl : r'' = [] := e5
    rw [show bindArgs (fnX (nameOf (methAt 17 16)) "Headers.add_header" (paramsOf (methAt 17 16)) (bodyOf (methAt 17 16)) (scopeOf (methAt 17 16)) [] .none .none doc pm an cd ct) ⟨[v, w, u], ([] : List Str).zip ws⟩ = (alloc { cls := .type "dict", data := .dict #[] } >>= fun d => Pure.pure [(("self" : Str), v), ("_name", w), ("_value", u), ("_params", .ref d)] : Sem (List (Str × Value))) by rfl]
    refine wpAny_bind (wpAny_alloc (wpAny_pure (q _ _ _ sle_push ?_)))
    have hk : FLe (Fz (hds H es σ) s.heap) (Fz (hds H es σ) (s.heap.push { cls := .type "dict", data := .dict #[] })) := fle_grow sle_push
    refine ⟨v, _, rfl, h1.mono hk, w, _, rfl, h2.mono hk, u, _, rfl, h3.mono hk, _, [], rfl, ⟨_, #[], 0, rfl, fz_new hs (by intro z; cases z), ?_, rfl⟩, rfl⟩
    show decide (s.heap.objs.size = sysModules) = false
    exact decide_eq_false (Nat.ne_of_gt (Nat.lt_of_lt_of_le N.sys hs.sz))
  have hb : H.a < L ∧ H.l < L := by
    have key : ∀ b o, hds H es σ b = some o → b < L := fun b o e => by
      rcases Nat.lt_or_ge b L with q | q
      · exact q
      · have := hL b q; rw [e] at this; cases this
    exact ⟨key _ _ ((upd_ne hal).trans O.at_), key _ _ (upd_same _ _ _)⟩
  have hOL : ∀ {τ m cs}, HdrOK N.C H τ → HdrOK N.C H (fcs τ L m cs) := fun {τ m cs} O => ⟨(fcs_lt hb.1).trans O.at_, O.al⟩
  have hOh : HdrOK N.C H (hds H es σ) := ⟨(upd_ne hal).trans O.at_, hal⟩
  refine XS_setl T (E_ListM (EL_nil ⟨by simp, fun (pl : Nat) hpl => ?_⟩))
  have hLp : L < pl := fcs_fresh hpl
  have hOp : ∀ {l}, HdrOK N.C H ((hds H es σ).upd pl l) := fun {l} => ⟨(upd_ne (Nat.ne_of_lt (Nat.lt_trans hb.1 hLp))).trans hOh.at_, hal⟩
  refine ⟨_, _, _, fcs_gt' hLp, ?_⟩
  refine XS_if (T_Compare (E_l (E_none (isnot_none_str (truthy_bool ?_)))))
  refine XS_setl T (E_cv (k := k) D N (E_l ⟨rfl, hOL hOp, E_l (E_bool ⟨y, false, rfl, rfl, hy, hzy, _, _, _, rfl, ?_⟩)⟩))
  refine XS_expr (E_Meth [] (kp := .machine) (E_l (GM_ref ((fcs_gt hLp).trans (upd_same _ _ _)) PySem.F.slot_list_append PySem.F.type_list_append ?_)))
  refine EL_cons (E_l ?_)
  refine EL_nil (EK_nil ⟨KP_blt, C_append T ((fcs_gt hLp).trans (upd_same _ _ _)) (by simp) ?_⟩)
  rw [fcs_gt' hLp, upd_upd]
  refine ⟨rfl, XS_nil ?_⟩
  generalize hm : (fset (fset (bm' (fun _ => none) [(("self" : Str), PV.ref H.a, none), ("_name", .str x, none), ("_value", .str y, none), ("_params", .dct (fun _ => 0) [], none)]) "parts" (PV.ref pl)) "_value" (.str y)) = m
  refine XS_cons (X_For (q₀ := .dit (fun _ => 0) []) T [] (fun _ => True) (fun _ σ' => σ' = fcs ((hds H es σ).upd pl (.list ([] ++ [PV.str y]))) L m []) ?_ (fun _ _ _ => trivial) ?_ ?_)
  · subst hm
    refine E_Meth [] (kp := .machine) (E_l (GM_dct ?_))
    exact EL_nil (EK_nil ⟨KP_blt, C_items0 T ⟨rfl, Itbl.dit0, rfl⟩⟩)
  · intro i p σ' hp; simp at hp
  rintro _ rfl
  refine XS_nil ?_
  subst hm
  refine XS_expr (E_Meth [] (kp := .machine) (E_Attr (E_l ?_)))
  refine OA_inst T N.X N.no (hOL hOp).at_ rfl (by intro n z; cases z) ?_
  have hlp : H.l ≠ pl := Nat.ne_of_lt (Nat.lt_trans hb.2 hLp)
  have hgl : ∀ {m}, fcs ((hds H es σ).upd pl (.list ([] ++ [PV.str y]))) L m [] H.l = some (.list (ents es)) := fun {m} => (fcs_lt hb.2).trans ((upd_ne hlp).trans (upd_same _ _ _))
  refine GM_ref hgl PySem.F.slot_list_append PySem.F.type_list_append ?_
  refine EL_cons (E_Tuple ?_)
  refine EL_cons (E_cv (k := k) D N (E_l ⟨rfl, hOL hOp, E_l (E_bool ⟨x, true, rfl, rfl, hx, hzx, ?_⟩)⟩))
  refine EL_cons (E_Meth [] (kp := .machine) (E_strL [59, 32] (GM_str PySem.F.slot_str_join PySem.F.type_str_join ?_)))
  refine EL_cons (E_l ?_)
  refine EL_nil (EK_nil ⟨KP_blt, C_joinL (l := [y]) (.inr ⟨pl, rfl, (fcs_gt hLp).trans (upd_same _ _ _)⟩) (by unfold lens; simp; exact Nat.le_trans (by assumption) (by decide)) ?_⟩)
  refine EL_nil ⟨by simp, EL_nil (EK_nil ⟨KP_blt, C_append T hgl (by unfold ents; rw [List.length_map]; exact Nat.le_trans (by assumption) (by decide)) ?_⟩)⟩
  rw [fcs_lt' hb.2, upd_comm hlp.symm]
  refine ⟨rfl, XS_nil ?_⟩
  show K _ _
  rw [fcs_resr, res_upd_ge (Nat.le_of_lt hLp)]
  unfold hds
  rw [upd_upd, res_upd_lt hb.2]
  have hf : Fresh σ L := fun b hb' => by
    have := hL b hb'
    unfold hds at this
    rwa [upd_ne (Nat.ne_of_gt (Nat.lt_of_lt_of_le hb.2 hb'))] at this
  rw [res_fresh hf]
  unfold hds at h
  rw [← ents_app] at h
  exact h
end
end Mine
end
section
set_option tactic.hygienic false
set_option hygiene false
set_option maxRecDepth 100000
namespace Mine
noncomputable def getL (es : List (List Nat × List Nat)) (n : List Nat) : List (List Nat) := (es.filter fun e => decide (lowerL e.1 = n)).map (·.2)
noncomputable def kG (n : List Nat) : PV → Bool
  | .tup [.str a, .str _] => decide (lowerL a = n)
  | _ => false
noncomputable def vG : PV → PV
  | .tup [_, .str b] => .str b
  | p => p
theorem ents_getL (es : List (List Nat × List Nat)) (n : List Nat) : ((ents es).filter (kG n)).map vG = stsL (getL es n) := by
  unfold getL ents stsL
  induction es with
  | nil => rfl
  | cons e es ih =>
    rw [List.map_cons, List.filter_cons, List.filter_cons]
    show List.map vG (if decide (lowerL e.1 = n) = true then _ else _) = _
    by_cases h : lowerL e.1 = n
    · rw [if_pos (decide_eq_true h), if_pos (decide_eq_true h), List.map_cons, List.map_cons, List.map_cons, ih]; rfl
    · rw [if_neg (by simp [h]), if_neg (by simp [h]), ih]
section
variable {W : Wd} {k : Nat} {σ : Sig} {env : Env} {P : FM → Prop} {x y : List Nat}
theorem ga_C (D : L1 W) (N : HdrCls W) {H : HdrA} {es : List (List Nat × List Nat)} {K : PV → Sig → Prop} (O : HdrOK N.C H σ) (hx : okN (lowerL x)) (hzx : x.length ≤ 1000000) (hzx' : (lowerL x).length ≤ 1000000) (hz : es.length ≤ 100000) (he : ∀ e ∈ es, e.1.length ≤ 1000000)
    (h : K (.lst (stsL (getL es (lowerL x)))) (hds H es σ)) : CC W (k + 2) (.ref N.ga) [.ref H.a, .str x] [] [] (hds H es σ) K := by
  obtain ⟨doc, pm, an, cd, ct, f1⟩ := N.gaM.fn.fn
  have T := D.T
  have hal := O.al
  refine CC_fcs T f1 [("self", .ref H.a, none), ("name", .str x, some 0)] 1 (bind2 (n := "self") (m := "name") (fun v w => by rfl) ⟨rfl, rfl⟩) rfl ⟨rfl, ⟨rfl, fun L => rfl⟩, trivial⟩ (by rfl) rfl fun (L : Nat) hL => ?_
  have hb : H.a < L ∧ H.l < L := by
    have key : ∀ b o, hds H es σ b = some o → b < L := fun b o e => by
      rcases Nat.lt_or_ge b L with q | q
      · exact q
      · have := hL b q; rw [e] at this; cases this
    exact ⟨key _ _ ((upd_ne hal).trans O.at_), key _ _ (upd_same _ _ _)⟩
  have hOL : ∀ {m cs}, HdrOK N.C H (fcs (hds H es σ) L m cs) := fun {m cs} => ⟨(fcs_lt hb.1).trans ((upd_ne hal).trans O.at_), O.al⟩
  have hgl : ∀ {m cs}, fcs (hds H es σ) L m cs H.l = some (.list (ents es)) := fun {m cs} => (fcs_lt hb.2).trans (upd_same _ _ _)
  refine XS_setc T 0 (E_cv (k := k) D N (E_l ⟨rfl, hOL, ?_⟩))
  refine E_Meth [] (kp := .machine) (E_c 0 (GM_str PySem.F.slot_str_lower PySem.F.type_str_lower ?_))
  refine EL_nil (EK_nil ⟨KP_blt, C_lower (by exact Nat.le_trans (by assumption) (by decide)) ?_⟩)
  refine E_bool ⟨_, true, rfl, rfl, hx, hzx', _, _, _, rfl, by simp [bc'], ?_⟩
  refine XS_ret (E_Makes T (ents es) (fun σ => σ H.l = some (.list (ents es))) (stsL (getL es (lowerL x))) ?_)
  refine E_Attr (E_l (OA_inst T N.X N.no hOL.at_ rfl (by intro n z; cases z) ?_))
  refine ⟨Itbl.ref, hgl, Makes1 T (kG (lowerL x)) vG (ents_getL _ _) (by unfold ents; rw [List.length_map]; exact Nat.le_trans (by assumption) (by decide)) (fun D' L' e1 e2 acc m => ins_old e1 e2 hgl) (fun D' L' e1 e2 => ⟨fun p hp acc m => ?_, fun p hp _ acc m => ?_⟩), ?_⟩
  · obtain ⟨e, hee, rfl⟩ := List.mem_map.mp hp
    refine CI_one (T_Compare (E_Meth [] (kp := .machine) ?_))
    refine E_Sub (E_m ?_ (fset_same _ _ _))
    refine E_int ⟨Sbs.tup, get_tup (by decide) (by decide) rfl ?_⟩
    refine GM_str PySem.F.slot_str_lower PySem.F.type_str_lower ?_
    refine EL_nil (EK_nil ⟨KP_blt, C_lower (by have := he e hee; exact Nat.le_trans (by assumption) (by decide)) ?_⟩)
    refine E_f 0 e1 e2 ?_
    exact eq_ss (truthy_bool ⟨rfl, rfl⟩)
  · obtain ⟨e, hee, rfl⟩ := List.mem_map.mp hp
    refine E_Sub (E_m ?_ (fset_same _ _ _))
    exact E_int ⟨Sbs.tup, get_tup (by decide) (by decide) rfl ⟨rfl, rfl⟩⟩
  · show K _ _
    rw [fcs_res hL]
    exact h
end
end Mine
end
section
set_option tactic.hygienic false
set_option hygiene false
set_option maxRecDepth 100000
namespace Mine
structure EE (W : Wd) (k : Nat) (env : Env) (e : Expr) (σ : Sig) (K : PV → Sig → Prop) : Prop where
  h : E W k env e σ K
theorem EE_Meth {W : Wd} {k : Nat} {env : Env} {σ : Sig} {o : Expr} {name : Str} {apos pos : Pos} {es : List Expr} {ks : List Keyword} {kp : Keeper} {K : PV → Sig → Prop} (kn : List Str)
    (h : E W k env o σ fun q σ₁ => GM W k name q σ₁ fun m σ₂ => EL W k env pos es σ₂ fun ps σ₃ => EK W k env pos ks σ₃ fun qs σ₄ => KP W kp m.1 σ₄ ∧ C W k m.1 (m.2 ++ ps) kn qs σ₄ K)
    (hkp : kp = .frame ∨ kp = .machine ∨ kp = .boundFrame := by first | exact .inl rfl | exact .inr (.inl rfl) | exact .inr (.inr rfl))
    (hb : ∀ whole, attributeBase o name env whole = whole := by intro _; rfl)
    (hf : methodCallForm (es.length + ks.length) (backTo pos (starEach es env)) (backToKw pos (keywordEach ks env)) = true := by rfl) (hl : (apos.endLine == pos.line) = true := by rfl)
    (h0 : (backTo pos (starEach es env)).any (·.1) = false := by rfl) (h2 : (backToKw pos (keywordEach ks env)).all (·.1.isSome) = true := by rfl)
    (hkn : (backToKw pos (keywordEach ks env)).filterMap (·.1) = kn := by rfl) : EE W k env (.Call (.Attribute o name apos) es ks pos) σ K := ⟨E_Meth kn h hkp hb hf hl h0 h2 hkn⟩
theorem EL_cons' {W : Wd} {k : Nat} {env : Env} {σ : Sig} {pos : Pos} {e : Expr} {rest : List Expr} {K : List PV → Sig → Prop} (he : starEach (e :: rest) env = (false, eval e env) :: starEach rest env) (h : E W k env e σ fun p σ₁ => EL W k env pos rest σ₁ fun ps σ₂ => K (p :: ps) σ₂) : EL W k env pos (e :: rest) σ K := EL_cons h he
theorem E_Sub' {W : Wd} {k : Nat} {env : Env} {σ : Sig} {value slice : Expr} {pos : Pos} {K : PV → Sig → Prop} (hs : ∀ o i, subscripted slice false o i = operate [o, i] (getItem o i)) (h : E W k env value σ fun q σ₁ => E W k env slice σ₁ fun i σ₂ => Sbs W q σ₂ ∧ O2 W k VRel getItem q i σ₂ K) : E W k env (.Subscript value slice pos) σ K := E_Sub h hs
theorem EL_int {W : Wd} {k : Nat} {env : Env} {σ : Sig} {pos : Pos} {i : Int} {n : Nat} {p : Pos} {rest : List Expr} {K : List PV → Sig → Prop} (h : EL W k env pos rest σ fun ps σ₂ => K (.int i :: ps) σ₂) : EL W k env pos (.Constant (.int i) n p :: rest) σ K := EL_cons (E_int h) rfl
noncomputable def formT : List Int := [0, 1, 2, 4, 7, 8, 9, 10, 11, 12]
noncomputable def b1T : List Int := [173, 847, 6150, 6155, 6156, 6157, 8203, 8204, 8205, 8288, 65279]
noncomputable def signT (c f : Nat) : List Nat :=
  if 97 ≤ c ∧ c < 123 ∧ f = 1 then upperL [c]
  else if 97 ≤ c ∧ c < 123 ∧ 1 < f then [(119711 + 52 * (formT.getD (f - 2) 0) + (c : Int)).toNat]
  else [c]
noncomputable def unsT (u : Nat) : List (List Nat) := if u < 11 then [[(b1T.getD u 0).toNat]] else if u < 27 then [[65013 + u]] else []
noncomputable def partT (w : List Nat) (n i : Nat) : List (List Nat) := signT (w.getD i 0) ((n + 5 * i) % 12) :: unsT ((n / 12 + 11 * i) % 54)
noncomputable def partsT (w : List Nat) (n k : Nat) : List (List Nat) := (List.range k).flatMap (partT w n)
noncomputable def typedL (w : List Nat) (n : Nat) : List Nat := (partsT w n w.length).flatten
theorem partsT_succ (w : List Nat) (n k : Nat) : partsT w n (k + 1) = partsT w n k ++ partT w n k := by
  unfold partsT
  rw [List.range_succ, List.flatMap_append]; simp
theorem upper_one : ∀ c : Fin 26, (upperL [97 + c.val]).length = 1 := by decide +kernel
theorem signT_len (c f : Nat) : (signT c f).length = 1 := by
  unfold signT
  split
  · rename_i h
    have := upper_one ⟨c - 97, by lia⟩
    rwa [show 97 + (c - 97) = c by lia] at this
  · split <;> rfl
theorem unsT_len (u : Nat) : (unsT u).length ≤ 1 ∧ ∀ x ∈ unsT u, x.length = 1 := by
  unfold unsT
  split
  · exact ⟨by simp, by simp⟩
  · split
    · exact ⟨by simp, by simp⟩
    · exact ⟨by simp, by simp⟩
theorem partsT_len (w : List Nat) (n : Nat) : ∀ k, (partsT w n k).length ≤ 2 * k ∧ (partsT w n k).flatten.length ≤ 2 * k
  | 0 => ⟨by simp [partsT], by simp [partsT]⟩
  | k + 1 => by
    obtain ⟨h1, h2⟩ := partsT_len w n k
    rw [partsT_succ, List.length_append, List.flatten_append, List.length_append]
    unfold partT
    rw [List.length_cons, List.flatten_cons, List.length_append, signT_len]
    obtain ⟨h3, h4⟩ := unsT_len ((n / 12 + 11 * k) % 54)
    have h5 : (unsT ((n / 12 + 11 * k) % 54)).flatten.length ≤ 1 := by
      generalize unsT ((n / 12 + 11 * k) % 54) = l at h3 h4
      match l with
      | [] => simp
      | [x] => simp [h4 x (by simp)]
      | x :: y :: r => simp at h3
    lia
theorem rng_small {a n : Nat} (h : a + n ≤ 1000000000) : Builtin.Range.small (a : Int) ((a + n : Nat) : Int) 1 = true := by
  unfold Builtin.Range.small
  have h1 : Builtin.Range.rangeSize (a : Int) ((a + n : Nat) : Int) 1 = n := by
    unfold Builtin.Range.rangeSize
    rw [if_pos (by decide)]
    split <;> lia
  have e : (2 : Int) ^ 63 = 9223372036854775808 := by decide
  have f : ∀ i : Int, -1000000000 ≤ i → i ≤ 2000000000 → Builtin.Range.rangeFitsLong i = true := fun i h1 h2 => by
    unfold Builtin.Range.rangeFitsLong
    rw [e, Bool.and_eq_true, decide_eq_true_eq, decide_eq_true_eq]; lia
  rw [h1, f _ (by lia) (by lia), f _ (by lia) (by lia), f 1 (by decide) (by decide), f _ (by lia) (by lia), if_pos (by decide), f _ (by lia) (by lia), Bool.or_true]
  rfl
theorem rng_size {a n : Nat} : Builtin.Range.rangeSize (a : Int) ((a + n : Nat) : Int) 1 = n := by
  unfold Builtin.Range.rangeSize
  rw [if_pos (by decide)]
  split <;> lia
section
variable {W : Wd} {k : Nat} {σ : Sig} {env : Env} {P : FM → Prop} {x y : List Nat}
theorem Itbl.rng0 {n : Nat} (h : n ≤ 1000000000) : Itbl W (.rng 0 (n : Int)) (inums 0 n) (fun _ => True) := by
  have h1 := rng_small (a := 0) (n := n) (by lia)
  have h2 := rng_size (a := 0) (n := n)
  rw [Nat.zero_add] at h1 h2
  exact Itbl.rng h1 n h2
theorem T_letter {c : Nat} {p1 p2 p3 p4 p5 p6 : Pos} {n1 n2 : Nat} {K : Bool → Sig → Prop} (ho : E W k env (.Name "ord" p3) σ fun p σ' => p = .blt "ord" ∧ σ' = σ) (hs : E W k env (.Name "sign" p1) σ fun p σ' => p = .str [c] ∧ σ' = σ) (h : K (decide (97 ≤ c ∧ c < 123)) σ) :
    T W k env (.Compare (.Constant (.int 97) n1 p2) [.LtE, .Lt] [.Call (.Name "ord" p3) [.Name "sign" p1] [] p4, .Constant (.int 123) n2 p5] p6) σ K := by
  refine T_chain (E_int (E_Call [] (kp := .machine) (ho.imp fun p σ₁ ⟨e1, e2⟩ => ?_)))
  subst e1 e2
  refine EL_cons (hs.imp fun p σ₁ ⟨e1, e2⟩ => ?_)
  subst e1 e2
  refine EL_nil (EK_nil ⟨KP_blt, C_ord (le_ii (truthy_bool ?_))⟩)
  by_cases h1 : 97 ≤ c
  · rw [decide_eq_true (show (97 : Int) ≤ (c : Int) by lia), if_pos rfl]
    refine E_int (lt_ii (truthy_bool ?_))
    by_cases h2 : c < 123
    · rw [decide_eq_true (show (c : Int) < 123 by exact z2 (by assumption) (by decide))]
      rwa [decide_eq_true ⟨h1, h2⟩] at h
    · rw [decide_eq_false (show ¬ (c : Int) < 123 by lia)]
      rwa [decide_eq_false (fun z => h2 z.2)] at h
  · rw [decide_eq_false (show ¬ (97 : Int) ≤ (c : Int) by lia), if_neg (by decide)]
    rwa [decide_eq_false (fun z => h1 z.1)] at h
set_option maxHeartbeats 4000000 in
theorem law_typed_C (D : L1 W) {a : Addr} {w : List Nat} {n : Nat} {K : PV → Sig → Prop} (F : Fn W a "_law_typed" (defAt 21)) (hw : w.length ≤ 1000) (hc : ∀ c ∈ w, c < 1000000) (h : K (.str (typedL w n)) σ) : CC W (k + 1) (.ref a) [.str w, .int n] [] [] σ K := by
  obtain ⟨doc, pm, an, cd, ct, f1⟩ := F.fn
  have T := D.T
  refine CC_fcs T f1 [("word", .str w, none), ("n", .int n, none)] 0 (bind2 (n := "word") (m := "n") (fun v w => by rfl) ⟨rfl, rfl⟩) rfl ⟨rfl, rfl, trivial⟩ (by rfl) rfl fun (L : Nat) hL => ?_
  refine XS_setl T (E_ListM (EL_nil ⟨by simp, fun (s : Nat) hs => ?_⟩))
  have hLs : L < s := fcs_fresh hs
  refine ⟨_, _, _, fcs_gt' hLs, ?_⟩
  refine XS_cons (X_For (q₀ := .rng 0 (w.length : Int)) T (inums 0 w.length) (fun _ => True) (fun i σ' => ∃ m, σ' = fcs (σ.upd s (.list (stsL (partsT w n i)))) L m [] ∧ m "word" = some (.str w) ∧ m "n" = some (.int n) ∧ m "signs" = some (.ref s) ∧ i ≤ w.length) ?_ (fun _ _ _ => trivial) ?_ ?_)
  · refine E_Call [] (kp := .machine) (E_tn T D.B (n := "range") (by simp) ?_)
    refine EL_cons (E_Call [] (kp := .machine) (E_bn T D.B (n := "len") (by simp) ?_))
    refine EL_cons (E_l ?_)
    refine EL_nil (EK_nil ⟨KP_blt, C_len_str (by exact Nat.le_trans (by assumption) (by decide)) ?_⟩)
    exact EL_nil (EK_nil ⟨KP_typ, C_range1 T ⟨rfl, Itbl.rng0 (by exact Nat.le_trans (by assumption) (by decide)), _, rfl, rfl, rfl, rfl, Nat.zero_le _⟩⟩)
  · rintro i p σ' hp ⟨m, rfl, hm1, hm2, hm3, hi⟩
    obtain ⟨hi', rfl⟩ := int_at hp
    rw [show (0 : Int) + (i : Nat) = ((i : Nat) : Int) by exact Int.zero_add _]
    refine AT_name (S_l T ?_)
    obtain ⟨c, hcw⟩ : ∃ c, w[i]? = some c := ⟨w[i], List.getElem?_eq_getElem hi'⟩
    have hc1 := hc c (List.mem_of_getElem? hcw)
    have hgd : w.getD i 0 = c := by rw [List.getD_eq_getElem?_getD, hcw]; rfl
    refine gen fun K₁ hK₁ => ?_
    refine XS_cons (X_AssignSwap T ["sign", "form"] (E_Tuple ?_))
    refine EL_cons (E_Sub (E_l ?_ hm1))
    refine E_l ?_
    refine ⟨Sbs.str, get_str (by exact Int.natCast_nonneg _) (by lia) (by rw [Int.toNat_natCast]; exact hcw) ?_⟩
    refine EL_cons (E_BinOp (E_BinOp (E_l ?_ hm2)))
    refine E_BinOp (E_int (E_l ?_))
    refine mul_ii ?_
    refine add_ii (E_int (mod_ii (by decide) ?_))
    rw [show ((n : Int) + 5 * (i : Int)) % 12 = (((n + 5 * i) % 12 : Nat) : Int) by lia]
    refine EL_nil ⟨by simp, _, rfl, rfl, ?_⟩
    refine S_l T (S_l T ?_)
    generalize hf : (n + 5 * i) % 12 = f
    have hf12 : f < 12 := by lia
    have hu54 : (n / 12 + 11 * i) % 54 < 54 := by lia
    have hpart : partT w n i = signT c f :: unsT ((n / 12 + 11 * i) % 54) := by unfold partT; rw [hgd, hf]
    generalize hu : (n / 12 + 11 * i) % 54 = u at hpart hu54
    have hsg : ∀ {l : List PV} {m : Str → Option PV}, fcs (σ.upd s (.list l)) L m [] s = some (.list l) := fun {l m} => (fcs_gt hLs).trans (upd_same _ _ _)
    have hlen := (partsT_len w n i).1
    refine XS_cut (fun σ' => ∃ m, σ' = fcs (σ.upd s (.list (stsL (partsT w n i)))) L m [] ∧ m "word" = some (.str w) ∧ m "n" = some (.int n) ∧ m "signs" = some (.ref s) ∧ m "i" = some (.int (i : Int)) ∧ m "sign" = some (.str (signT c f))) (X_If (T_and (T_letter (c := c) (E_bn T D.B (n := "ord") (by simp) ⟨rfl, rfl⟩) (E_l ⟨rfl, rfl⟩) ?_))) ?_
    · have els : ∀ m : Str → Option PV, m "word" = some (.str w) → m "n" = some (.int n) → m "signs" = some (.ref s) → m "i" = some (.int (i : Int)) → m "sign" = some (.str [c]) → m "form" = some (.int (f : Int)) → ¬ (97 ≤ c ∧ c < 123 ∧ f = 1) → ¬ (97 ≤ c ∧ c < 123 ∧ 1 < f) →
          (AFlow.next = AFlow.next ∧ ∃ m', fcs (σ.upd s (.list (stsL (partsT w n i)))) L m [] = fcs (σ.upd s (.list (stsL (partsT w n i)))) L m' [] ∧ m' "word" = some (.str w) ∧ m' "n" = some (.int n) ∧ m' "signs" = some (.ref s) ∧ m' "i" = some (.int (i : Int)) ∧ m' "sign" = some (.str (signT c f))) := fun m h1 h2 h3 h4 h5 h6 h7 h8 =>
        ⟨rfl, m, rfl, h1, h2, h3, h4, h5.trans (by unfold signT; rw [if_neg h7, if_neg h8])⟩
      by_cases hl : 97 ≤ c ∧ c < 123
      · rw [decide_eq_true hl, if_pos rfl]
        refine T_Compare (E_l (E_int (eq_ii (truthy_bool ?_))))
        by_cases hf1 : f = 1
        · rw [decide_eq_true (show (f : Int) = 1 by lia), if_pos rfl]
          refine XS_setl T (E_Meth [] (kp := .machine) (E_l ?_))
          refine GM_str PySem.F.slot_str_upper PySem.F.type_str_upper ?_
          refine EL_nil (EK_nil ⟨KP_blt, C_upper (by simp) ⟨_, _, _, rfl, XS_nil ⟨rfl, _, rfl, hm1, hm2, hm3, rfl, ?_⟩⟩⟩)
          rw [fset_same]
          unfold signT
          rw [if_pos ⟨hl.1, hl.2, hf1⟩]
        · rw [decide_eq_false (show ¬ (f : Int) = 1 by lia), if_neg (by decide)]
          refine XS_if (T_and (T_letter (c := c) (E_bn T D.B (n := "ord") (by simp) ⟨rfl, rfl⟩) (E_l ⟨rfl, rfl⟩) ?_))
          rw [decide_eq_true hl, if_pos rfl]
          refine T_Compare (E_l (E_int (gt_ii (truthy_bool ?_))))
          by_cases hf2 : 1 < f
          · rw [decide_eq_true (show (f : Int) > 1 by lia)]
            refine XS_setl T (gen fun K₂ hK₂ => E_Call [] (kp := .machine) (E_bn T D.B (n := "chr") (by simp) ?_))
            refine (EL_cons' ?_ ?_ : EL _ _ _ _ _ _ _)
            · rfl
            refine (E_BinOp ?_ : E _ _ _ _ _ _)
            refine (E_BinOp ?_ : E _ _ _ _ _ _)
            refine (E_int ?_ : E _ _ _ _ _ _)
            refine (E_BinOp ?_ : E _ _ _ _ _ _)
            refine (E_int ?_ : E _ _ _ _ _ _)
            refine (E_Sub' ?_ ?_ : E _ _ _ _ _ _)
            · intro _ _; rfl
            refine (E_List ?_ : E _ _ _ _ _ _)
            iterate 10 refine (EL_int ?_ : EL _ _ _ _ _ _ _)
            refine EL_nil ⟨by decide, ?_⟩
            refine E_BinOp (E_l (E_int (sub_ii ?_)))
            have hfi : ((f : Int) - 2).toNat = f - 2 := by lia
            have hft : ∃ t : Int, formT[f - 2]? = some t ∧ 0 ≤ t ∧ t ≤ 12 := by
              have : ∀ j : Fin 10, ∃ t : Int, formT[j.val]? = some t ∧ 0 ≤ t ∧ t ≤ 12 := by decide
              exact this ⟨f - 2, by lia⟩
            obtain ⟨t, ht, ht0, ht1⟩ := hft
            refine ⟨Sbs.lst, get_lst (p := .int t) (by lia) (by lia) ?_ ?_⟩
            · rw [hfi]
              show (formT.map PV.int)[f - 2]? = _
              rw [List.getElem?_map, ht]; rfl
            refine mul_ii ?_ (.of_left (intBits_le_64 (by decide) (by decide)))
            refine add_ii ?_
            refine E_Call [] (kp := .machine) (E_bn T D.B (n := "ord") (by simp) ?_)
            refine EL_cons (E_l ?_)
            refine EL_nil (EK_nil ⟨KP_blt, C_ord (add_ii ?_)⟩)
            refine EL_nil (EK_nil ⟨KP_blt, C_chr (by lia) (by lia) ?_⟩)
            subst hK₂
            refine ⟨_, _, _, rfl, XS_nil (XS_nil ⟨rfl, _, rfl, hm1, hm2, hm3, rfl, ?_⟩)⟩
            rw [fset_same]
            unfold signT
            rw [if_neg (fun z => hf1 z.2.2), if_pos ⟨hl.1, hl.2, hf2⟩, List.getD_eq_getElem?_getD, ht]
            rfl
          · rw [decide_eq_false (show ¬ (f : Int) > 1 by lia)]
            exact XS_nil (XS_nil (els _ hm1 hm2 hm3 rfl rfl rfl (fun z => hf1 z.2.2) (fun z => hf2 z.2.2)))
      · rw [decide_eq_false hl, if_neg (by decide)]
        refine XS_if (T_and (T_letter (c := c) (E_bn T D.B (n := "ord") (by simp) ⟨rfl, rfl⟩) (E_l ⟨rfl, rfl⟩) ?_))
        rw [decide_eq_false hl, if_neg (by decide)]
        exact XS_nil (XS_nil (els _ hm1 hm2 hm3 rfl rfl rfl (fun z => hl ⟨z.1, z.2.1⟩) (fun z => hl ⟨z.1, z.2.1⟩)))
    · rintro _ ⟨m, rfl, h1, h2, h3, h4, h5⟩
      refine XS_expr (E_Meth [] (kp := .machine) (E_l ?_ h3))
      refine GM_ref hsg PySem.F.slot_list_append PySem.F.type_list_append ?_
      refine EL_cons (E_l ?_ h5)
      refine EL_nil (EK_nil ⟨KP_blt, C_append T hsg (by unfold stsL; rw [List.length_map]; lia) ?_⟩)
      rw [fcs_gt' hLs, upd_upd]
      refine ⟨rfl, ?_⟩
      refine XS_setl T (E_BinOp (E_BinOp (E_BinOp (E_l ?_ h2))))
      refine E_int (div_ii (by decide) (by decide) ?_)
      refine E_BinOp (E_int (E_l ?_ h4))
      refine mul_ii ?_
      refine add_ii (E_int (mod_ii (by decide) ?_))
      rw [show ((n : Int) / 12 + 11 * (i : Int)) % 54 = (u : Int) by lia]
      refine ⟨_, _, _, rfl, ?_⟩
      have fin : ∀ (X : List PV) (m : Str → Option PV), X = stsL (unsT u) → m "word" = some (.str w) → m "n" = some (.int n) → m "signs" = some (.ref s) → ∃ m', fcs (σ.upd s (.list (stsL (partsT w n i) ++ [PV.str (signT c f)] ++ X))) L m [] = fcs (σ.upd s (.list (stsL (partsT w n (i + 1))))) L m' [] ∧ m' "word" = some (.str w) ∧ m' "n" = some (.int n) ∧ m' "signs" = some (.ref s) ∧ i + 1 ≤ w.length := fun X m e h1 h2 h3 =>
        ⟨m, by rw [partsT_succ, hpart, e]; unfold stsL; simp, h1, h2, h3, hi'⟩
      have hz2 : (stsL (partsT w n i) ++ [PV.str (signT c f)]).length ≤ 1000000 := by unfold stsL; rw [List.length_append, List.length_map]; simp; lia
      refine XS_if (T_Compare (E_l (E_int (lt_ii (truthy_bool ?_)))))
      by_cases hu1 : u < 11
      · rw [decide_eq_true (show (u : Int) < 11 by exact z2 (by assumption) (by decide))]
        refine XS_expr (E_Meth [] (kp := .machine) (E_l ?_ h3))
        refine GM_ref hsg PySem.F.slot_list_append PySem.F.type_list_append ?_
        refine EL_cons (E_Call [] (kp := .machine) (E_bn T D.B (n := "chr") (by simp) ?_))
        refine (EL_cons' ?_ ?_ : EL _ _ _ _ _ _ _)
        · rfl
        refine (E_Sub' ?_ ?_ : E _ _ _ _ _ _)
        · intro _ _; rfl
        refine (E_List ?_ : E _ _ _ _ _ _)
        iterate 11 refine (EL_int ?_ : EL _ _ _ _ _ _ _)
        refine EL_nil ⟨by decide, ?_⟩
        have hbt : ∃ t : Int, b1T[u]? = some t ∧ 0 ≤ t ∧ t ≤ 65279 := by
          have : ∀ j : Fin 11, ∃ t : Int, b1T[j.val]? = some t ∧ 0 ≤ t ∧ t ≤ 65279 := by decide
          exact this ⟨u, hu1⟩
        obtain ⟨t, ht, ht0, ht1⟩ := hbt
        refine E_l ?_
        refine ⟨Sbs.lst, get_lst (p := .int t) (by exact Int.natCast_nonneg _) (by exact z2 (by assumption) (by decide)) ?_ ?_⟩
        · rw [Int.toNat_natCast]
          show (b1T.map PV.int)[u]? = _
          rw [List.getElem?_map, ht]; rfl
        refine EL_nil (EK_nil ⟨KP_blt, C_chr (by assumption) (by lia) ?_⟩)
        refine EL_nil (EK_nil ⟨KP_blt, C_append T hsg hz2 ?_⟩)
        rw [fcs_gt' hLs, upd_upd]
        refine ⟨rfl, XS_nil (XS_nil ?_)⟩
        subst hK₁
        refine fin _ _ ?_ h1 h2 h3
        unfold unsT
        rw [if_pos hu1, List.getD_eq_getElem?_getD, ht]
        rfl
      · rw [decide_eq_false (show ¬ (u : Int) < 11 by lia)]
        refine XS_if (T_Compare (E_l (E_int (lt_ii (truthy_bool ?_)))))
        by_cases hu2 : u < 27
        · rw [decide_eq_true (show (u : Int) < 27 by exact z2 (by assumption) (by decide))]
          refine XS_expr (E_Meth [] (kp := .machine) (E_l ?_ h3))
          refine GM_ref hsg PySem.F.slot_list_append PySem.F.type_list_append ?_
          refine EL_cons (E_Call [] (kp := .machine) (E_bn T D.B (n := "chr") (by simp) ?_))
          refine EL_cons (E_BinOp (E_int (E_l (add_ii ?_))))
          refine EL_nil (EK_nil ⟨KP_blt, C_chr (by lia) (by lia) ?_⟩)
          refine EL_nil (EK_nil ⟨KP_blt, C_append T hsg hz2 ?_⟩)
          rw [fcs_gt' hLs, upd_upd]
          refine ⟨rfl, XS_nil (XS_nil (XS_nil ?_))⟩
          subst hK₁
          refine fin _ _ ?_ h1 h2 h3
          unfold unsT
          rw [if_neg hu1, if_pos hu2, show ((65013 : Int) + (u : Int)).toNat = 65013 + u by lia]
          rfl
        · rw [decide_eq_false (show ¬ (u : Int) < 27 by lia)]
          refine XS_nil (XS_nil (XS_nil ?_))
          have := fin [] (fset m "unseen" (.int (u : Int))) (by unfold unsT; rw [if_neg hu1, if_neg hu2]; rfl) h1 h2 h3
          rw [List.append_nil] at this
          subst hK₁
          exact this
  · rintro σ' ⟨m, rfl, hm1, hm2, hm3, hi⟩
    rw [inums_len]
    refine XS_nil (XS_ret (EE.h ?_ : E _ _ _ _ _ _))
    refine EE_Meth [] (kp := .machine) (E_strL [] (GM_str PySem.F.slot_str_join PySem.F.type_str_join ?_))
    refine EL_cons (E_l ?_ hm3)
    have hl := (partsT_len w n w.length).2
    refine EL_nil (EK_nil ⟨KP_blt, C_joinL (.inr ⟨s, rfl, (fcs_gt hLs).trans (upd_same _ _ _)⟩) (by unfold lens; rw [lens_nil]; lia) ?_⟩)
    show K _ _
    rw [fcs_resr, res_upd_ge (Nat.le_of_lt hLs), res_fresh hL, jn_nil]
    exact h
end
end Mine
end
section
set_option tactic.hygienic false
set_option hygiene false
set_option maxRecDepth 100000
namespace Mine
noncomputable def keptT : List (List Nat) := [[], [], [34, 92], [32, 9, 92]]
noncomputable def escL (way c : Nat) : List Nat := if way < 2 ∨ c ∈ keptT.getD way [] then [92, c] else [c]
noncomputable def slashL (w : List Nat) (way : Nat) : List Nat := if way = 3 ∧ w.getD 0 0 = 34 then 92 :: w.flatMap (escL way) else w.flatMap (escL way)
noncomputable def writtenL (w : List Nat) (way : Nat) (white : List Nat) : List Nat :=
  if way = 1 then [34] ++ slashL w way ++ [34] else if way = 2 then white ++ [34] ++ slashL w way ++ [34] else white ++ slashL w way ++ white
theorem escL_len (way c : Nat) : (escL way c).length ≤ 2 := by unfold escL; split <;> simp
theorem flat_esc_len (way : Nat) : ∀ w : List Nat, (w.flatMap (escL way)).length ≤ 2 * w.length
  | [] => by simp
  | c :: w => by
    have h1 := flat_esc_len way w
    have h2 := escL_len way c
    rw [List.flatMap_cons, List.length_append, List.length_cons]; lia
theorem slashL_len (w : List Nat) (way : Nat) : (slashL w way).length ≤ 2 * w.length + 1 := by
  have := flat_esc_len way w
  unfold slashL; split
  · rw [List.length_cons]; lia
  · lia
theorem writtenL_len (w : List Nat) (way : Nat) (white : List Nat) (h : white.length ≤ 1) : (writtenL w way white).length ≤ 2 * w.length + 4 := by
  have := slashL_len w way
  unfold writtenL; split
  · simp; lia
  · split
    · simp; lia
    · simp; lia
noncomputable def vW (way : Nat) : PV → PV
  | .str (c :: _) => .str (escL way c)
  | p => p
theorem map_vW (way : Nat) (w : List Nat) : ((signs w).filter fun _ => true).map (vW way) = stsL (w.map (escL way)) := by
  unfold signs stsL
  rw [List.filter_eq_self.mpr (fun _ _ => rfl), List.map_map, List.map_map]
  rfl
section
variable {W : Wd} {k : Nat} {σ : Sig} {env : Env} {P : FM → Prop} {x y : List Nat}
theorem EL_strL (l : List Nat) {pos : Pos} {x : Str} {n : Nat} {p : Pos} {rest : List Expr} {K : List PV → Sig → Prop} (e : x.cps.toList = l) (h : EL W k env pos rest σ fun ps σ₂ => K (.str l :: ps) σ₂) : EL W k env pos (.Constant (.str x) n p :: rest) σ K := EL_cons (E_strL l h e) rfl
set_option maxHeartbeats 4000000 in
theorem law_written_C (D : L1 W) {a : Addr} {w white : List Nat} {way : Nat} {K : PV → Sig → Prop} (F : Fn W a "_law_written" (defAt 22)) (hw : w.length ≤ 1000) (hw0 : 0 < w.length) (hway : way < 4) (hwh : white.length ≤ 1) (h : K (.str (writtenL w way white)) σ) : CC W (k + 1) (.ref a) [.str w, .int way, .str white] [] [] σ K := by
  obtain ⟨doc, pm, an, cd, ct, f1⟩ := F.fn
  have T := D.T
  refine CC_fcs T f1 [("word", .str w, none), ("way", .int way, some 0), ("white", .str white, none)] 2 (bind3 (n := "word") (m := "way") (l := "white") (fun v w u => by rfl) ⟨rfl, rfl⟩) rfl ⟨rfl, ⟨rfl, fun L => rfl⟩, rfl, trivial⟩ (by rfl) rfl fun (L : Nat) hL => ?_
  have hkt : ∃ kp, keptT[way]? = some kp ∧ keptT.getD way [] = kp := ⟨keptT[way]'hway, List.getElem?_eq_getElem hway, by rw [List.getD_eq_getElem?_getD, List.getElem?_eq_getElem (show way < keptT.length from hway)]; rfl⟩
  obtain ⟨kp, hkt, hkd⟩ := hkt
  refine XS_setc T 1 ?_
  refine (E_Sub' ?_ ?_ : E _ _ _ _ _ _)
  · intro _ _; rfl
  refine (E_List ?_ : E _ _ _ _ _ _)
  refine (EL_strL [] ?_ ?_ : EL _ _ _ _ _ _ _)
  · decide +kernel
  refine (EL_strL [] ?_ ?_ : EL _ _ _ _ _ _ _)
  · decide +kernel
  refine (EL_strL [34, 92] ?_ ?_ : EL _ _ _ _ _ _ _)
  · decide +kernel
  refine (EL_strL [32, 9, 92] ?_ ?_ : EL _ _ _ _ _ _ _)
  · decide +kernel
  refine EL_nil ⟨by decide, E_c 0 ?_⟩
  refine ⟨Sbs.lst, get_lst (p := .str kp) (by exact Int.natCast_nonneg _) (by exact z2 (by assumption) (by decide)) ?_ ⟨_, _, _, rfl, by simp [bc'], ?_⟩⟩
  · rw [Int.toNat_natCast]
    show (keptT.map PV.str)[way]? = _
    rw [List.getElem?_map, hkt]; rfl
  refine (?_ : XS W _ _ _ (fcs σ L _ [some (.int way), some (.str kp)]) _)
  refine XS_setl T (EE.h ?_ : E _ _ _ _ _ _)
  refine EE_Meth [] (kp := .machine) (E_strL [] (GM_str PySem.F.slot_str_join PySem.F.type_str_join ?_))
  refine (EL_cons' ?_ ?_ : EL _ _ _ _ _ _ _)
  · rfl
  refine E_Makes T (signs w) (fun _ => True) (stsL (w.map (escL way))) (E_l ⟨Itbl.str, trivial, Makes1 T (fun _ => true) (vW way) (map_vW way w) (by rw [signs_len]; exact Nat.le_trans (by assumption) (by decide)) (fun _ _ _ _ _ _ => trivial) (fun D' L' e1 e2 => ⟨fun p hp acc m => CI_nil ⟨rfl, rfl⟩, fun p hp _ acc m => ?_⟩), ?_⟩)
  · obtain ⟨c, hc, rfl⟩ := List.mem_map.mp hp
    refine E_IfExp (T_or (T_Compare (E_f 0 e1 e2 ?_)))
    refine E_int (lt_ii (truthy_bool ?_))
    have hv : vW way (.str [c]) = .str (escL way c) := rfl
    by_cases h2 : way < 2
    · rw [decide_eq_true (show (way : Int) < 2 by exact z2 (by assumption) (by decide)), if_pos rfl, if_pos rfl]
      refine (E_BinOp ?_ : E _ _ _ _ _ _)
      refine (E_strL [92] ?_ (by decide +kernel))
      refine E_m ?_ (fset_same _ _ _)
      refine add_ss (by simp) ⟨rfl, ?_⟩
      rw [hv]; unfold escL; rw [if_pos (.inl h2)]; rfl
    · rw [decide_eq_false (show ¬ (way : Int) < 2 by lia), if_neg (by decide)]
      refine T_Compare (E_m ?_ (fset_same _ _ _))
      refine E_f 1 e1 e2 (in_cs (truthy_bool ?_))
      by_cases h3 : c ∈ kp
      · rw [decide_eq_true h3, if_pos rfl]
        refine (E_BinOp ?_ : E _ _ _ _ _ _)
        refine (E_strL [92] ?_ (by decide +kernel))
        refine E_m ?_ (fset_same _ _ _)
        refine add_ss (by simp) ⟨rfl, ?_⟩
        rw [hv]; unfold escL; rw [if_pos (.inr (by rw [hkd]; exact h3))]; rfl
      · rw [decide_eq_false h3, if_neg (by decide)]
        refine E_m ⟨rfl, ?_⟩ (fset_same _ _ _)
        rw [hv]; unfold escL; rw [if_neg (by rw [hkd]; exact fun z => z.elim h2 h3)]
  have hfl := flat_esc_len way w
  have hjn : jn [] (w.map (escL way)) = w.flatMap (escL way) := by rw [jn_nil]; rfl
  refine EL_nil (EK_nil ⟨KP_blt, C_join (by unfold lens; rw [lens_nil, show (w.map (escL way)).flatten = w.flatMap (escL way) from rfl]; lia) ⟨_, _, _, rfl, ?_⟩⟩)
  rw [hjn]
  refine XS_cut (fun σ' => ∃ m, σ' = fcs σ L m [some (.int way), some (.str kp)] ∧ m "white" = some (.str white) ∧ m "slashed" = some (.str (slashL w way))) (X_Assign (E_IfExp (T_and (T_Compare (E_c 0 ?_))))) ?_
  · refine E_int (eq_ii (truthy_bool ?_))
    obtain ⟨c0, hc0⟩ : ∃ c, w[0]? = some c := ⟨w[0], List.getElem?_eq_getElem hw0⟩
    have hg0 : w.getD 0 0 = c0 := by rw [List.getD_eq_getElem?_getD, hc0]; rfl
    have no : ¬ (way = 3 ∧ c0 = 34) → E W k (envFn (fnX (nameOf (defAt 22)) "_law_written" (paramsOf (defAt 22)) (bodyOf (defAt 22)) (scopeOf (defAt 22)) [] .none .none doc pm an cd ct) [] L a) (.Name "slashed" default) σ (fun _ _ => True) ∨ True := fun _ => .inr trivial
    by_cases h3 : way = 3
    · rw [decide_eq_true (show (way : Int) = 3 by lia), if_pos rfl]
      refine T_Compare (E_Sub (E_l ?_))
      refine E_int ⟨Sbs.str, get_str (by decide) (by decide) hc0 ?_⟩
      refine E_strL [34] (eq_ss (truthy_bool ?_))
      by_cases h4 : c0 = 34
      · rw [decide_eq_true (by rw [h4]), if_pos rfl]
        refine (E_BinOp ?_ : E _ _ _ _ _ _)
        refine (E_strL [92] ?_ (by decide +kernel))
        refine E_l ?_
        refine add_ss (by show 1 + _ ≤ _; lia) (S_l T ⟨rfl, _, rfl, rfl, ?_⟩)
        rw [fset_same]; unfold slashL; rw [if_pos ⟨h3, by rw [hg0]; exact h4⟩]; rfl
      · rw [decide_eq_false (by simpa using h4), if_neg (by decide)]
        refine E_l (S_l T ⟨rfl, _, rfl, rfl, ?_⟩)
        rw [fset_same]; unfold slashL; rw [if_neg (by rw [hg0]; exact fun z => h4 z.2)]
    · rw [decide_eq_false (show ¬ (way : Int) = 3 by lia), if_neg (by decide), if_neg (by decide)]
      refine E_l (S_l T ⟨rfl, _, rfl, rfl, ?_⟩)
      rw [fset_same]; unfold slashL; rw [if_neg (fun z => h3 z.1)]
  · rintro _ ⟨m, rfl, hm1, hm2⟩
    have hsl := slashL_len w way
    refine XS_ret (E_Sub (E_List ?_))
    refine EL_cons (E_BinOp (E_BinOp (E_l ?_ hm1)))
    refine E_l ?_ hm2
    refine add_ss (by lia) (E_l ?_ hm1)
    refine add_ss (by rw [List.length_append]; lia) ?_
    refine (EL_cons' ?_ ?_ : EL _ _ _ _ _ _ _)
    · rfl
    refine (E_BinOp ?_ : E _ _ _ _ _ _)
    refine (E_BinOp ?_ : E _ _ _ _ _ _)
    refine (E_strL [34] ?_ (by decide +kernel))
    refine E_l ?_ hm2
    refine add_ss (by simp; lia) ?_
    refine E_strL [34] (add_ss (by simp; lia) ?_)
    refine EL_cons (E_BinOp (E_BinOp (E_BinOp (E_l ?_ hm1))))
    refine E_strL [34] (add_ss (by simp; exact Nat.le_trans (by assumption) (by decide)) ?_)
    refine E_l ?_ hm2
    refine add_ss (by simp; lia) ?_
    refine E_strL [34] (add_ss (by simp; lia) ?_)
    refine EL_cons (E_BinOp (E_BinOp (E_l ?_ hm1)))
    refine E_l ?_ hm2
    refine add_ss (by lia) (E_l ?_ hm1)
    refine add_ss (by rw [List.length_append]; lia) ?_
    refine EL_nil ⟨by simp, E_c 0 ?_⟩
    refine ⟨Sbs.lst, get_lst (p := .str (writtenL w way white)) (by exact Int.natCast_nonneg _) (by exact z2 (by assumption) (by decide)) ?_ ?_⟩
    · rw [Int.toNat_natCast]
      have : way = 0 ∨ way = 1 ∨ way = 2 ∨ way = 3 := by lia
      rcases this with rfl | rfl | rfl | rfl <;> rfl
    · show K _ _
      rw [fcs_res hL]
      exact h
end
end Mine
end
section
set_option tactic.hygienic false
set_option hygiene false
set_option maxRecDepth 100000
namespace Mine
noncomputable def namesText : List Nat := "OPTIMIZED NEWLOCALS VARARGS VARKEYWORDS NESTED GENERATOR NOFREE COROUTINE ITERABLE_COROUTINE ASYNC_GENERATOR".toList.map Char.toNat
theorem names_split : splitL namesText [32] = names10 := by decide +kernel
theorem slc_from {α : Type} {l : List α} {a : Nat} : slc (some (a : Int)) none l = l.drop a := by
  unfold slc
  simp only [Option.elim]
  rw [clip_nat]
  rcases Nat.le_total a l.length with q | q
  · rw [Nat.min_eq_left q, List.take_of_length_le (by simp)]
  · rw [Nat.min_eq_right q, List.drop_of_length_le (Nat.le_refl _), List.drop_of_length_le q, List.take_nil]
theorem slc_to {α : Type} {l : List α} {a : Nat} : slc none (some (a : Int)) l = l.take a := by
  unfold slc
  simp only [Option.elim]
  rw [clip_nat, List.drop_zero, Nat.sub_zero]
  rcases Nat.le_total a l.length with q | q
  · rw [Nat.min_eq_left q]
  · rw [Nat.min_eq_right q, List.take_of_length_le (Nat.le_refl _), List.take_of_length_le q]
theorem clip_neg {n a : Nat} (ha : 0 < a) : clipAt n (-(a : Int)) = n - a := by
  have := clipAt_cast n (-(a : Int))
  lia
theorem slc_back {α : Type} {l : List α} {a : Nat} (ha : 0 < a) : slc (some (-(a : Int))) none l = l.drop (l.length - a) := by
  unfold slc
  simp only [Option.elim]
  rw [clip_neg ha, List.take_of_length_le (by simp)]
noncomputable def wAt (a b : List Nat) (i : Nat) : List Nat := if i = 0 then a else b
noncomputable def ovL (a b y : List Nat) : List Nat := (List.range 2).flatMap fun i => ((List.range 3).filter fun j => decide ((wAt a b i).drop (2 - j) = y.take (j + 1))).map fun j => 2 ^ (6 * i + j)
noncomputable def kO (a b y : List Nat) : PV → PV → Bool
  | .int i, .int k => decide ((wAt a b i.toNat).drop (3 - k.toNat) = y.take k.toNat)
  | _, _ => false
noncomputable def vO : PV → PV → PV
  | .int i, .int k => .int ((2 ^ (6 * i.toNat + k.toNat - 1) : Nat) : Int)
  | p, _ => p
theorem ov_eq (a b y : List Nat) : ((inums 0 2).flatMap fun p => ((inums 1 3).filter (kO a b y p)).map (vO p)) = intsL ((ovL a b y).map fun n : Nat => (n : Int)) := by
  have e : ∀ i : Nat, ((inums 1 3).filter (kO a b y (.int (0 + (i : Nat))))).map (vO (.int (0 + (i : Nat)))) = (((List.range 3).filter fun j => decide ((wAt a b i).drop (2 - j) = y.take (j + 1))).map fun j => 2 ^ (6 * i + j)).map fun n : Nat => PV.int (n : Int) := fun i => by
    unfold inums
    rw [List.filter_map, List.map_map, List.map_map]
    have hk : (kO a b y (.int (0 + (i : Nat))) ∘ fun j : Nat => PV.int (1 + (j : Nat))) = fun j : Nat => decide ((wAt a b i).drop (2 - j) = y.take (j + 1)) := funext fun j => by
      show decide ((wAt a b ((0 : Int) + (i : Nat)).toNat).drop (3 - ((1 : Int) + (j : Nat)).toNat) = y.take ((1 : Int) + (j : Nat)).toNat) = _
      rw [show ((0 : Int) + (i : Nat)).toNat = i by exact z0 _, show ((1 : Int) + (j : Nat)).toNat = j + 1 by lia, show 3 - (j + 1) = 2 - j by lia]
    rw [hk]
    refine List.map_congr_left fun j _ => ?_
    show PV.int ((2 ^ (6 * ((0 : Int) + (i : Nat)).toNat + ((1 : Int) + (j : Nat)).toNat - 1) : Nat) : Int) = _
    rw [show ((0 : Int) + (i : Nat)).toNat = i by exact z0 _, show ((1 : Int) + (j : Nat)).toNat = j + 1 by lia]
    rfl
  unfold ovL intsL
  rw [List.map_map, List.map_flatMap]
  show List.flatMap _ ((List.range 2).map fun i => PV.int (0 + (i : Nat))) = _
  rw [List.flatMap_map]
  exact congrArg (fun g => List.flatMap g (List.range 2)) (funext e)
theorem ovL_len (a b y : List Nat) : (ovL a b y).length ≤ 6 := by
  have h0 : ∀ i : Nat, (((List.range 3).filter fun j => decide ((wAt a b i).drop (2 - j) = y.take (j + 1))).map fun j => 2 ^ (6 * i + j)).length ≤ 3 := fun i => by
    rw [List.length_map]
    exact Nat.le_trans (List.length_filter_le _ _) (by simp)
  unfold ovL
  rw [show List.range 2 = [0, 1] from rfl, List.flatMap_cons, List.flatMap_cons, List.flatMap_nil, List.length_append, List.length_append]
  have h1 := h0 0
  have h2 := h0 1
  simp only [List.length_nil]
  lia
section
variable {W : Wd} {k : Nat} {σ : Sig} {env : Env} {P : FM → Prop} {x y : List Nat}
set_option maxHeartbeats 4000000 in
theorem law_word_C (D : L1 W) {a : Addr} {i : Nat} {K : PV → Sig → Prop} (F : Fn W a "_law_word" (defAt 24)) (hi : i < 32) (h : K (.str (wordC i)) σ) : CC W (k + 1) (.ref a) [.int i] [] [] σ K := by
  obtain ⟨doc, pm, an, cd, ct, f1⟩ := F.fn
  have T := D.T
  refine CC_fcs T f1 [("place", .int i, none)] 0 (bind1 (n := "place") (fun v => by rfl) ⟨rfl, rfl⟩) rfl ⟨rfl, trivial⟩ (by rfl) rfl fun (L : Nat) hL => ?_
  refine XS_setl T (E_strL namesText ⟨_, _, _, rfl, ?_⟩)
  refine XS_ret (E_IfExp (T_Compare (E_l (E_int (lt_ii (truthy_bool ?_))))))
  have hK : ∀ m, K (.str (wordC i)) (res L (fcs σ L m [])) := fun m => by rw [fcs_res hL]; exact h
  by_cases h1 : i < 10
  · rw [decide_eq_true (show (i : Int) < 10 by exact z2 (by assumption) (by decide)), if_pos rfl]
    refine E_Sub (E_Meth [] (kp := .machine) (E_l ?_))
    refine GM_str PySem.F.slot_str_split PySem.F.type_str_split ?_
    refine EL_cons (E_strL [32] ?_)
    refine EL_nil (EK_nil ⟨KP_blt, C_split T (by simp) (by decide +kernel) ?_⟩)
    rw [names_split]
    refine E_l ?_
    refine ⟨Sbs.lst, get_lst (p := .str (wordC i)) (by exact Int.natCast_nonneg _) (by exact z2 (by assumption) (by decide)) ?_ (hK _)⟩
    rw [Int.toNat_natCast]
    unfold stsL wordC
    have hl : i < names10.length := h1
    rw [if_pos h1, List.getElem?_map, List.getElem?_eq_getElem hl, List.getD_eq_getElem?_getD, List.getElem?_eq_getElem hl]
    rfl
  · rw [decide_eq_false (show ¬ (i : Int) < 10 by lia), if_neg (by decide)]
    refine E_Call [] (kp := .machine) (E_bn T D.B (n := "hex") (by simp) ?_)
    refine EL_cons (E_BinOp (E_int (E_l ?_)))
    refine shl_ii (by exact Int.natCast_nonneg _) (by lia) (by decide) ?_
    rw [show (1 : Int) * 2 ^ ((i : Int)).toNat = ((2 ^ i : Nat) : Int) by simp]
    refine EL_nil (EK_nil ⟨KP_blt, C_hex (by have := hex_len ⟨i, hi⟩; dsimp only at this; exact Nat.le_trans (by assumption) (by decide)) ?_⟩)
    have : wordC i = hexL ((2 ^ i : Nat) : Int) := by unfold wordC; rw [if_neg h1]
    rw [← this]
    exact hK _
set_option maxHeartbeats 4000000 in
theorem law_overlaps_C (D : L1 W) {f : Addr} {a b y : List Nat} {K : PV → Sig → Prop} (F : Fn W f "_law_overlaps" (defAt 26)) (ha : a.length = 3) (hb : b.length = 3) (hy : y.length = 3) (h : K (.int (((ovL a b y).map fun n : Nat => (n : Int)).sum)) σ) : CC W (k + 1) (.ref f) [.lst (stsL [a, b]), .str y] [] [] σ K := by
  obtain ⟨doc, pm, an, cd, ct, f1⟩ := F.fn
  have T := D.T
  refine CC_fcs T f1 [("pair", .lst (stsL [a, b]), some 0), ("word", .str y, some 1)] 2 (bind2 (n := "pair") (m := "word") (fun v w => by rfl) ⟨rfl, rfl⟩) rfl ⟨⟨rfl, fun L => rfl⟩, ⟨rfl, fun L => rfl⟩, trivial⟩ (by rfl) rfl fun (L : Nat) hL => ?_
  refine XS_ret (E_Call [] (kp := .machine) (E_bn T D.B (n := "sum") (by simp) ?_))
  refine EL_cons (E_Makes T (inums 0 2) (fun _ => True) (intsL ((ovL a b y).map fun n : Nat => (n : Int))) ?_)
  refine E_Call [] (kp := .machine) (E_tn T D.B (n := "range") (by simp) ?_)
  refine EL_cons (E_int ?_)
  refine EL_nil (EK_nil ⟨KP_typ, C_range1 T ⟨Itbl.rng0 (n := 2) (by decide), trivial, Makes2 T (fun _ => inums 1 3) (fun _ => .rng 1 4) (kO a b y) vO (ov_eq a b y) ?_ (fun _ _ _ _ _ _ => trivial) (fun _ _ _ _ _ _ => trivial) (Src2 := fun _ => True) (fun D' L' e1 e2 p hp acc m hm => ?_) (fun D' L' e1 e2 => ⟨fun p hp q hq acc m hm1 hm2 => ?_, fun p hp q hq hk acc m hm1 hm2 => ?_⟩), ?_⟩⟩)
  · unfold intsL
    rw [List.length_map, List.length_map]
    have := ovL_len a b y
    exact Nat.le_trans (by assumption) (by decide)
  · refine E_Call [] (kp := .machine) (E_tn T D.B (n := "range") (by simp) ?_)
    exact EL_cons (E_int (EL_cons (E_int (EL_nil (EK_nil ⟨KP_typ, C_range2 T ⟨rfl, rfl, Itbl.rng (by decide) 3 (by decide)⟩⟩)))))
  · obtain ⟨i, hi⟩ := List.getElem?_of_mem hp
    obtain ⟨hi2, rfl⟩ := int_at hi
    obtain ⟨j, hj⟩ := List.getElem?_of_mem hq
    obtain ⟨hj2, rfl⟩ := int_at hj
    refine CI_one (T_Compare (E_SliceStr T (E_Sub (E_f 0 e1 e2 ?_))))
    refine E_m ?_ hm1
    have hg : (stsL [a, b])[((0 : Int) + (i : Nat)).toNat]? = some (.str (wAt a b i)) := by
      have : i = 0 ∨ i = 1 := by lia
      rcases this with rfl | rfl <;> rfl
    have hwl : (wAt a b i).length = 3 := by unfold wAt; split <;> assumption
    refine ⟨Sbs.lst, get_lst (by exact z1 _) (by exact z3 (by assumption) (by decide)) hg ?_⟩
    refine EP_some (E_BinOp (E_int (E_m ?_ hm2)))
    refine sub_ii ⟨_, rfl, EP_none ⟨_, rfl, by exact z9 (by assumption) (by decide), ?_⟩⟩
    refine E_SliceStr T (E_f 1 e1 e2 ?_)
    refine EP_none (EP_some (E_m ?_ hm2))
    refine ⟨_, rfl, _, rfl, by exact z9 (by assumption) (by decide), ?_⟩
    refine eq_ss (truthy_bool ⟨rfl, ?_⟩)
    rw [show (3 : Int) - (1 + (j : Nat)) = ((2 - j : Nat) : Int) by lia, slc_from, show (1 : Int) + (j : Nat) = ((j + 1 : Nat) : Int) by exact z4 _, slc_to]
    show _ = decide ((wAt a b ((0 : Int) + (i : Nat)).toNat).drop (3 - (((j + 1 : Nat) : Int)).toNat) = y.take (((j + 1 : Nat) : Int)).toNat)
    rw [show ((0 : Int) + (i : Nat)).toNat = i by exact z0 _, Int.toNat_natCast, show 3 - (j + 1) = 2 - j by lia]
  · obtain ⟨i, hi⟩ := List.getElem?_of_mem hp
    obtain ⟨hi2, rfl⟩ := int_at hi
    obtain ⟨j, hj⟩ := List.getElem?_of_mem hq
    obtain ⟨hj2, rfl⟩ := int_at hj
    refine E_BinOp (E_int (E_BinOp (E_BinOp (E_BinOp (E_int (E_m ?_ hm1))))))
    refine mul_ii ?_ (.of_left (intBits_le_64 (by decide) (by decide)))
    refine E_m ?_ hm2
    refine add_ii (E_int (sub_ii (shl_ii (by lia) (by lia) (by decide) ⟨rfl, ?_⟩)))
    show PV.int _ = PV.int ((2 ^ (6 * ((0 : Int) + (i : Nat)).toNat + ((1 : Int) + (j : Nat)).toNat - 1) : Nat) : Int)
    rw [show (6 * ((0 : Int) + (i : Nat)) + (1 + (j : Nat)) - 1).toNat = 6 * ((0 : Int) + (i : Nat)).toNat + ((1 : Int) + (j : Nat)).toNat - 1 by rw [Int.zero_add, z4 j, show (6 : Int) * (i : Nat) + ((j + 1 : Nat) : Int) - 1 = ((6 * i + j : Nat) : Int) by lia]; rfl]
    simp
  · refine EL_nil (EK_nil ⟨KP_blt, C_sum T ?_⟩)
    show K _ _
    rw [fcs_res hL]
    exact h
end
end Mine
end
section
set_option tactic.hygienic false
set_option hygiene false
set_option maxRecDepth 100000
namespace Mine
noncomputable def textsL (ls : List (List Nat)) : Nat → List (List Nat)
  | 0 => [[]]
  | n + 1 => (textsL ls n).flatMap fun t => ls.map fun l => t ++ l
noncomputable def last3 (x : List Nat) : List Nat := x.drop (x.length - 3)
noncomputable def endsL (a b y f : List Nat) : List Nat := (List.range 3).flatMap fun k => ((List.range 2).filter fun i => decide (last3 (f ++ y.take (k + 1)) = wAt a b i)).map fun i => 3 * i + k
noncomputable def avoids (a b f : List Nat) : Bool := !subOf f a && !subOf f b
noncomputable def dueAt (a b y : List Nat) (fs : List (List Nat)) (j : Nat) : List (List Nat) := fs.filter fun f => avoids a b f && decide ((endsL a b y f).head? = some j)
noncomputable def dueL (ls : List (List Nat)) (a b y : List Nat) (n : Nat) : List (List Nat) := (List.range 6).flatMap (dueAt a b y (textsL ls n))
theorem textsL_len {ls : List (List Nat)} (h : ∀ l ∈ ls, l.length = 1) : ∀ n, ∀ t ∈ textsL ls n, t.length = n
  | 0, t, ht => by simp [textsL] at ht; subst ht; rfl
  | n + 1, t, ht => by
    unfold textsL at ht
    obtain ⟨t', h1, h2⟩ := List.mem_flatMap.mp ht
    obtain ⟨l, h3, rfl⟩ := List.mem_map.mp h2
    rw [List.length_append, textsL_len h n t' h1, h l h3]
theorem textsL_num {ls : List (List Nat)} (h : ls.length = 2) : ∀ n, (textsL ls n).length = 2 ^ n
  | 0 => rfl
  | n + 1 => by
    have key : ∀ ts : List (List Nat), (ts.flatMap fun t => ls.map fun l => t ++ l).length = 2 * ts.length := fun ts => by
      induction ts with
      | nil => rfl
      | cons t ts ih => rw [List.flatMap_cons, List.length_append, List.length_map, ih, h, List.length_cons]; lia
    unfold textsL
    rw [key, textsL_num h n, Nat.pow_succ]; lia
noncomputable def vT : PV → PV → PV
  | .str t, .str l => .str (t ++ l)
  | p, _ => p
theorem texts_step (ls ts : List (List Nat)) : ((stsL ts).flatMap fun p => ((stsL ls).filter fun _ => true).map (vT p)) = stsL (ts.flatMap fun t => ls.map fun l => t ++ l) := by
  unfold stsL
  rw [List.flatMap_map, List.map_flatMap]
  refine congrArg (fun g => List.flatMap g ts) (funext fun t => ?_)
  rw [List.filter_eq_self.mpr (fun _ _ => rfl), List.map_map, List.map_map]
  rfl
noncomputable def kE (a b y f : List Nat) : PV → PV → Bool
  | .int k, .int i => decide (last3 (f ++ y.take (k.toNat + 1)) = wAt a b i.toNat)
  | _, _ => false
noncomputable def vE : PV → PV → PV
  | .int k, .int i => .int ((3 * i.toNat + k.toNat : Nat) : Int)
  | p, _ => p
theorem ends_eq (a b y f : List Nat) : ((inums 0 3).flatMap fun p => ((inums 0 2).filter (kE a b y f p)).map (vE p)) = intsL ((endsL a b y f).map fun n : Nat => (n : Int)) := by
  have e : ∀ k : Nat, ((inums 0 2).filter (kE a b y f (.int (0 + (k : Nat))))).map (vE (.int (0 + (k : Nat)))) = (((List.range 2).filter fun i => decide (last3 (f ++ y.take (k + 1)) = wAt a b i)).map fun i => 3 * i + k).map fun n : Nat => PV.int (n : Int) := fun k => by
    unfold inums
    rw [List.filter_map, List.map_map, List.map_map]
    have hk : (kE a b y f (.int (0 + (k : Nat))) ∘ fun j : Nat => PV.int (0 + (j : Nat))) = fun i : Nat => decide (last3 (f ++ y.take (k + 1)) = wAt a b i) := funext fun j => by
      show decide (last3 (f ++ y.take (((0 : Int) + (k : Nat)).toNat + 1)) = wAt a b ((0 : Int) + (j : Nat)).toNat) = _
      rw [show ((0 : Int) + (k : Nat)).toNat = k by exact z0 _, show ((0 : Int) + (j : Nat)).toNat = j by exact z0 _]
    rw [hk]
    refine List.map_congr_left fun j _ => ?_
    show PV.int ((3 * ((0 : Int) + (j : Nat)).toNat + ((0 : Int) + (k : Nat)).toNat : Nat) : Int) = _
    rw [show ((0 : Int) + (k : Nat)).toNat = k by exact z0 _, show ((0 : Int) + (j : Nat)).toNat = j by exact z0 _]
    rfl
  unfold endsL intsL
  rw [List.map_map, List.map_flatMap]
  show List.flatMap _ ((List.range 3).map fun i => PV.int (0 + (i : Nat))) = _
  rw [List.flatMap_map]
  exact congrArg (fun g => List.flatMap g (List.range 3)) (funext e)
theorem endsL_len (a b y f : List Nat) : (endsL a b y f).length ≤ 6 := by
  have h0 : ∀ k : Nat, (((List.range 2).filter fun i => decide (last3 (f ++ y.take (k + 1)) = wAt a b i)).map fun i => 3 * i + k).length ≤ 2 := fun i => by
    rw [List.length_map]
    exact Nat.le_trans (List.length_filter_le _ _) (by simp)
  unfold endsL
  rw [show List.range 3 = [0, 1, 2] from rfl, List.flatMap_cons, List.flatMap_cons, List.flatMap_cons, List.flatMap_nil, List.length_append, List.length_append, List.length_append]
  have h1 := h0 0
  have h2 := h0 1
  have h3 := h0 2
  simp only [List.length_nil]
  lia
theorem endsL_ne {a b y f : List Nat} (hy : y.length = 3) (h : y = a ∨ y = b) : ∃ j, (endsL a b y f).head? = some j ∧ j < 6 := by
  have hlt : ∀ j ∈ endsL a b y f, j < 6 := fun j hj => by
    unfold endsL at hj
    obtain ⟨k, h1, h2⟩ := List.mem_flatMap.mp hj
    obtain ⟨i, h3, rfl⟩ := List.mem_map.mp h2
    have h4 := List.mem_range.mp (List.mem_filter.mp h3).1
    have h5 := List.mem_range.mp h1
    lia
  have hne : endsL a b y f ≠ [] := fun z => by
    have : ∃ i, i < 2 ∧ wAt a b i = y := by
      rcases h with h | h
      · exact ⟨0, by decide, h.symm⟩
      · exact ⟨1, by decide, h.symm⟩
    obtain ⟨i, hi, hw⟩ := this
    have hm : 3 * i + 2 ∈ endsL a b y f := by
      unfold endsL
      refine List.mem_flatMap.mpr ⟨2, by simp, List.mem_map.mpr ⟨i, List.mem_filter.mpr ⟨List.mem_range.mpr hi, ?_⟩, rfl⟩⟩
      refine decide_eq_true ?_
      rw [hw]
      unfold last3
      rw [List.take_of_length_le (by exact z9 (by assumption) (by decide)), List.length_append, hy, Nat.add_sub_cancel, List.drop_left]
    rw [z] at hm; cases hm
  cases he : endsL a b y f with
  | nil => exact absurd he hne
  | cons j r => exact ⟨j, rfl, hlt j (by rw [he]; exact List.mem_cons_self ..)⟩
theorem dueAt_snoc (a b y : List Nat) (fs : List (List Nat)) (f : List Nat) (j : Nat) : dueAt a b y (fs ++ [f]) j = dueAt a b y fs j ++ (if avoids a b f && decide ((endsL a b y f).head? = some j) then [f] else []) := by
  unfold dueAt
  rw [List.filter_append]
  cases h : (avoids a b f && decide ((endsL a b y f).head? = some j)) <;> simp [h]
theorem dueAt_len (a b y : List Nat) (fs : List (List Nat)) (j : Nat) : (dueAt a b y fs j).length ≤ fs.length := List.length_filter_le _ _
noncomputable def ad6 (a0 a1 a2 a3 a4 a5 j : Nat) : Nat := [a0, a1, a2, a3, a4, a5].getD j 0
structure Six (ad : Nat → Nat) (c : Nat → List (List Nat)) (τ σ : Sig) (L : Nat) : Prop where
  at_ : ∀ j, j < 6 → τ (ad j) = some (.list (stsL (c j)))
  res : res L τ = σ
theorem Six.app {ad : Nat → Nat} {c : Nat → List (List Nat)} {τ σ : Sig} {L j : Nat} {l : List (List Nat)} (s : Six ad c τ σ L) (inj : ∀ i j, i < 6 → j < 6 → ad i = ad j → i = j) (hj : j < 6) (hL : L ≤ ad j) : Six ad (fun i => if i = j then l else c i) (τ.upd (ad j) (.list (stsL l))) σ L :=
  ⟨fun i hi => by
    by_cases e : i = j
    · subst e; rw [upd_same, if_pos rfl]
    · rw [upd_ne (fun z => e (inj i j hi hj z)), if_neg e]; exact s.at_ i hi, (res_upd_ge hL).trans s.res⟩
section
variable {W : Wd} {k : Nat} {σ : Sig} {env : Env} {P : FM → Prop} {x y : List Nat}
theorem bind4 {fd : FuncData} {n1 n2 n3 n4 : Str} {p1 p2 p3 p4 : PV} {K : List (Str × PV) → Sig → Prop} (e : ∀ v w u z, bindArgs fd ⟨[v, w, u, z], []⟩ = Pure.pure [(n1, v), (n2, w), (n3, u), (n4, z)]) (h : K [(n1, p1), (n2, p2), (n3, p3), (n4, p4)] σ) : ∀ vs ws, G W k (fun F => VRels F [p1, p2, p3, p4] vs ∧ VRels F [] ws) BRels (bindArgs fd ⟨vs, ([] : List Str).zip ws⟩) σ K := fun vs ws A hA s hs hpat => by
  obtain ⟨⟨v, r, e1, h1, w, r', e3, h2, u, r'', e4, h3, z, r3, e5, h4, e2⟩, _⟩ := hpat
  subst e1 e3 e4 e5
  obtain rfl : r3 = [] := e2
  rw [show ([] : List Str).zip ws = [] from rfl, e]
  exact wpAny_pure ⟨[(n1, p1), (n2, p2), (n3, p3), (n4, p4)], σ, hs, FLe.refl _, ⟨v, _, rfl, h1, w, _, rfl, h2, u, _, rfl, h3, z, [], rfl, h4, rfl⟩, h⟩
set_option maxHeartbeats 4000000 in
theorem law_due_C (D : L1 W) {f : Addr} {a b y : List Nat} {ls : List (List Nat)} {n : Nat} {K : PV → Sig → Prop} (F : Fn W f "_law_due" (defAt 27)) (ha : a.length = 3) (hb : b.length = 3) (hy : y.length = 3) (hyy : y = a ∨ y = b) (hls : ls.length = 2) (hl1 : ∀ l ∈ ls, l.length = 1) (hn : n ≤ 3) (h : K (.lst (stsL (dueL ls a b y n))) σ) :
    CC W (k + 1) (.ref f) [.lst (stsL ls), .lst (stsL [a, b]), .str y, .int n] [] [] σ K := by
  obtain ⟨doc, pm, an, cd, ct, f1⟩ := F.fn
  have T := D.T
  refine CC_fcs T f1 [("letters", .lst (stsL ls), some 0), ("pair", .lst (stsL [a, b]), some 1), ("word", .str y, some 2), ("size", .int n, none)] 4 (bind4 (n1 := "letters") (n2 := "pair") (n3 := "word") (n4 := "size") (fun v w u z => by rfl) ⟨rfl, rfl⟩) rfl ⟨⟨rfl, fun L => rfl⟩, ⟨rfl, fun L => rfl⟩, ⟨rfl, fun L => rfl⟩, rfl, trivial⟩ (by rfl) rfl fun (L : Nat) hL => ?_
  refine (?_ : XS W _ _ _ (fcs σ L _ [some (.lst (stsL ls)), some (.lst (stsL [a, b])), some (.str y), none]) _)
  refine XS_setl T ?_
  refine (E_List ?_ : E _ _ _ _ _ _)
  refine (EL_strL [] ?_ ?_ : EL _ _ _ _ _ _ _)
  · decide +kernel
  refine EL_nil ⟨by decide, _, _, _, rfl, ?_⟩
  refine XS_cut (fun σ' => ∃ m, σ' = fcs σ L m [some (.lst (stsL ls)), some (.lst (stsL [a, b])), some (.str y), none] ∧ m "texts" = some (.lst (stsL (textsL ls n)))) (X_For (q₀ := .rng 0 (n : Int)) T (inums 0 n) (fun _ => True) (fun i σ' => ∃ m, σ' = fcs σ L m [some (.lst (stsL ls)), some (.lst (stsL [a, b])), some (.str y), none] ∧ m "texts" = some (.lst (stsL (textsL ls i))) ∧ m "size" = some (.int n) ∧ i ≤ n) ?_ (fun _ _ _ => trivial) ?_ ?_) ?_
  · refine E_Call [] (kp := .machine) (E_tn T D.B (n := "range") (by simp) ?_)
    refine EL_cons (E_l ?_)
    exact EL_nil (EK_nil ⟨KP_typ, C_range1 T ⟨rfl, Itbl.rng0 (by exact Nat.le_trans (by assumption) (by decide)), _, rfl, rfl, rfl, Nat.zero_le _⟩⟩)
  · rintro i p σ' hp ⟨m, rfl, hm1, hm2, hi⟩
    obtain ⟨hi', rfl⟩ := int_at hp
    refine AT_name (S_l T ?_)
    refine XS_Makes T (stsL (textsL ls i)) (fun _ => True) (stsL (textsL ls (i + 1))) (E_l ?_ hm1)
    refine ⟨_, _, _, rfl, Itbl.lst, trivial, Makes2 T (fun _ => stsL ls) (fun _ => .lst (stsL ls)) (fun _ _ => true) vT (texts_step ls _) ?_ (fun _ _ _ _ _ _ => trivial) (fun _ _ _ _ _ _ => trivial) (Src2 := fun _ => True) (fun D' L' e1 e2 p hp acc m hm => ?_) (fun D' L' e1 e2 => ⟨fun p hp q hq acc m hm1 hm2 => CI_nil ⟨rfl, rfl⟩, fun p hp q hq hk acc m hm1 hm2 => ?_⟩), ?_⟩
    · show (stsL (textsL ls (i + 1))).length ≤ _
      unfold stsL
      rw [List.length_map, textsL_num hls]
      exact Nat.le_trans (Nat.pow_le_pow_right (by decide) (show i + 1 ≤ 3 by lia)) (by decide)
    · exact E_f 0 e1 e2 ⟨rfl, rfl, Itbl.lst⟩
    · obtain ⟨t, ht, rfl⟩ := List.mem_map.mp hp
      obtain ⟨l, hl, rfl⟩ := List.mem_map.mp hq
      refine E_BinOp (E_m ?_ hm1)
      refine E_m ?_ hm2
      have h1 := textsL_len hl1 i t ht
      have h2 := hl1 l hl
      exact add_ss (by lia) ⟨rfl, rfl⟩
    · exact XS_nil ⟨_, rfl, fset_same _ _ _, hm2, hi'⟩
  · rintro σ' ⟨m, rfl, hm1, hm2, hi⟩
    rw [inums_len] at hm1
    exact XS_nil ⟨rfl, m, rfl, hm1⟩
  rintro _ ⟨m, rfl, hmt⟩
  refine XS_setl T ?_
  refine (gen ?_ : E _ _ _ _ _ _)
  intro K₁ hK₁
  refine (E_List ?_ : E _ _ _ _ _ _)
  refine (EL_cons' ?_ ?_ : EL _ _ _ _ _ _ _)
  · rfl
  refine (E_ListM ?_ : E _ _ _ _ _ _)
  refine EL_nil ⟨by decide, fun (a0 : Nat) h0 => ?_⟩
  refine (EL_cons' ?_ ?_ : EL _ _ _ _ _ _ _)
  · rfl
  refine (E_ListM ?_ : E _ _ _ _ _ _)
  refine EL_nil ⟨by decide, fun (a1 : Nat) h1 => ?_⟩
  refine (EL_cons' ?_ ?_ : EL _ _ _ _ _ _ _)
  · rfl
  refine (E_ListM ?_ : E _ _ _ _ _ _)
  refine EL_nil ⟨by decide, fun (a2 : Nat) h2 => ?_⟩
  refine (EL_cons' ?_ ?_ : EL _ _ _ _ _ _ _)
  · rfl
  refine (E_ListM ?_ : E _ _ _ _ _ _)
  refine EL_nil ⟨by decide, fun (a3 : Nat) h3 => ?_⟩
  refine (EL_cons' ?_ ?_ : EL _ _ _ _ _ _ _)
  · rfl
  refine (E_ListM ?_ : E _ _ _ _ _ _)
  refine EL_nil ⟨by decide, fun (a4 : Nat) h4 => ?_⟩
  refine (EL_cons' ?_ ?_ : EL _ _ _ _ _ _ _)
  · rfl
  refine (E_ListM ?_ : E _ _ _ _ _ _)
  refine EL_nil ⟨by decide, fun (a5 : Nat) h5 => ?_⟩
  have lt_of : ∀ {τ : Sig} {b c : Nat} {o : AObj}, Fresh (τ.upd b o) c → b < c := fun {τ b c o} hf => by
    rcases Nat.lt_or_ge b c with q | q
    · exact q
    · have := hf b q; rw [upd_same] at this; cases this
  have l0 : L + 4 < a0 := fcs_fresh h0
  have l1 := lt_of h1
  have l2 := lt_of h2
  have l3 := lt_of h3
  have l4 := lt_of h4
  have l5 := lt_of h5
  rw [fcs_gt' (show L + 4 < a0 by assumption), fcs_gt' (show L + 4 < a1 by lia), fcs_gt' (show L + 4 < a2 by lia), fcs_gt' (show L + 4 < a3 by lia), fcs_gt' (show L + 4 < a4 by lia), fcs_gt' (show L + 4 < a5 by lia)]
  refine EL_nil ⟨by simp, ?_⟩
  subst hK₁
  refine ⟨_, _, _, rfl, ?_⟩
  have cases6 : ∀ {j : Nat}, j < 6 → j = 0 ∨ j = 1 ∨ j = 2 ∨ j = 3 ∨ j = 4 ∨ j = 5 := fun h => by lia
  have had : ∀ j, j < 6 → L + 4 < ad6 a0 a1 a2 a3 a4 a5 j := fun j hj => by
    rcases cases6 hj with rfl | rfl | rfl | rfl | rfl | rfl
    · exact l0
    · show L + 4 < a1; lia
    · show L + 4 < a2; lia
    · show L + 4 < a3; lia
    · show L + 4 < a4; lia
    · show L + 4 < a5; lia
  have inj : ∀ i j, i < 6 → j < 6 → ad6 a0 a1 a2 a3 a4 a5 i = ad6 a0 a1 a2 a3 a4 a5 j → i = j := fun i j hi hj e => by
    have h0 : ad6 a0 a1 a2 a3 a4 a5 0 = a0 := rfl
    have h1 : ad6 a0 a1 a2 a3 a4 a5 1 = a1 := rfl
    have h2 : ad6 a0 a1 a2 a3 a4 a5 2 = a2 := rfl
    have h3 : ad6 a0 a1 a2 a3 a4 a5 3 = a3 := rfl
    have h4 : ad6 a0 a1 a2 a3 a4 a5 4 = a4 := rfl
    have h5 : ad6 a0 a1 a2 a3 a4 a5 5 = a5 := rfl
    rcases cases6 hi with rfl | rfl | rfl | rfl | rfl | rfl <;> rcases cases6 hj with rfl | rfl | rfl | rfl | rfl | rfl <;> first | rfl | (exfalso; simp only [h0, h1, h2, h3, h4, h5] at e; lia)
  have six0 : Six (ad6 a0 a1 a2 a3 a4 a5) (fun _ => []) ((((((σ.upd a0 (.list [])).upd a1 (.list [])).upd a2 (.list [])).upd a3 (.list [])).upd a4 (.list [])).upd a5 (.list [])) σ L := ⟨fun j hj => by
      rcases cases6 hj with rfl | rfl | rfl | rfl | rfl | rfl
      · exact (upd_ne (show a0 ≠ a5 by lia)).trans ((upd_ne (show a0 ≠ a4 by lia)).trans ((upd_ne (show a0 ≠ a3 by lia)).trans ((upd_ne (show a0 ≠ a2 by lia)).trans ((upd_ne (show a0 ≠ a1 by exact Nat.ne_of_lt (by assumption))).trans (upd_same _ _ _)))))
      · exact (upd_ne (show a1 ≠ a5 by lia)).trans ((upd_ne (show a1 ≠ a4 by lia)).trans ((upd_ne (show a1 ≠ a3 by lia)).trans ((upd_ne (show a1 ≠ a2 by exact Nat.ne_of_lt (by assumption))).trans (upd_same _ _ _))))
      · exact (upd_ne (show a2 ≠ a5 by lia)).trans ((upd_ne (show a2 ≠ a4 by lia)).trans ((upd_ne (show a2 ≠ a3 by exact Nat.ne_of_lt (by assumption))).trans (upd_same _ _ _)))
      · exact (upd_ne (show a3 ≠ a5 by lia)).trans ((upd_ne (show a3 ≠ a4 by exact Nat.ne_of_lt (by assumption))).trans (upd_same _ _ _))
      · exact (upd_ne (show a4 ≠ a5 by exact Nat.ne_of_lt (by assumption))).trans (upd_same _ _ _)
      · exact upd_same _ _ _,
    by rw [res_upd_ge (show L ≤ a5 by lia), res_upd_ge (show L ≤ a4 by lia), res_upd_ge (show L ≤ a3 by lia), res_upd_ge (show L ≤ a2 by lia), res_upd_ge (show L ≤ a1 by lia), res_upd_ge (show L ≤ a0 by lia), res_fresh hL]⟩
  have hnum : (textsL ls n).length ≤ 8 := by rw [textsL_num hls]; exact Nat.le_trans (Nat.pow_le_pow_right (by decide) hn) (by decide)
  have hzD : ∀ i j, (stsL (dueAt a b y ((textsL ls n).take i) j)).length ≤ 8 := fun i j => by
    unfold stsL
    rw [List.length_map]
    exact Nat.le_trans (dueAt_len ..) (Nat.le_trans (List.length_take_le' ..) hnum)
  generalize hfs : textsL ls n = fs at *
  refine XS_cut (fun σ' => ∃ m c3 τ, σ' = fcs τ L m [some (.lst (stsL ls)), some (.lst (stsL [a, b])), some (.str y), c3] ∧ Six (ad6 a0 a1 a2 a3 a4 a5) (dueAt a b y fs) τ σ L ∧ m "met" = some (.lst [.ref a0, .ref a1, .ref a2, .ref a3, .ref a4, .ref a5]))
    (X_For (q₀ := .lst (stsL fs)) T (stsL fs) (fun _ => True) (fun i σ' => ∃ m c3 τ, σ' = fcs τ L m [some (.lst (stsL ls)), some (.lst (stsL [a, b])), some (.str y), c3] ∧ Six (ad6 a0 a1 a2 a3 a4 a5) (dueAt a b y (fs.take i)) τ σ L ∧ m "met" = some (.lst [.ref a0, .ref a1, .ref a2, .ref a3, .ref a4, .ref a5])) ?_ (fun _ _ _ => trivial) ?_ ?_) ?_
  · exact E_l ⟨rfl, Itbl.lst, _, _, _, rfl, six0, fset_same _ _ _⟩ ((fset_ne (by decide)).trans hmt)
  · rintro i p σ' hp ⟨m, c3, τ, rfl, hsix, hmet⟩
    obtain ⟨g, hg, rfl⟩ : ∃ g, fs[i]? = some g ∧ p = .str g := by
      unfold stsL at hp
      rw [List.getElem?_map] at hp
      cases e : fs[i]? with
      | none => rw [e] at hp; cases hp
      | some g => rw [e] at hp; exact ⟨g, rfl, (Option.some.inj hp).symm⟩
    have hglen : g.length = n := textsL_len hl1 n g (by rw [hfs]; exact List.mem_of_getElem? hg)
    have htake : fs.take (i + 1) = fs.take i ++ [g] := by rw [List.take_add_one, hg]; rfl
    refine AT_name (S_c T 3 ?_)
    refine (?_ : XS W _ _ _ (fcs τ L m [some (.lst (stsL ls)), some (.lst (stsL [a, b])), some (.str y), some (.str g)]) _)
    refine gen fun K₂ hK₂ => ?_
    have skip : avoids a b g = false → ∃ m' c3 τ', fcs τ L m [some (.lst (stsL ls)), some (.lst (stsL [a, b])), some (.str y), some (.str g)] = fcs τ' L m' [some (.lst (stsL ls)), some (.lst (stsL [a, b])), some (.str y), c3] ∧ Six (ad6 a0 a1 a2 a3 a4 a5) (dueAt a b y (fs.take (i + 1))) τ' σ L ∧ m' "met" = some (.lst [.ref a0, .ref a1, .ref a2, .ref a3, .ref a4, .ref a5]) := fun ho =>
      ⟨m, _, τ, rfl, ⟨fun j hj => (hsix.at_ j hj).trans (by rw [htake, dueAt_snoc, ho]; simp), hsix.res⟩, hmet⟩
    refine XS_if (T_and (T_Compare (E_Sub (E_c 1 ?_))))
    refine E_int ⟨Sbs.lst, get_lst (p := .str a) (by decide) (by decide) rfl ?_⟩
    refine E_c 3 (not_in_ss (truthy_bool ?_))
    cases hs1 : subOf g a with
    | true =>
      refine XS_nil (XS_nil ?_)
      subst hK₂
      exact skip (by unfold avoids; rw [hs1]; rfl)
    | false =>
    refine T_Compare (E_Sub (E_c 1 ?_))
    refine E_int ⟨Sbs.lst, get_lst (p := .str b) (by decide) (by decide) rfl ?_⟩
    refine E_c 3 (not_in_ss (truthy_bool ?_))
    cases hs2 : subOf g b with
    | true =>
      refine XS_nil (XS_nil ?_)
      subst hK₂
      exact skip (by unfold avoids; rw [hs1, hs2]; rfl)
    | false =>
    have hav : avoids a b g = true := by unfold avoids; rw [hs1, hs2]; rfl
    obtain ⟨j, hj, hj6⟩ := endsL_ne (f := g) hy hyy
    refine XS_Makes T (inums 0 3) (fun _ => True) (intsL ((endsL a b y g).map fun n : Nat => (n : Int))) ?_
    refine E_Call [] (kp := .machine) (E_tn T D.B (n := "range") (by simp) ?_)
    refine EL_cons (E_int ?_)
    refine EL_nil (EK_nil ⟨KP_typ, C_range1 T ⟨_, _, _, rfl, Itbl.rng0 (n := 3) (by decide), trivial, Makes2 T (fun _ => inums 0 2) (fun _ => .rng 0 2) (kE a b y g) vE (ends_eq a b y g) ?_ (fun _ _ _ _ _ _ => trivial) (fun _ _ _ _ _ _ => trivial) (Src2 := fun _ => True) (fun D' L' e1 e2 p hp acc m hm => ?_) (fun D' L' e1 e2 => ⟨fun p hp q hq acc m hm1 hm2 => ?_, fun p hp q hq hk acc m hm1 hm2 => ?_⟩), ?_⟩⟩)
    · unfold intsL
      rw [List.length_map, List.length_map]
      have := endsL_len a b y g
      exact Nat.le_trans (by assumption) (by decide)
    · refine E_Call [] (kp := .machine) (E_tn T D.B (n := "range") (by simp) ?_)
      exact EL_cons (E_int (EL_nil (EK_nil ⟨KP_typ, C_range1 T ⟨rfl, rfl, Itbl.rng0 (n := 2) (by decide)⟩⟩)))
    · obtain ⟨q1, hi⟩ := List.getElem?_of_mem hp
      obtain ⟨hi2, rfl⟩ := int_at hi
      obtain ⟨q2, hj⟩ := List.getElem?_of_mem hq
      obtain ⟨hj2, rfl⟩ := int_at hj
      refine CI_one (T_Compare (E_SliceStr T (E_BinOp (E_f 3 e1 e2 ?_))))
      refine E_SliceStr T (E_f 2 e1 e2 ?_)
      refine EP_none (EP_some (E_BinOp (E_m ?_ hm1)))
      refine E_int (add_ii ⟨_, rfl, _, rfl, by exact z9 (by assumption) (by decide), ?_⟩)
      rw [show ((0 : Int) + (q1 : Nat)) + 1 = ((q1 + 1 : Nat) : Int) by lia, slc_to]
      refine add_ss (by rw [List.length_take]; lia) ?_
      refine EP_some (E_USub (E_int ⟨rfl, _, rfl, ?_⟩))
      refine EP_none ⟨_, rfl, by rw [List.length_append, List.length_take]; lia, ?_⟩
      rw [show (-3 : Int) = -((3 : Nat) : Int) by rfl, slc_back (by decide)]
      refine E_Sub (E_f 1 e1 e2 ?_)
      refine E_m ?_ hm2
      have hg : (stsL [a, b])[((0 : Int) + (q2 : Nat)).toNat]? = some (.str (wAt a b q2)) := by
        have : q2 = 0 ∨ q2 = 1 := by lia
        rcases this with rfl | rfl <;> rfl
      refine ⟨Sbs.lst, get_lst (by exact z1 _) (by exact z3 (by assumption) (by decide)) hg (eq_ss (truthy_bool ⟨rfl, ?_⟩))⟩
      show _ = decide (last3 (g ++ y.take (((0 : Int) + (q1 : Nat)).toNat + 1)) = wAt a b ((0 : Int) + (q2 : Nat)).toNat)
      rw [show ((0 : Int) + (q1 : Nat)).toNat = q1 by exact z0 _, show ((0 : Int) + (q2 : Nat)).toNat = q2 by exact z0 _]
      rfl
    · obtain ⟨q1, hi⟩ := List.getElem?_of_mem hp
      obtain ⟨hi2, rfl⟩ := int_at hi
      obtain ⟨q2, hj⟩ := List.getElem?_of_mem hq
      obtain ⟨hj2, rfl⟩ := int_at hj
      refine E_BinOp (E_BinOp (E_int (E_m ?_ hm2)))
      refine mul_ii ?_ (.of_left (intBits_le_64 (by decide) (by decide)))
      refine E_m ?_ hm1
      refine add_ii ⟨rfl, ?_⟩
      show PV.int _ = PV.int ((3 * ((0 : Int) + (q2 : Nat)).toNat + ((0 : Int) + (q1 : Nat)).toNat : Nat) : Int)
      rw [show 3 * ((0 : Int) + (q2 : Nat)) + (0 + (q1 : Nat)) = ((3 * ((0 : Int) + (q2 : Nat)).toNat + ((0 : Int) + (q1 : Nat)).toNat : Nat) : Int) by rw [Int.zero_add, Int.zero_add]; rfl]
    · refine XS_expr (E_Meth [] (kp := .machine) (E_Sub (E_l ?_ ((fset_ne (by decide)).trans hmet))))
      refine E_Sub (E_l ?_)
      have hh : (intsL ((endsL a b y g).map fun n : Nat => (n : Int)))[(0 : Int).toNat]? = some (.int (j : Int)) := by
        unfold intsL
        rw [List.getElem?_map, List.getElem?_map]
        show Option.map _ (Option.map _ ((endsL a b y g)[0]?)) = _
        rw [← List.head?_eq_getElem?, hj]; rfl
      refine E_int ⟨Sbs.lst, get_lst (by decide) (by decide) hh ?_⟩
      have hm6 : ([.ref a0, .ref a1, .ref a2, .ref a3, .ref a4, .ref a5] : List PV)[((j : Nat) : Int).toNat]? = some (.ref (ad6 a0 a1 a2 a3 a4 a5 j)) := by
        rw [Int.toNat_natCast]
        rcases cases6 hj6 with rfl | rfl | rfl | rfl | rfl | rfl <;> rfl
      refine ⟨Sbs.lst, get_lst (by exact Int.natCast_nonneg _) (by exact z2 (by assumption) (by decide)) hm6 ?_⟩
      have hat : ∀ {m' : Str → Option PV}, fcs τ L m' [some (.lst (stsL ls)), some (.lst (stsL [a, b])), some (.str y), some (.str g)] (ad6 a0 a1 a2 a3 a4 a5 j) = some (.list (stsL (dueAt a b y (fs.take i) j))) := fun {m'} => (fcs_gt (had j hj6)).trans (hsix.at_ j hj6)
      refine GM_ref hat PySem.F.slot_list_append PySem.F.type_list_append ?_
      refine EL_cons (E_c 3 ?_)
      refine EL_nil (EK_nil ⟨KP_blt, C_append T hat (Nat.le_trans (hzD i j) (by decide)) ?_⟩)
      rw [fcs_gt' (had j hj6), show stsL (dueAt a b y (fs.take i) j) ++ [PV.str g] = stsL (dueAt a b y (fs.take i) j ++ [g]) by unfold stsL; simp]
      refine ⟨rfl, XS_nil (XS_nil ?_)⟩
      subst hK₂
      refine ⟨_, _, _, rfl, ?_, (fset_ne (by decide)).trans hmet⟩
      have := hsix.app (l := dueAt a b y (fs.take i) j ++ [g]) inj hj6 (Nat.le_trans (Nat.le_add_right L 4) (Nat.le_of_lt (had j hj6)))
      refine ⟨fun i' hi' => (this.at_ i' hi').trans ?_, this.res⟩
      rw [htake, dueAt_snoc, hav, hj]
      by_cases e : i' = j
      · subst e; rw [if_pos rfl]; simp
      · rw [if_neg e, if_neg (by simpa using fun z => e z.symm), List.append_nil]
  · rintro σ' ⟨m, c3, τ, rfl, hsix, hmet⟩
    unfold stsL at hsix
    rw [List.length_map, List.take_length] at hsix
    exact XS_nil ⟨rfl, m, c3, τ, rfl, hsix, hmet⟩
  rintro _ ⟨m, c3, τ, rfl, hsix, hmet⟩
  have hat : ∀ j, j < 6 → fcs τ L m [some (.lst (stsL ls)), some (.lst (stsL [a, b])), some (.str y), c3] (ad6 a0 a1 a2 a3 a4 a5 j) = some (.list (stsL (dueAt a b y fs j))) := fun j hj => (fcs_gt (had j hj)).trans (hsix.at_ j hj)
  have hz : ∀ j, (stsL (dueAt a b y fs j)).length ≤ 8 := fun j => by
    unfold stsL
    rw [List.length_map]
    exact Nat.le_trans (dueAt_len ..) hnum
  have z0 := hz 0
  have z1 := hz 1
  have z2 := hz 2
  have z3 := hz 3
  have z4 := hz 4
  have z5 := hz 5
  refine XS_ret (E_BinOp (E_BinOp (E_BinOp (E_BinOp (E_BinOp (E_Sub (E_l ?_ hmet)))))))
  refine E_int ⟨Sbs.lst, get_lst (p := .ref a0) (by decide) (by decide) rfl ?_⟩
  refine E_Sub (E_l ?_ hmet)
  refine E_int ⟨Sbs.lst, get_lst (p := .ref a1) (by decide) (by decide) rfl ?_⟩
  refine add_LL T (.inr ⟨a0, rfl, hat 0 (by decide)⟩) (.inr ⟨a1, rfl, hat 1 (by decide)⟩) (by lia) ?_
  refine E_Sub (E_l ?_ hmet)
  refine E_int ⟨Sbs.lst, get_lst (p := .ref a2) (by decide) (by decide) rfl ?_⟩
  refine add_LL T (.inl rfl) (.inr ⟨a2, rfl, hat 2 (by decide)⟩) (by rw [List.length_append]; lia) ?_
  refine E_Sub (E_l ?_ hmet)
  refine E_int ⟨Sbs.lst, get_lst (p := .ref a3) (by decide) (by decide) rfl ?_⟩
  refine add_LL T (.inl rfl) (.inr ⟨a3, rfl, hat 3 (by decide)⟩) (by rw [List.length_append, List.length_append]; lia) ?_
  refine E_Sub (E_l ?_ hmet)
  refine E_int ⟨Sbs.lst, get_lst (p := .ref a4) (by decide) (by decide) rfl ?_⟩
  refine add_LL T (.inl rfl) (.inr ⟨a4, rfl, hat 4 (by decide)⟩) (by rw [List.length_append, List.length_append, List.length_append]; lia) ?_
  refine E_Sub (E_l ?_ hmet)
  refine E_int ⟨Sbs.lst, get_lst (p := .ref a5) (by decide) (by decide) rfl ?_⟩
  refine add_LL T (.inl rfl) (.inr ⟨a5, rfl, hat 5 (by decide)⟩) (by rw [List.length_append, List.length_append, List.length_append, List.length_append]; lia) ?_
  show K _ _
  rw [fcs_resr, hsix.res]
  have e : dueL ls a b y n = dueAt a b y fs 0 ++ dueAt a b y fs 1 ++ dueAt a b y fs 2 ++ dueAt a b y fs 3 ++ dueAt a b y fs 4 ++ dueAt a b y fs 5 := by
    unfold dueL
    rw [hfs, show List.range 6 = [0, 1, 2, 3, 4, 5] from rfl]
    simp only [List.flatMap_cons, List.flatMap_nil, List.append_nil, List.append_assoc]
  rw [e] at h
  unfold stsL at h ⊢
  simp only [List.map_append] at h
  exact h
end
end Mine
end
section
set_option tactic.hygienic false
set_option hygiene false
set_option maxRecDepth 100000
namespace Mine
noncomputable def marksT : List Int := [34, 92, 35, 32, 9, 172, 174, 846, 848, 6149, 6151, 6154, 6158, 8202, 8206, 8287, 8289, 65023, 65040, 65278, 65280]
structure Drawn3 where
  (f s t : Nat)
section
variable (d : Drawn3)
noncomputable def dL : List Nat := [97 + d.f % 26]
noncomputable def dM : List Nat := [(marksT.getD (d.f / 26 % 21) 0).toNat]
noncomputable def dLs : List (List Nat) := [dL d, dM d]
noncomputable def d0 : Nat := d.s % 8
noncomputable def d1 : Nat := (d.s % 8 + 1 + d.s / 8 % 7) % 8
noncomputable def wordD (n : Nat) : List Nat := ((List.range 3).map fun i => (dLs d).getD (n / 2 ^ (2 - i) % 2) []).flatten
noncomputable def dA : List Nat := wordD d (d0 d)
noncomputable def dB : List Nat := wordD d (d1 d)
noncomputable def dLow : Nat := d.f / 546 % 21
noncomputable def five : List (List Nat) := [dL d, dM d, dA d, dB d, dA d]
noncomputable def typedD (k : Nat) : List Nat := typedL ((five d).getD k []) (d.t + 13 * k)
noncomputable def whiteD (k : Nat) : List Nat := [([10, 9, 13, 32] : List Nat).getD ((d.t + k) % 4) 0]
noncomputable def wholeTo (k : Nat) : List Nat := (List.range k).flatMap fun k => writtenL (typedD d k) (d.s / 56 / 4 ^ k % 4) (whiteD d k)
noncomputable def typedTo (k : Nat) : List (List Nat) := (List.range k).map (typedD d)
noncomputable def wholeD : List Nat := (wholeTo d 5).take ((wholeTo d 5).length - 1)
end
theorem typedL_len (w : List Nat) (n : Nat) : (typedL w n).length ≤ 2 * w.length := (partsT_len w n w.length).2
theorem typedL_pos (w : List Nat) (n : Nat) (h : 0 < w.length) : 0 < (typedL w n).length := by
  obtain ⟨m, hm⟩ : ∃ m, w.length = m + 1 := ⟨w.length - 1, by lia⟩
  unfold typedL
  rw [hm, partsT_succ, List.flatten_append, List.length_append]
  unfold partT
  rw [List.flatten_cons, List.length_append, signT_len]; lia
theorem marks_ok : ∀ j : Fin 21, ∃ t : Int, marksT[j.val]? = some t ∧ 0 ≤ t ∧ t < 1000000 := by decide
theorem wordD_len (d : Drawn3) (n : Nat) : (wordD d n).length = 3 := by
  have h : ∀ j, j < 2 → ((dLs d).getD j []).length = 1 := fun j hj => by
    have : j = 0 ∨ j = 1 := by lia
    rcases this with rfl | rfl <;> rfl
  unfold wordD
  rw [show List.range 3 = [0, 1, 2] from rfl]
  simp only [List.map_cons, List.map_nil, List.flatten_cons, List.flatten_nil, List.length_append, List.length_nil]
  rw [h _ (Nat.mod_lt _ (by decide)), h _ (Nat.mod_lt _ (by decide)), h _ (Nat.mod_lt _ (by decide))]
theorem five_ok (d : Drawn3) (k : Nat) (hk : k < 5) : ∃ w, (five d)[k]? = some w ∧ (five d).getD k [] = w ∧ 0 < w.length ∧ w.length ≤ 3 := by
  have : k = 0 ∨ k = 1 ∨ k = 2 ∨ k = 3 ∨ k = 4 := by lia
  rcases this with rfl | rfl | rfl | rfl | rfl
  · exact ⟨_, rfl, rfl, by simp [dL], by simp [dL]⟩
  · exact ⟨_, rfl, rfl, by simp [dM], by simp [dM]⟩
  · exact ⟨_, rfl, rfl, by unfold dA; rw [wordD_len]; decide, by unfold dA; rw [wordD_len]; decide⟩
  · exact ⟨_, rfl, rfl, by unfold dB; rw [wordD_len]; decide, by unfold dB; rw [wordD_len]; decide⟩
  · exact ⟨_, rfl, rfl, by unfold dA; rw [wordD_len]; decide, by unfold dA; rw [wordD_len]; decide⟩
theorem small_sign (d : Drawn3) : ∀ x ∈ five d, ∀ c ∈ x, c < 1000000 := by
  have hL : ∀ c ∈ dL d, c < 1000000 := fun c hc => by
    have := List.mem_singleton.mp hc
    lia
  have hM : ∀ c ∈ dM d, c < 1000000 := fun c hc => by
    have := List.mem_singleton.mp hc
    obtain ⟨t, h1, h2, h3⟩ := marks_ok ⟨d.f / 26 % 21, Nat.mod_lt _ (by decide)⟩
    rw [List.getD_eq_getElem?_getD, h1] at this
    have e : (some t).getD 0 = t := rfl
    rw [e] at this
    lia
  have hW : ∀ n, ∀ c ∈ wordD d n, c < 1000000 := fun n c hc => by
    unfold wordD at hc
    obtain ⟨l, h1, h2⟩ := List.mem_flatten.mp hc
    obtain ⟨i, h3, rfl⟩ := List.mem_map.mp h1
    have hm : n / 2 ^ (2 - i) % 2 = 0 ∨ n / 2 ^ (2 - i) % 2 = 1 := by lia
    rcases hm with e | e
    · rw [e] at h2; exact hL c h2
    · rw [e] at h2; exact hM c h2
  intro x hx
  unfold five at hx
  simp only [List.mem_cons, List.not_mem_nil, or_false] at hx
  rcases hx with rfl | rfl | rfl | rfl | rfl
  · exact hL
  · exact hM
  · exact hW _
  · exact hW _
  · exact hW _
end Mine
end
section
set_option tactic.hygienic false
set_option hygiene false
set_option maxRecDepth 100000
namespace Mine
noncomputable def forBody : Stmt → List Stmt
  | .For _ _ b _ _ => b
  | _ => []
noncomputable def vM6 : PV → PV
  | .int x => .int (x % 1000000)
  | p => p
noncomputable def vPair (d : Drawn3) : PV → PV
  | .int n => .str (wordD d n.toNat)
  | p => p
noncomputable def vBit (d : Drawn3) (n : Nat) : PV → PV
  | .int i => .str ((dLs d).getD (n / 2 ^ (2 - i.toNat) % 2) [])
  | p => p
theorem bits_eq (d : Drawn3) (n : Nat) : ((inums 0 3).filter fun _ => true).map (vBit d n) = stsL ((List.range 3).map fun i => (dLs d).getD (n / 2 ^ (2 - i) % 2) []) := by
  unfold inums stsL
  rw [List.filter_eq_self.mpr (fun _ _ => rfl), List.map_map, List.map_map]
  refine List.map_congr_left fun i _ => ?_
  show PV.str ((dLs d).getD (n / 2 ^ (2 - ((0 : Int) + (i : Nat)).toNat) % 2) []) = _
  rw [show ((0 : Int) + (i : Nat)).toNat = i by exact z0 _]
  rfl
theorem slc_init {α : Type} {l : List α} : slc none (some (-1)) l = l.take (l.length - 1) := by
  unfold slc
  simp only [Option.elim]
  have e : clipAt l.length (-1) = l.length - 1 := clip_neg (a := 1) (by decide)
  rw [e]; simp
theorem typedD_len (d : Drawn3) (k : Nat) (hk : k < 5) : 0 < (typedD d k).length ∧ (typedD d k).length ≤ 6 := by
  obtain ⟨w, h1, h2, h3, h4⟩ := five_ok d k hk
  unfold typedD
  rw [h2]
  exact ⟨typedL_pos _ _ h3, Nat.le_trans (typedL_len _ _) (by lia)⟩
theorem wholeTo_len (d : Drawn3) : ∀ k, k ≤ 5 → (wholeTo d k).length ≤ 16 * k
  | 0, _ => by simp [wholeTo]
  | k + 1, h => by
    have h1 := wholeTo_len d k (by lia)
    have h2 := (typedD_len d k (by lia)).2
    have h3 := writtenL_len (typedD d k) (d.s / 56 / 4 ^ k % 4) (whiteD d k) (by simp [whiteD])
    unfold wholeTo at h1 ⊢
    rw [List.range_succ, List.flatMap_append, List.length_append]
    simp only [List.flatMap_cons, List.flatMap_nil, List.append_nil]
    lia
theorem wholeTo_succ (d : Drawn3) (k : Nat) : wholeTo d (k + 1) = wholeTo d k ++ writtenL (typedD d k) (d.s / 56 / 4 ^ k % 4) (whiteD d k) := by
  unfold wholeTo
  rw [List.range_succ, List.flatMap_append]; simp
theorem typedTo_succ (d : Drawn3) (k : Nat) : typedTo d (k + 1) = typedTo d k ++ [typedD d k] := by
  unfold typedTo
  rw [List.range_succ, List.map_append]; rfl
theorem and_one (a : Nat) : Builtin.bitAnd (a : Int) 1 = ((a % 2 : Nat) : Int) := by
  rw [show (1 : Int) = ((1 : Nat) : Int) from rfl, bitAnd_pp (Int.natCast_nonneg _) (Int.natCast_nonneg _), Int.toNat_natCast, Int.toNat_natCast, Nat.and_one_is_mod]
section
variable {W : Wd} {k : Nat} {σ : Sig} {env : Env} {P : FM → Prop} {x y : List Nat}
set_option maxHeartbeats 8000000 in
theorem law_drawn_C (D : L1 W) {fa ta wa : Addr} {script : List Int} {K : PV → Sig → Prop} (F : Fn W fa "_law_drawn" (defAt 23)) (Ft : Fn W ta "_law_typed" (defAt 21)) (Gt : W.mg "_law_typed" = some (.ref ta)) (Fw : Fn W wa "_law_written" (defAt 22)) (Gw : W.mg "_law_written" = some (.ref wa))
    (hs : script.length ≤ 100000) (h : ∀ d : Drawn3, d.f < 1000000 → d.s < 1000000 → d.t < 1000000 → K (.tup [.lst (stsL (dLs d)), .lst (stsL [dA d, dB d]), .int (dLow d), .lst (stsL (typedTo d 5)), .str (wholeD d)]) σ) : CC W (k + 2) (.ref fa) [.lst (intsL script)] [] [] σ K := by
  obtain ⟨doc, pm, an, cd, ct, f1⟩ := F.fn
  have T := D.T
  refine CC_fcs T f1 [("script", .lst (intsL script), none)] 1 (bind1 (n := "script") (fun v => by rfl) ⟨rfl, rfl⟩) rfl ⟨rfl, trivial⟩ (by rfl) rfl fun (L : Nat) hL => ?_
  refine XS_setl T ?_
  refine (gen ?_ : E _ _ _ _ _ _)
  intro K₁ hK₁
  refine (E_ListM ?_ : E _ _ _ _ _ _)
  iterate 3 refine (EL_int ?_ : EL _ _ _ _ _ _ _)
  refine EL_nil ⟨by decide, fun (cl : Nat) hcl => ?_⟩
  have hLc : L + 1 < cl := fcs_fresh hcl
  subst hK₁
  refine ⟨_, _, _, fcs_gt' hLc, ?_⟩
  have hcells : ∀ {l : List PV} {m : Str → Option PV} {c}, fcs (σ.upd cl (.list l)) L m [c] cl = some (.list l) := fun {l m c} => (fcs_gt hLc).trans (upd_same _ _ _)
  refine XS_cut (fun σ' => ∃ m x y z, σ' = fcs (σ.upd cl (.list [.int x, .int y, .int z])) L m [none] ∧ m "cells" = some (.ref cl)) (X_For (q₀ := .rng 0 (script.length : Int)) T (inums 0 script.length) (fun _ => True) (fun i σ' => ∃ m x y z, σ' = fcs (σ.upd cl (.list [.int x, .int y, .int z])) L m [none] ∧ m "cells" = some (.ref cl) ∧ m "script" = some (.lst (intsL script))) ?_ (fun _ _ _ => trivial) ?_ ?_) ?_
  · refine E_Call [] (kp := .machine) (E_tn T D.B (n := "range") (by simp) ?_)
    refine EL_cons (E_Call [] (kp := .machine) (E_bn T D.B (n := "len") (by simp) ?_))
    refine EL_cons (E_l ?_)
    have hli : (intsL script).length = script.length := by unfold intsL; rw [List.length_map]
    refine EL_nil (EK_nil ⟨KP_blt, C_len_lst (by lia) ?_⟩)
    rw [hli]
    exact EL_nil (EK_nil ⟨KP_typ, C_range1 T ⟨rfl, Itbl.rng0 (by exact Nat.le_trans (by assumption) (by decide)), _, _, _, _, rfl, rfl, rfl⟩⟩)
  · rintro i p σ' hp ⟨m, x, y, z, rfl, hm1, hm2⟩
    obtain ⟨hi', rfl⟩ := int_at hp
    rw [show (0 : Int) + (i : Nat) = ((i : Nat) : Int) by exact Int.zero_add _]
    refine AT_name (S_l T ?_)
    obtain ⟨v, hv⟩ : ∃ v, script[i]? = some v := ⟨script[i], List.getElem?_eq_getElem hi'⟩
    have hvs : (intsL script)[((i : Nat) : Int).toNat]? = some (.int v) := by
      rw [Int.toNat_natCast]; unfold intsL; rw [List.getElem?_map, hv]; rfl
    have key : ∀ (j : Nat) (u : Int), i % 3 = j → j < 3 → ([.int x, .int y, .int z] : List PV)[j]? = some (.int u) → (∃ x' y' z', ([.int x, .int y, .int z] : List PV).set j (.int (u + v)) = [.int x', .int y', .int z']) →
        XS W (k + 1) (envFn (fnX (nameOf (defAt 23)) "_law_drawn" (paramsOf (defAt 23)) (bodyOf (defAt 23)) (scopeOf (defAt 23)) [] .none .none doc pm an cd ct) [] L fa) (forBody ((bodyOf (defAt 23)).getD 1 (.Pass default))) (fcs (σ.upd cl (.list [.int x, .int y, .int z])) L (fset m "i" (.int (i : Int))) [none]) fun fl σ'' => fl = .next ∧ ∃ m x y z, σ'' = fcs (σ.upd cl (.list [.int x, .int y, .int z])) L m [none] ∧ m "cells" = some (.ref cl) ∧ m "script" = some (.lst (intsL script)) := by
      intro j u hj hj3 hu ⟨x', y', z', hset⟩
      refine gen fun K₁ hK₁ => ?_
      refine XS_cons (X_AssignSub ?_)
      refine E_BinOp (E_Sub (E_l ?_ ((fset_ne (by decide)).trans hm1)))
      refine E_BinOp (E_l (E_int (mod_ii (by decide) ?_)))
      rw [show ((i : Nat) : Int) % 3 = (j : Int) by lia]
      refine ⟨Sbs.ref hcells, get_ref hcells (by exact Int.natCast_nonneg _) (by exact z2 (by assumption) (by decide)) (by rw [Int.toNat_natCast]; exact hu) ?_⟩
      refine E_Sub (E_l ?_ ((fset_ne (by decide)).trans hm2))
      refine E_l ?_
      refine ⟨Sbs.lst, get_lst (by exact Int.natCast_nonneg _) (by lia) hvs (add_ii ?_)⟩
      refine E_l ?_ ((fset_ne (by decide)).trans hm1)
      refine E_BinOp (E_l (E_int (mod_ii (by decide) ?_)))
      rw [show ((i : Nat) : Int) % 3 = (j : Int) by lia]
      refine set_ref T hcells (by exact Int.natCast_nonneg _) (by show (j : Int) < ((3 : Nat) : Int); exact z2 (by assumption) (by decide)) (by exact z2 (by assumption) (by decide)) ?_
      rw [fcs_gt' hLc, upd_upd, Int.toNat_natCast, hset]
      refine XS_nil ?_
      subst hK₁
      exact ⟨rfl, _, _, _, _, rfl, (fset_ne (by decide)).trans hm1, (fset_ne (by decide)).trans hm2⟩
    have : i % 3 = 0 ∨ i % 3 = 1 ∨ i % 3 = 2 := by lia
    rcases this with e | e | e
    · exact (key 0 x e (by decide) rfl ⟨_, _, _, rfl⟩).imp fun fl σ'' ⟨e, q⟩ => by subst e; exact q
    · exact (key 1 y e (by decide) rfl ⟨_, _, _, rfl⟩).imp fun fl σ'' ⟨e, q⟩ => by subst e; exact q
    · exact (key 2 z e (by decide) rfl ⟨_, _, _, rfl⟩).imp fun fl σ'' ⟨e, q⟩ => by subst e; exact q
  · rintro σ' ⟨m, x, y, z, rfl, hm1, hm2⟩
    exact XS_nil ⟨rfl, m, x, y, z, rfl, hm1⟩
  rintro _ ⟨m, x, y, z, rfl, hm1⟩
  refine XS_cons (X_AssignTup (E_Makes T [.int x, .int y, .int z] (fun σ => σ cl = some (.list [.int x, .int y, .int z])) [.int (x % 1000000), .int (y % 1000000), .int (z % 1000000)] (E_l ?_ hm1)))
  refine ⟨Itbl.ref, hcells, Makes1 T (fun _ => true) vM6 rfl (by simp) (fun D' L' e1 e2 acc m => ins_old e1 e2 hcells) (fun D' L' e1 e2 => ⟨fun p hp acc m => CI_nil ⟨rfl, rfl⟩, fun p hp _ acc m => ?_⟩), ?_⟩
  · obtain ⟨v, rfl⟩ : ∃ v, p = .int v := by
      simp only [List.mem_cons, List.not_mem_nil, or_false] at hp
      rcases hp with rfl | rfl | rfl <;> exact ⟨_, rfl⟩
    refine E_BinOp (E_m ?_ (fset_same _ _ _))
    refine (E_BinOp ?_ : E _ _ _ _ _ _)
    refine (E_int ?_ : E _ _ _ _ _ _)
    refine (E_int ?_ : E _ _ _ _ _ _)
    refine pow_ii (by decide) (by decide) ?_
    exact mod_ii (by decide) ⟨rfl, rfl⟩
  refine AT_lst T rfl ?_
  refine AT_name (S_l T ?_)
  refine AT_name (S_l T ?_)
  refine AT_name (S_l T ?_)
  obtain ⟨f, hf⟩ : ∃ f : Nat, x % 1000000 = f := ⟨(x % 1000000).toNat, by lia⟩
  obtain ⟨s, hs'⟩ : ∃ s : Nat, y % 1000000 = s := ⟨(y % 1000000).toNat, by lia⟩
  obtain ⟨t, ht⟩ : ∃ t : Nat, z % 1000000 = t := ⟨(z % 1000000).toNat, by lia⟩
  rw [hf, hs', ht]
  obtain ⟨d, rfl, rfl, rfl⟩ : ∃ d : Drawn3, d.f = f ∧ d.s = s ∧ d.t = t := ⟨⟨f, s, t⟩, rfl, rfl, rfl⟩
  have hf6 : d.f < 1000000 := by lia
  have hs6 : d.s < 1000000 := by lia
  have ht6 : d.t < 1000000 := by lia
  have hfin := h d hf6 hs6 ht6
  clear hf hs' ht h
  generalize hτ : σ.upd cl (.list [.int x, .int y, .int z]) = τ
  have hτr : res L τ = σ := by rw [← hτ, res_upd_ge (show L ≤ cl by lia), res_fresh hL]
  have hτn : ∀ b : Nat, cl < b → τ b = none := fun b hb => by
    rw [← hτ, upd_ne (show b ≠ cl by exact Nat.ne_of_gt (by assumption))]
    exact hL b (show L ≤ b by lia)
  refine XS_setl T ?_
  refine (gen ?_ : E _ _ _ _ _ _)
  intro K₁ hK₁
  refine (E_List ?_ : E _ _ _ _ _ _)
  iterate 21 refine (EL_int ?_ : EL _ _ _ _ _ _ _)
  refine EL_nil ⟨by decide, ?_⟩
  subst hK₁
  refine ⟨_, _, _, rfl, ?_⟩
  refine XS_setc T 0 ?_
  refine (gen ?_ : E _ _ _ _ _ _)
  intro K₁ hK₁
  refine (E_List ?_ : E _ _ _ _ _ _)
  refine (EL_cons' ?_ ?_ : EL _ _ _ _ _ _ _)
  · rfl
  refine E_Call [] (kp := .machine) (E_bn T D.B (n := "chr") (by simp) ?_)
  refine (EL_cons' ?_ ?_ : EL _ _ _ _ _ _ _)
  · rfl
  refine (E_BinOp ?_ : E _ _ _ _ _ _)
  refine (E_int ?_ : E _ _ _ _ _ _)
  refine E_BinOp (E_l ?_)
  refine E_int (mod_ii (by decide) (add_ii ?_))
  refine EL_nil (EK_nil ⟨KP_blt, C_chr (by lia) (by lia) ?_⟩)
  rw [show ((97 : Int) + (d.f : Int) % 26).toNat = 97 + d.f % 26 by lia]
  refine EL_cons (E_Call [] (kp := .machine) (E_bn T D.B (n := "chr") (by simp) ?_))
  refine EL_cons (E_Sub (E_l ?_))
  refine E_BinOp (E_BinOp (E_l ?_))
  refine E_int (div_ii (by decide) (by decide) (E_int (mod_ii (by decide) ?_)))
  obtain ⟨t, ht1, ht2, ht3⟩ := marks_ok ⟨d.f / 26 % 21, Nat.mod_lt _ (by decide)⟩
  have ht1 : marksT[d.f / 26 % 21]? = some t := ht1
  refine ⟨Sbs.lst, get_lst (p := .int t) (by lia) (by lia) ?_ ?_⟩
  · rw [show ((d.f : Int) / 26 % 21).toNat = d.f / 26 % 21 by lia]
    show (marksT.map PV.int)[d.f / 26 % 21]? = _
    rw [List.getElem?_map, ht1]; rfl
  refine EL_nil (EK_nil ⟨KP_blt, C_chr (by assumption) (by lia) ?_⟩)
  have hdM : dM d = [t.toNat] := by unfold dM; rw [List.getD_eq_getElem?_getD, ht1]; rfl
  refine EL_nil ⟨by simp, ?_⟩
  subst hK₁
  refine ⟨_, _, _, rfl, by simp [bc'], ?_⟩
  rw [show ([.str [97 + d.f % 26], .str [t.toNat]] : List PV) = stsL (dLs d) by unfold dLs; rw [hdM]; rfl]
  refine (?_ : XS W _ _ _ (fcs τ L _ [some (.lst (stsL (dLs d)))]) _)
  refine XS_setl T ?_
  refine (gen ?_ : E _ _ _ _ _ _)
  intro K₁ hK₁
  refine (E_List ?_ : E _ _ _ _ _ _)
  refine EL_cons (E_BinOp (E_l ?_))
  refine E_int (mod_ii (by decide) ?_)
  refine EL_cons (E_BinOp (E_BinOp (E_BinOp (E_BinOp (E_l ?_)))))
  refine E_int (mod_ii (by decide) (E_int (add_ii ?_)))
  refine E_BinOp (E_BinOp (E_l ?_))
  refine E_int (div_ii (by decide) (by decide) (E_int (mod_ii (by decide) (add_ii (E_int (mod_ii (by decide) ?_))))))
  refine EL_nil ⟨by simp, ?_⟩
  rw [show (d.s : Int) % 8 = (d0 d : Nat) by unfold d0; lia, show (((d0 d : Nat) : Int) + 1 + (d.s : Int) / 8 % 7) % 8 = (d1 d : Nat) by unfold d0 d1; push_cast; rfl]
  subst hK₁
  refine ⟨_, _, _, rfl, ?_⟩
  refine XS_Makes T [.int (d0 d : Nat), .int (d1 d : Nat)] (fun _ => True) (stsL [dA d, dB d]) (E_l ?_)
  refine ⟨_, _, _, rfl, Itbl.lst, trivial, Makes1c T (vPair d) rfl (by simp) (fun _ _ _ _ _ _ _ => trivial) (fun (D' : Nat) (L' : Nat) e1 e2 p hp acc m' => ?_), ?_⟩
  · obtain ⟨n, rfl, hn8⟩ : ∃ n : Nat, p = .int n ∧ n < 8 := by
      simp only [List.mem_cons, List.not_mem_nil, or_false] at hp
      rcases hp with rfl | rfl
      · exact ⟨_, rfl, Nat.mod_lt _ (by decide)⟩
      · exact ⟨_, rfl, Nat.mod_lt _ (by decide)⟩
    have hLD : L + 1 < D' := fcs_fresh e1
    refine (EE.h ?_ : E _ _ _ _ _ _)
    refine EE_Meth [] (kp := .machine) (E_strL [] (GM_str PySem.F.slot_str_join PySem.F.type_str_join ?_))
    refine (EL_cons' ?_ ?_ : EL _ _ _ _ _ _ _)
    · rfl
    refine E_Makes T (inums 0 3) (fun _ => True) (stsL ((List.range 3).map fun i => (dLs d).getD (n / 2 ^ (2 - i) % 2) [])) ?_
    refine E_Call [] (kp := .machine) (E_tn T D.B (n := "range") (by simp) ?_)
    refine EL_cons (E_int (EL_nil (EK_nil ⟨KP_typ, C_range1 T ⟨Itbl.rng0 (n := 3) (by decide), trivial, Makes1 T (fun _ => true) (vBit d n) (bits_eq d n) (by rw [inums_len]; decide) (fun _ _ _ _ _ _ => trivial) (fun (D2 : Nat) (L2 : Nat) g1 g2 => ⟨fun p hp acc m => CI_nil ⟨rfl, rfl⟩, fun p hp _ acc2 m2 => ?_⟩), ?_⟩⟩)))
    · obtain ⟨i, hi⟩ := List.getElem?_of_mem hp
      obtain ⟨hi2, rfl⟩ := int_at hi
      refine E_Sub (E_name (L_cell (c := L + 1) (p := .lst (stsL (dLs d))) rfl rfl rfl (ins_old g1 g2 ((fcs_lt (show L + 1 < L' by lia)).trans ((upd_ne (show L + 1 ≠ D' by exact Nat.ne_of_lt (by assumption))).trans (fcs_c (i := 0) rfl)))) ?_) (by decide))
      refine E_BinOp (E_BinOp (E_f 0 g1 g2 ?_))
      refine E_BinOp (E_int (E_m ?_ (fset_same _ _ _)))
      refine sub_ii (shr_ii (by lia) ?_)
      have e3 : ((n : Nat) : Int) / 2 ^ ((2 : Int) - (0 + (i : Nat))).toNat = ((n / 2 ^ (2 - i) : Nat) : Int) := by
        rw [show ((2 : Int) - (0 + (i : Nat))).toNat = 2 - i by lia]
        simp
      rw [e3]
      refine E_int (and_ii ?_)
      rw [and_one]
      have hb2 : n / 2 ^ (2 - i) % 2 < 2 := Nat.mod_lt _ (by decide)
      refine ⟨Sbs.lst, get_lst (p := .str ((dLs d).getD (n / 2 ^ (2 - i) % 2) [])) (by exact Int.natCast_nonneg _) (by exact z2 (by assumption) (by decide)) ?_ ⟨rfl, ?_⟩⟩
      · rw [Int.toNat_natCast]
        have : n / 2 ^ (2 - i) % 2 = 0 ∨ n / 2 ^ (2 - i) % 2 = 1 := by lia
        rcases this with e | e <;> (rw [e]; rfl)
      · show _ = PV.str ((dLs d).getD (n / 2 ^ (2 - ((0 : Int) + (i : Nat)).toNat) % 2) [])
        rw [show ((0 : Int) + (i : Nat)).toNat = i by exact z0 _]
    · have hw : jn [] ((List.range 3).map fun i => (dLs d).getD (n / 2 ^ (2 - i) % 2) []) = wordD d n := by rw [jn_nil]; rfl
      have hl3 := wordD_len d n
      refine EL_nil (EK_nil ⟨KP_blt, C_join (by unfold lens; rw [lens_nil, ← jn_nil, hw]; lia) ⟨rfl, ?_⟩⟩)
      rw [hw]; rfl
  refine XS_cons (X_AssignSwap T ["typed", "whole"] (?_ : E _ _ _ _ _ _))
  refine (E_Tuple ?_ : E _ _ _ _ _ _)
  refine (EL_cons' ?_ ?_ : EL _ _ _ _ _ _ _)
  · rfl
  refine (E_ListM ?_ : E _ _ _ _ _ _)
  refine EL_nil ⟨by simp, fun (tl : Nat) htl => ?_⟩
  have hLt : L + 1 < tl := fcs_fresh htl
  have hct : cl < tl := by
    rcases Nat.lt_or_ge cl tl with q | q
    · exact q
    · have := htl cl q
      rw [fcs_gt (show L + 1 < cl from hLc), ← hτ, upd_same] at this
      cases this
  rw [fcs_gt' hLt]
  refine (EL_strL [] ?_ ?_ : EL _ _ _ _ _ _ _)
  · decide +kernel
  refine EL_nil ⟨by simp, _, rfl, rfl, ?_⟩
  refine S_l T (S_l T ?_)
  have htl2 : ∀ {l : List PV} {m : Str → Option PV} {c}, fcs (τ.upd tl (.list l)) L m [c] tl = some (.list l) := fun {l m c} => (fcs_gt hLt).trans (upd_same _ _ _)
  have hzl : ∀ i, i ≤ 5 → (stsL (typedTo d i)).length = i := fun i _ => by unfold stsL typedTo; rw [List.length_map, List.length_map, List.length_range]
  have hpd : ∀ l : List (List Nat), l = [dA d, dB d] → (stsL (dLs d) ++ stsL l ++ stsL l) = stsL (dLs d ++ l ++ l) := fun l _ => by unfold stsL; simp
  refine XS_cut (fun σ' => ∃ m, σ' = fcs (τ.upd tl (.list (stsL (typedTo d 5)))) L m [some (.lst (stsL (dLs d)))] ∧ m "typed" = some (.ref tl) ∧ m "whole" = some (.str (wholeTo d 5)) ∧ m "pair" = some (.lst (stsL [dA d, dB d])) ∧ m "first" = some (.int (d.f : Int)))
    (X_For (q₀ := .rng 0 5) T (inums 0 5) (fun _ => True) (fun i σ' => ∃ m, σ' = fcs (τ.upd tl (.list (stsL (typedTo d i)))) L m [some (.lst (stsL (dLs d)))] ∧ m "typed" = some (.ref tl) ∧ m "whole" = some (.str (wholeTo d i)) ∧ m "pair" = some (.lst (stsL [dA d, dB d])) ∧ m "first" = some (.int (d.f : Int)) ∧ m "second" = some (.int (d.s : Int)) ∧ m "third" = some (.int (d.t : Int)) ∧ i ≤ 5) ?_ (fun _ _ _ => trivial) ?_ ?_) ?_
  · refine E_Call [] (kp := .machine) (E_tn T D.B (n := "range") (by simp) ?_)
    exact EL_cons (E_int (EL_nil (EK_nil ⟨KP_typ, C_range1 T ⟨rfl, Itbl.rng0 (n := 5) (by decide), _, rfl, rfl, rfl, rfl, rfl, rfl, rfl, Nat.zero_le _⟩⟩)))
  · rintro i p σ' hp ⟨m, rfl, hm1, hm2, hm3, hm4, hm5, hm6, hi⟩
    obtain ⟨hi', rfl⟩ := int_at hp
    rw [show (0 : Int) + (i : Nat) = ((i : Nat) : Int) by exact Int.zero_add _]
    refine AT_name (S_l T ?_)
    refine gen fun K₁ hK₁ => ?_
    obtain ⟨w, hw1, hw2, hw3, hw4⟩ := five_ok d i hi'
    have hwm : w ∈ five d := List.mem_of_getElem? hw1
    obtain ⟨htd1, htd2⟩ := typedD_len d i hi'
    have hwl := wholeTo_len d i (by assumption)
    have hwr := writtenL_len (typedD d i) (d.s / 56 / 4 ^ i % 4) (whiteD d i) (by simp [whiteD])
    refine XS_expr (E_Meth [] (kp := .machine) (E_l ?_ ((fset_ne (by decide)).trans hm1)))
    refine GM_ref htl2 PySem.F.slot_list_append PySem.F.type_list_append ?_
    refine EL_cons (E_Call [] (kp := .frame) (E_gl T Gt ?_))
    refine EL_cons (E_Sub (E_BinOp (E_BinOp (E_c 0 ?_))))
    refine E_l ?_ ((fset_ne (by decide)).trans hm3)
    refine add_ll T (by simp [stsL, dLs]) (E_l ?_ ((fset_ne (by decide)).trans hm3))
    refine add_ll T (by simp [stsL, dLs]) (E_l ?_)
    refine ⟨Sbs.lst, get_lst (p := .str w) (by exact Int.natCast_nonneg _) (by exact z2 (by assumption) (by decide)) ?_ ?_⟩
    · rw [Int.toNat_natCast, hpd _ rfl]
      unfold stsL
      rw [List.getElem?_map]
      have hi5 : i = 0 ∨ i = 1 ∨ i = 2 ∨ i = 3 ∨ i = 4 := by lia
      rcases hi5 with rfl | rfl | rfl | rfl | rfl <;> exact congrArg (Option.map PV.str) hw1
    refine EL_cons (E_BinOp (E_l ?_ ((fset_ne (by decide)).trans hm6)))
    refine E_BinOp (E_int (E_l ?_))
    refine mul_ii ?_ (.of_left (intBits_le_64 (by decide) (by decide)))
    refine add_ii ?_
    rw [show (d.t : Int) + 13 * (i : Int) = ((d.t + 13 * i : Nat) : Int) by lia]
    refine EL_nil (EK_nil ⟨FnC.kp Ft, (law_typed_C (k := k) D Ft (by exact Nat.le_trans (by assumption) (by decide)) (fun c hc => small_sign d w hwm c hc) ?_).call⟩)
    refine EL_nil (EK_nil ⟨KP_blt, C_append T htl2 (by rw [hzl i (by assumption)]; exact Nat.le_trans (by assumption) (by decide)) ?_⟩)
    rw [fcs_gt' hLt, upd_upd, show stsL (typedTo d i) ++ [PV.str (typedL w (d.t + 13 * i))] = stsL (typedTo d (i + 1)) by rw [typedTo_succ]; unfold stsL typedD; rw [hw2, List.map_append]; rfl]
    refine ⟨rfl, ?_⟩
    refine XS_setl T (E_BinOp (E_l ?_ ((fset_ne (by decide)).trans hm2)))
    refine E_Call [] (kp := .frame) (E_gl T Gw ?_)
    refine EL_cons (E_Sub (E_l ?_ ((fset_ne (by decide)).trans hm1)))
    refine E_l ?_
    refine ⟨Sbs.ref htl2, get_ref (p := .str (typedD d i)) htl2 (by exact Int.natCast_nonneg _) (by exact z2 (by assumption) (by decide)) ?_ ?_⟩
    · rw [Int.toNat_natCast]
      unfold stsL typedTo
      rw [List.getElem?_map, List.getElem?_map, List.getElem?_range (by lia)]; rfl
    refine EL_cons (E_BinOp (E_BinOp (E_BinOp (E_l ?_ ((fset_ne (by decide)).trans hm5)))))
    refine E_int (div_ii (by decide) (by decide) ?_)
    refine (E_BinOp ?_ : E _ _ _ _ _ _)
    refine (E_int ?_ : E _ _ _ _ _ _)
    refine E_l ?_
    have hb4 : Builtin.Int.intBits 4 ≤ 64 := intBits_le_64 (by decide) (by decide)
    have hi4 : (Builtin.Int.intBits 4 : Int) = 3 := by decide +kernel
    have h27 : (2 : Int) ^ 27 = 134217728 := by decide
    refine pow_ii (by exact Int.natCast_nonneg _) (by rw [hi4, h27]; lia) ?_
    rw [Int.toNat_natCast]
    have hp4 : (4 : Int) ^ i = ((4 ^ i : Nat) : Int) := by simp
    have hp5 : (4 : Nat) ^ i ≤ 1024 := Nat.le_trans (Nat.pow_le_pow_right (by decide) (show i ≤ 5 by assumption)) (by decide)
    have hp6 : 0 < (4 : Nat) ^ i := Nat.pow_pos (by decide)
    rw [hp4]
    refine div_ii (by lia) (by lia) (E_int (mod_ii (by decide) ?_))
    rw [show (d.s : Int) / 56 / ((4 ^ i : Nat) : Int) % 4 = ((d.s / 56 / 4 ^ i % 4 : Nat) : Int) by push_cast; rfl]
    refine (EL_cons' ?_ ?_ : EL _ _ _ _ _ _ _)
    · rfl
    refine (E_Sub' ?_ ?_ : E _ _ _ _ _ _)
    · intro _ _; rfl
    refine E_strL [10, 9, 13, 32] ?_
    refine E_BinOp (E_BinOp (E_l ?_ ((fset_ne (by decide)).trans hm6)))
    refine E_l ?_
    refine add_ii (E_int (mod_ii (by decide) ?_))
    rw [show ((d.t : Int) + (i : Int)) % 4 = (((d.t + i) % 4 : Nat) : Int) by lia]
    have h4 : (d.t + i) % 4 < ([10, 9, 13, 32] : List Nat).length := Nat.mod_lt _ (by decide)
    refine ⟨Sbs.str, get_str (c := ([10, 9, 13, 32] : List Nat).getD ((d.t + i) % 4) 0) (by exact Int.natCast_nonneg _) (by exact z2 (by assumption) (by decide)) (by rw [Int.toNat_natCast, List.getD_eq_getElem?_getD, List.getElem?_eq_getElem h4]; rfl) ?_⟩
    refine EL_nil (EK_nil ⟨FnC.kp Fw, (law_written_C (k := k) D Fw (by exact Nat.le_trans (by assumption) (by decide)) htd1 (Nat.mod_lt _ (by decide)) (by simp) ?_).call⟩)
    refine add_ss (by show _ + (writtenL (typedD d i) (d.s / 56 / 4 ^ i % 4) (whiteD d i)).length ≤ _; lia) ⟨_, _, _, rfl, XS_nil ?_⟩
    subst hK₁
    refine ⟨_, rfl, (fset_ne (by decide)).trans ((fset_ne (by decide)).trans hm1), ?_, (fset_ne (by decide)).trans ((fset_ne (by decide)).trans hm3), (fset_ne (by decide)).trans ((fset_ne (by decide)).trans hm4), (fset_ne (by decide)).trans ((fset_ne (by decide)).trans hm5), (fset_ne (by decide)).trans ((fset_ne (by decide)).trans hm6), hi'⟩
    rw [fset_same, wholeTo_succ]; rfl
  · rintro σ' ⟨m, rfl, hm1, hm2, hm3, hm4, hm5, hm6, hi⟩
    rw [inums_len] at hm2
    exact XS_nil ⟨rfl, m, rfl, hm1, hm2, hm3, hm4⟩
  rintro _ ⟨m, rfl, hm1, hm2, hm3, hm4⟩
  refine XS_ret (E_Tuple ?_)
  refine EL_cons (E_c 0 ?_)
  refine EL_cons (E_l ?_ hm3)
  refine EL_cons (E_BinOp (E_BinOp (E_l ?_ hm4)))
  refine E_int (div_ii (by decide) (by decide) (E_int (mod_ii (by decide) ?_)))
  rw [show (d.f : Int) / 546 % 21 = (dLow d : Nat) by unfold dLow; lia]
  refine EL_cons (E_freeze (E_l ⟨tl, _, rfl, htl2, ?_⟩ hm1))
  rw [fcs_del hLt, upd_del (hτn tl hct)]
  have hw5 := wholeTo_len d 5 (by decide)
  refine EL_cons (E_SliceStr T (E_l ?_ hm2))
  refine EP_none (EP_some (E_USub (E_int ⟨rfl, _, rfl, _, rfl, by exact Nat.le_trans (by assumption) (by decide), ?_⟩)))
  rw [slc_init]
  refine EL_nil ⟨by simp, ?_⟩
  show K _ _
  rw [fcs_resr, hτr]
  exact hfin
end
end Mine
end
section
set_option tactic.hygienic false
set_option hygiene false
set_option maxRecDepth 100000
namespace Mine
structure Prep (W : Wd) where
  ab1 : Addr
  F1 : Fn W ab1 "in_table_b1" (defAt 9)
  h1 : W.mg "in_table_b1" = some (.ref ab1)
  b1 : Addr
  hm1 : W.mg "b1_set" = some (.ref b1)
  g : Int → Bool
  S1 : SetF W b1 g
  am3 : Addr
  F3 : Fn W am3 "map_table_b3" (defAt 11)
  h3 : W.mg "map_table_b3" = some (.ref am3)
  b3 : Addr
  hm3 : W.mg "b3_exceptions" = some (.ref b3)
  f : Int → Option (List Nat)
  S3 : TabF W b3 f
  lp : Addr
  F : Fn W lp "_law_prepared" (defAt 20)
  G : W.mg "_law_prepared" = some (.ref lp)
  lw : Addr
  Fw : Fn W lw "_law_word" (defAt 24)
  Gw : W.mg "_law_word" = some (.ref lw)
  prepW : ∀ p, p < 32 → prepL f g (wordC p) = lowerL (wordC p)
noncomputable def metL (a b x : List Nat) : List Nat := (List.range 2).filter fun i => decide (last3 x = wAt a b i)
noncomputable def nameS (low s i : Nat) : List Nat := if i = 0 then lowerL (wordC (low + s - 1)) else upperL (lowerL (wordC (low + s + 5)))
noncomputable def qOf (a b : List Nat) (s : Nat) (xs : List (List Nat)) : List (List Nat) := xs.filter fun x => (metL a b x).isEmpty && decide (s < 6)
noncomputable def eOf (a b : List Nat) (low s : Nat) (xs : List (List Nat)) : List (List Nat × List Nat) := (xs.filter fun x => !(metL a b x).isEmpty).map fun x => (nameS low s ((metL a b x).headD 0), x)
noncomputable def candL (ls ts : List (List Nat)) : List (List Nat) := ts.flatMap fun t => ls.map fun l => t ++ l
noncomputable def queueL (ls : List (List Nat)) (a b : List Nat) : Nat → List (List Nat)
  | 0 => [[]]
  | s + 1 => qOf a b (s + 1) (candL ls (queueL ls a b s))
noncomputable def shelfL (ls : List (List Nat)) (a b : List Nat) (low : Nat) : Nat → List (List Nat × List Nat)
  | 0 => []
  | s + 1 => shelfL ls a b low s ++ eOf a b low (s + 1) (candL ls (queueL ls a b s))
theorem qOf_snoc (a b : List Nat) (s : Nat) (xs : List (List Nat)) (x : List Nat) : qOf a b s (xs ++ [x]) = qOf a b s xs ++ (if (metL a b x).isEmpty && decide (s < 6) then [x] else []) := by
  unfold qOf
  rw [List.filter_append]
  cases h : ((metL a b x).isEmpty && decide (s < 6)) <;> simp [h]
theorem eOf_snoc (a b : List Nat) (low s : Nat) (xs : List (List Nat)) (x : List Nat) : eOf a b low s (xs ++ [x]) = eOf a b low s xs ++ (if (metL a b x).isEmpty then [] else [(nameS low s ((metL a b x).headD 0), x)]) := by
  unfold eOf
  rw [List.filter_append, List.map_append]
  cases h : (metL a b x).isEmpty <;> simp [h]
theorem metL_lt {a b x : List Nat} {i : Nat} (h : i ∈ metL a b x) : i < 2 := List.mem_range.mp (List.mem_filter.mp h).1
theorem candL_len {ls : List (List Nat)} (h : ls.length = 2) : ∀ ts : List (List Nat), (candL ls ts).length = 2 * ts.length
  | [] => rfl
  | t :: ts => by
    have := candL_len h ts
    unfold candL at this ⊢
    rw [List.flatMap_cons, List.length_append, List.length_map, this, h, List.length_cons]; lia
theorem queueL_len {ls : List (List Nat)} (h : ls.length = 2) (a b : List Nat) : ∀ s, (queueL ls a b s).length ≤ 2 ^ s
  | 0 => by simp [queueL]
  | s + 1 => by
    have h1 := queueL_len h a b s
    have h2 := candL_len h (queueL ls a b s)
    unfold queueL qOf
    refine Nat.le_trans (List.length_filter_le _ _) ?_
    rw [h2, Nat.pow_succ]; lia
theorem shelfL_len {ls : List (List Nat)} (h : ls.length = 2) (a b : List Nat) (low : Nat) : ∀ s, s ≤ 6 → (shelfL ls a b low s).length ≤ 128 * s
  | 0, _ => by simp [shelfL]
  | s + 1, hs => by
    have h1 := shelfL_len h a b low s (by lia)
    have h2 := candL_len h (queueL ls a b s)
    have h3 := queueL_len h a b s
    have h4 : 2 ^ s ≤ 2 ^ 5 := Nat.pow_le_pow_right (by decide) (by lia)
    unfold shelfL
    rw [List.length_append]
    have h5 : (eOf a b low (s + 1) (candL ls (queueL ls a b s))).length ≤ (candL ls (queueL ls a b s)).length := by
      unfold eOf
      rw [List.length_map]; exact List.length_filter_le _ _
    have : (2 : Nat) ^ 5 = 32 := by decide
    lia
theorem queueL_each {ls : List (List Nat)} (h : ∀ l ∈ ls, l.length = 1) (a b : List Nat) : ∀ s, ∀ t ∈ queueL ls a b s, t.length = s
  | 0, t, ht => by simp [queueL] at ht; subst ht; rfl
  | s + 1, t, ht => by
    unfold queueL qOf candL at ht
    have h1 := (List.mem_filter.mp ht).1
    obtain ⟨t', h2, h3⟩ := List.mem_flatMap.mp h1
    obtain ⟨l, h4, rfl⟩ := List.mem_map.mp h3
    rw [List.length_append, queueL_each h a b s t' h2, h l h4]
theorem flags_one : ∀ p : Fin 32, ((List.range 32).filter fun i => (2 ^ p.val).testBit i) = [p.val] := by decide +kernel
theorem flagsL_one {p : Nat} (hp : p < 32) : flagsL (2 ^ p) = [wordC p] := by
  exact congrArg (List.map wordC) (flags_one ⟨p, hp⟩)
theorem wordC_plain : ∀ i : Fin 32, ((wordC i.val).all (· < 1114112)) = true ∧ ((lowerL (wordC i.val)).all (· < 1114112)) = true := by decide +kernel
theorem wordC_lower_len : ∀ i : Fin 32, (lowerL (wordC i.val)).length ≤ 30 ∧ (upperL (lowerL (wordC i.val))).length ≤ 30 := by decide +kernel
theorem wordC_okN : ∀ i : Fin 32, ((lowerL (wordC i.val)).all fun c => decide (32 ≤ c ∧ c ≠ 127)) = true ∧ ((upperL (lowerL (wordC i.val))).all fun c => decide (32 ≤ c ∧ c ≠ 127)) = true := by decide +kernel
theorem okN_of {x : List Nat} (h : (x.all fun c => decide (32 ≤ c ∧ c ≠ 127)) = true) : okN x := fun c hc => by
  have := List.all_eq_true.mp h c hc
  exact of_decide_eq_true this
theorem nameS_ok {low s i : Nat} (h1 : 1 ≤ s) (h : low + s + 5 < 32) : okN (nameS low s i) ∧ (nameS low s i).length ≤ 30 := by
  unfold nameS
  split
  · exact ⟨okN_of (wordC_okN ⟨low + s - 1, by lia⟩).1, (wordC_lower_len ⟨low + s - 1, by lia⟩).1⟩
  · exact ⟨okN_of (wordC_okN ⟨low + s + 5, h⟩).2, (wordC_lower_len ⟨low + s + 5, h⟩).2⟩
noncomputable def both (C : Addr) (A : LexA) (H : HdrA) (pos : Nat) (ln : Int) (pbl : List (List Nat)) (es : List (List Nat × List Nat)) (σ : Sig) : Sig := lxs C A pos pbl ln (hds H es σ)
structure BothOK (C Ch : Addr) (A : LexA) (H : HdrA) (tx : List Nat) (σ : Sig) : Prop where
  lex : LexOK C A tx σ
  hdr : HdrOK Ch H σ
  la : H.l ≠ A.a
  lb : H.l ≠ A.pb
  lp : H.l ≠ A.P
  lt : H.l ≠ A.tape
  aa : H.a ≠ A.a
  ab : H.a ≠ A.pb
  ap : H.a ≠ A.P
section
variable {C Ch : Addr} {A : LexA} {H : HdrA} {tx : List Nat} {pos : Nat} {ln : Int} {pbl pbl' : List (List Nat)} {es es' : List (List Nat × List Nat)} {σ : Sig}
theorem both_hds (O : BothOK C Ch A H tx σ) : both C A H pos ln pbl es σ = hds H es (lxs C A pos pbl ln σ) := by
  unfold both hds
  exact lxs_upd O.la O.lb O.lp
theorem both_fcs {L : Nat} {m : Str → Option PV} {cs : List (Option PV)} (hA : A.below L) (hH : H.l < L) : both C A H pos ln pbl es (fcs σ L m cs) = fcs (both C A H pos ln pbl es σ) L m cs := by
  unfold both hds
  rw [fcs_lt' hH, lxs_fcs hA]
theorem BothOK.fcs (O : BothOK C Ch A H tx σ) {L : Nat} {m : Str → Option PV} {cs : List (Option PV)} (hA : A.below L) (hH : H.a < L) : BothOK C Ch A H tx (fcs σ L m cs) :=
  ⟨O.lex.fcs hA.2.2.2, ⟨(fcs_lt hH).trans O.hdr.at_, O.hdr.al⟩, O.la, O.lb, O.lp, O.lt, O.aa, O.ab, O.ap⟩
theorem BothOK.lexh (O : BothOK C Ch A H tx σ) : LexOK C A tx (hds H es σ) := O.lex.upd O.lt
theorem BothOK.hdrl (O : BothOK C Ch A H tx σ) : HdrOK Ch H (lxs C A pos pbl ln σ) := ⟨(lxs_else O.aa O.ab O.ap).trans O.hdr.at_, O.hdr.al⟩
theorem BothOK.below (O : BothOK C Ch A H tx σ) {L : Nat} (hf : Fresh (both C A H pos ln pbl es σ) L) : A.below L ∧ H.l < L ∧ H.a < L := by
  have h1 := (O.lexh (es := es)).below hf
  have key : ∀ b o, both C A H pos ln pbl es σ b = some o → b < L := fun b o e => by
    rcases Nat.lt_or_ge b L with q | q
    · exact q
    · have := hf b q; rw [e] at this; cases this
  refine ⟨h1, key H.l (.list (ents es)) ?_, key H.a (.inst Ch H.d (hdF H.l) 1) ?_⟩
  · unfold both; rw [lxs_else O.la O.lb O.lp]; exact upd_same _ _ _
  · unfold both; rw [lxs_else O.aa O.ab O.ap]; exact (upd_ne O.hdr.al).trans O.hdr.at_
theorem both_res {L : Nat} (hA : A.below L) (hH : H.l < L) : res L (both C A H pos ln pbl es σ) = both C A H pos ln pbl es (res L σ) := by
  unfold both hds
  rw [lxs_res hA, res_upd_lt hH]
theorem BothOK.fresh (O : BothOK C Ch A H tx σ) {L : Nat} (hf : Fresh (both C A H pos ln pbl es σ) L) : Fresh σ L := fun b hb => by
  have h1 := (O.lexh (es := es)).fresh hf b hb
  have hH := (O.below hf).2.1
  unfold hds at h1
  rwa [upd_ne (Nat.ne_of_gt (Nat.lt_of_lt_of_le hH hb))] at h1
end
section
variable {W : Wd} {k : Nat} {σ : Sig} {env : Env} {P : FM → Prop} {x y : List Nat}
theorem b_push (D : L1 W) (N : LexCls W) {Ch : Addr} {A : LexA} {H : HdrA} {tx : List Nat} {pos : Nat} {ln : Int} {pbl : List (List Nat)} {es : List (List Nat × List Nat)} {L : Nat} {m : Str → Option PV} {cs : List (Option PV)} {K : PV → Sig → Prop} (O : BothOK N.C Ch A H tx σ) (hA : A.below L) (hl : H.l < L) (ha : H.a < L) (hz : pbl.length ≤ 100000)
    (h : K .none (fcs (both N.C A H pos ln (pbl ++ [x]) es σ) L m cs)) : CC W (k + 1) (.ref N.pt) [.ref A.a, .str x] [] [] (fcs (both N.C A H pos ln pbl es σ) L m cs) K := by
  rw [← both_fcs hA hl]
  refine pt_C D N ((O.fcs hA ha).lexh) hz ?_
  show K _ (both N.C A H pos ln (pbl ++ [x]) es (fcs σ L m cs))
  rw [both_fcs hA hl]; exact h
theorem b_pop (D : L1 W) (N : LexCls W) {Ch : Addr} {A : LexA} {H : HdrA} {tx : List Nat} {pos : Nat} {ln : Int} {pbl : List (List Nat)} {es : List (List Nat × List Nat)} {L : Nat} {m : Str → Option PV} {cs : List (Option PV)} {K : PV → Sig → Prop} (O : BothOK N.C Ch A H tx σ) (hA : A.below L) (hl : H.l < L) (ha : H.a < L) (hz : pbl.length ≤ 100000)
    (h : K (.str x) (fcs (both N.C A H pos ln pbl es σ) L m cs)) : CC W (k + 1) (.ref N.gt) [.ref A.a] [] [] (fcs (both N.C A H pos ln (x :: pbl) es σ) L m cs) K := by
  rw [← both_fcs hA hl]
  refine gt_pop_C D N ((O.fcs hA ha).lexh) hz ?_
  show K _ (both N.C A H pos ln pbl es (fcs σ L m cs))
  rw [both_fcs hA hl]; exact h
theorem b_add (D : L1 W) (N : LexCls W) (Hc : HdrCls W) {A : LexA} {H : HdrA} {tx : List Nat} {pos : Nat} {ln : Int} {pbl : List (List Nat)} {es : List (List Nat × List Nat)} {L : Nat} {m : Str → Option PV} {cs : List (Option PV)} {K : PV → Sig → Prop} (O : BothOK N.C Hc.C A H tx σ) (hA : A.below L) (hl : H.l < L) (ha : H.a < L) (hx : okN x) (hy : okV y) (hzx : x.length ≤ 1000000) (hzy : y.length ≤ 1000000) (hz : es.length ≤ 100000)
    (h : K .none (fcs (both N.C A H pos ln pbl (es ++ [(x, y)]) σ) L m cs)) : CC W (k + 2) (.ref Hc.ah) [.ref H.a, .str x, .str y] [] [] (fcs (both N.C A H pos ln pbl es σ) L m cs) K := by
  have O' := O.fcs (m := m) (cs := cs) hA ha
  rw [← both_fcs hA hl, both_hds O']
  refine ah_C D Hc O'.hdrl hx hy hzx hzy hz ?_
  rw [← both_hds O', both_fcs hA hl]; exact h
theorem b_a {C : Addr} {A : LexA} {H : HdrA} {pos : Nat} {ln : Int} {pbl : List (List Nat)} {es : List (List Nat × List Nat)} {L : Nat} {m : Str → Option PV} {cs : List (Option PV)} (hA : A.below L) : fcs (both C A H pos ln pbl es σ) L m cs A.a = some (.inst C A.d (lexF A.tape A.pb ln) 4) := (fcs_lt hA.1).trans lxs_a
theorem b_h {C Ch : Addr} {A : LexA} {H : HdrA} {tx : List Nat} {pos : Nat} {ln : Int} {pbl : List (List Nat)} {es : List (List Nat × List Nat)} {L : Nat} {m : Str → Option PV} {cs : List (Option PV)} (O : BothOK C Ch A H tx σ) (ha : H.a < L) : fcs (both C A H pos ln pbl es σ) L m cs H.a = some (.inst Ch H.d (hdF H.l) 1) := by
  rw [fcs_lt ha]
  unfold both
  rw [lxs_else O.aa O.ab O.ap]
  exact (upd_ne O.hdr.al).trans O.hdr.at_
end
end Mine
end
section
set_option tactic.hygienic false
set_option hygiene false
set_option maxRecDepth 100000
namespace Mine
theorem plains_sts : ∀ {l : List (List Nat)}, (∀ x ∈ l, x.all (· < 1114112) = true) → plains (stsL l) = true
  | [], _ => rfl
  | x :: l, h => by
    show (plain (.str x) && plains (stsL l)) = true
    rw [plains_sts (fun y hy => h y (List.mem_cons_of_mem _ hy)), Bool.and_true]
    exact h x (List.mem_cons_self ..)
theorem plain_sts {l : List (List Nat)} (h : ∀ x ∈ l, x.all (· < 1114112) = true) : plain (.lst (stsL l)) = true := plains_sts h
theorem depthAll_sts : ∀ l : List (List Nat), PyData.depthAll (pds (stsL l)) ≤ 1
  | [] => by simp [stsL, pds, PyData.depthAll]
  | x :: l => by
    have := depthAll_sts l
    show PyData.depthAll (pd (.str x) :: pds (stsL l)) ≤ 1
    simp only [PyData.depthAll, pd, PyData.depth]
    lia
theorem depth_sts (l : List (List Nat)) : (pd (.lst (stsL l))).depth ≤ 64 := by
  have := depthAll_sts l
  show (PyData.list (pds (stsL l))).depth ≤ 64
  simp only [PyData.depth]
  lia
theorem plains_ints : ∀ l : List Int, plains (intsL l) = true
  | [] => rfl
  | x :: l => plains_ints l
theorem depthAll_ints : ∀ l : List Int, PyData.depthAll (pds (intsL l)) ≤ 1
  | [] => by simp [intsL, pds, PyData.depthAll]
  | x :: l => by
    have := depthAll_ints l
    show PyData.depthAll (pd (.int x) :: pds (intsL l)) ≤ 1
    simp only [PyData.depthAll, pd, PyData.depth]
    lia
theorem depth_ints (l : List Int) : (pd (.lst (intsL l))).depth ≤ 64 := by
  have := depthAll_ints l
  show (PyData.list (pds (intsL l))).depth ≤ 64
  simp only [PyData.depth]
  lia
theorem eqv_nil (l : List Int) : PyData.eqv (pd (.lst (intsL l))) (pd (.lst [])) = l.isEmpty := by
  cases l with
  | nil => rfl
  | cons x l => rfl
noncomputable def vTold (low s : Nat) : PV → PV
  | .int i => .str (wordC (low + s - 1 + 6 * i.toNat))
  | p => p
noncomputable def vLow : PV → PV
  | .str x => .str (lowerL x)
  | p => p
noncomputable def kMet (a b x : List Nat) : PV → Bool
  | .int i => decide (last3 x = wAt a b i.toNat)
  | _ => false
theorem met_eq (a b x : List Nat) : ((inums 0 2).filter (kMet a b x)).map (fun p => p) = intsL ((metL a b x).map fun n : Nat => (n : Int)) := by
  unfold inums metL intsL
  rw [List.filter_map, List.map_map, List.map_map]
  have hk : (kMet a b x ∘ fun j : Nat => PV.int (0 + (j : Nat))) = fun i : Nat => decide (last3 x = wAt a b i) := funext fun j => by
    show decide (last3 x = wAt a b ((0 : Int) + (j : Nat)).toNat) = _
    rw [show ((0 : Int) + (j : Nat)).toNat = j by exact z0 _]
  rw [hk]
  refine List.map_congr_left fun i _ => ?_
  show PV.int (0 + (i : Nat)) = PV.int (i : Nat)
  rw [Int.zero_add]
theorem one_shl (n : Nat) : (1 : Int) * 2 ^ ((n : Int)).toNat = ((2 ^ n : Nat) : Int) := by simp
theorem okV_app {x y : List Nat} (hx : okV x) (hy : okV y) : okV (x ++ y) := fun c hc => (List.mem_append.mp hc).elim (hx c) (hy c)
theorem queueL_ok {ls : List (List Nat)} (h : ∀ l ∈ ls, okV l) (a b : List Nat) : ∀ s, ∀ t ∈ queueL ls a b s, okV t
  | 0, t, ht => by simp [queueL] at ht; subst ht; exact fun c hc => by cases hc
  | s + 1, t, ht => by
    unfold queueL qOf candL at ht
    have h1 := (List.mem_filter.mp ht).1
    obtain ⟨t', h2, h3⟩ := List.mem_flatMap.mp h1
    obtain ⟨l, h4, rfl⟩ := List.mem_map.mp h3
    exact okV_app (queueL_ok h a b s t' h2) (h l h4)
section
variable {W : Wd} {k : Nat} {σ : Sig} {env : Env} {P : FM → Prop} {x y : List Nat}
theorem bind5 {fd : FuncData} {n1 n2 n3 n4 n5 : Str} {p1 p2 p3 p4 p5 : PV} {K : List (Str × PV) → Sig → Prop} (e : ∀ v w u z q, bindArgs fd ⟨[v, w, u, z, q], []⟩ = Pure.pure [(n1, v), (n2, w), (n3, u), (n4, z), (n5, q)]) (h : K [(n1, p1), (n2, p2), (n3, p3), (n4, p4), (n5, p5)] σ) : ∀ vs ws, G W k (fun F => VRels F [p1, p2, p3, p4, p5] vs ∧ VRels F [] ws) BRels (bindArgs fd ⟨vs, ([] : List Str).zip ws⟩) σ K := fun vs ws A hA s hs hpat => by
  obtain ⟨⟨v, r, e1, h1, w, r', e3, h2, u, r'', e4, h3, z, r3, e5, h4, q, r4, e6, h5, e2⟩, _⟩ := hpat
  subst e1 e3 e4 e5 e6
  obtain rfl : r4 = [] := e2
  rw [show ([] : List Str).zip ws = [] from rfl, e]
  exact wpAny_pure ⟨[(n1, p1), (n2, p2), (n3, p3), (n4, p4), (n5, p5)], σ, hs, FLe.refl _, ⟨v, _, rfl, h1, w, _, rfl, h2, u, _, rfl, h3, z, _, rfl, h4, q, [], rfl, h5, rfl⟩, h⟩
set_option maxHeartbeats 8000000 in
theorem law_shelved_C (D : L1 W) (N : LexCls W) (Hc : HdrCls W) (Pp : Prep W) {fa : Addr} {A : LexA} {H : HdrA} {tx : List Nat} {pos : Nat} {ln : Int} {a b : List Nat} {ls : List (List Nat)} {low : Nat} {K : PV → Sig → Prop} (F : Fn W fa "_law_shelved" (defAt 25)) (O : BothOK N.C Hc.C A H tx σ)
    (ha : a.length = 3) (hb : b.length = 3) (hab : a ≠ b) (hls : ls.length = 2) (hl1 : ∀ l ∈ ls, l.length = 1) (hok : ∀ l ∈ ls, okV l) (hlow : low ≤ 20)
    (h : K (.bool true) (both N.C A H pos ln [] (shelfL ls a b low 6) σ)) :
    CC W (k + 3) (.ref fa) [.ref A.a, .ref H.a, .lst (stsL ls), .lst (stsL [a, b]), .int low] [] [] (both N.C A H pos ln [] [] σ) K := by
  obtain ⟨doc, pm, an, cd, ct, f1⟩ := F.fn
  have T := D.T
  refine CC_fcs T f1 [("lexer", .ref A.a, none), ("shelf", .ref H.a, none), ("letters", .lst (stsL ls), none), ("pair", .lst (stsL [a, b]), some 0), ("low", .int low, some 1)] 4 (bind5 (n1 := "lexer") (n2 := "shelf") (n3 := "letters") (n4 := "pair") (n5 := "low") (fun v w u z q => by rfl) ⟨rfl, rfl⟩) rfl ⟨rfl, rfl, rfl, ⟨rfl, fun L => rfl⟩, ⟨rfl, fun L => rfl⟩, trivial⟩ (by rfl) rfl fun (L : Nat) hL => ?_
  obtain ⟨hA, hHl, hHa⟩ := O.below hL
  have hfr := O.fresh hL
  refine (?_ : XS W _ _ _ (fcs _ L _ [some (.lst (stsL [a, b])), some (.int low), none, none]) _)
  refine XS_setl T (E_IfExp (T_Compare (E_Meth [] (kp := .frame) (E_l ?_))))
  refine GM_inst T N.X N.ptM.find N.ptM.ty (b_a hA) rfl ?_
  refine EL_cons (E_strL [] ?_)
  refine EL_nil (EK_nil ⟨N.ptM.kp, (b_push (k := k + 1) D N O hA hHl hHa (by simp) ?_).call⟩)
  refine E_none (is_none_none (truthy_bool ?_))
  refine E_int ⟨_, _, _, rfl, ?_⟩
  refine XS_cut (fun σ' => ∃ m cs, σ' = fcs (both N.C A H pos ln [] (shelfL ls a b low 6) σ) L m cs) (X_For (q₀ := .rng 1 7) T (inums 1 6) (fun _ => True) (fun i σ' => ∃ m c2 c3, σ' = fcs (both N.C A H pos ln (queueL ls a b i) (shelfL ls a b low i) σ) L m [some (.lst (stsL [a, b])), some (.int low), c2, c3] ∧ m "lexer" = some (.ref A.a) ∧ m "shelf" = some (.ref H.a) ∧ m "letters" = some (.lst (stsL ls)) ∧ m "waiting" = some (.int (queueL ls a b i).length) ∧ i ≤ 6) ?_ (fun _ _ _ => trivial) ?_ ?_) ?_
  · refine E_Call [] (kp := .machine) (E_tn T D.B (n := "range") (by simp) ?_)
    exact EL_cons (E_int (EL_cons (E_int (EL_nil (EK_nil ⟨KP_typ, C_range2 T ⟨rfl, Itbl.rng (by decide) 6 (by decide), _, _, _, rfl, rfl, rfl, rfl, rfl, Nat.zero_le _⟩⟩)))))
  · rintro i p σ' hp ⟨m, c2, c3, rfl, hm1, hm2, hm3, hm4, hi⟩
    obtain ⟨hi', rfl⟩ := int_at hp
    rw [show (1 : Int) + (i : Nat) = ((i + 1 : Nat) : Int) by exact z4 _]
    refine AT_name (S_c T 2 ?_)
    refine (?_ : XS W _ _ _ (fcs _ L m [some (.lst (stsL [a, b])), some (.int low), some (.int ((i + 1 : Nat) : Int)), c3]) _)
    refine gen fun K₁ hK₁ => ?_
    have hw1 : low + (i + 1) - 1 < 32 := by lia
    have hw2 : low + (i + 1) + 5 < 32 := by lia
    have hplain : ∀ x ∈ [wordC (low + (i + 1) - 1), wordC (low + (i + 1) + 5)], x.all (· < 1114112) = true := fun x hx => by
      simp only [List.mem_cons, List.not_mem_nil, or_false] at hx
      rcases hx with rfl | rfl
      · exact (wordC_plain ⟨_, hw1⟩).1
      · exact (wordC_plain ⟨_, hw2⟩).1
    have hplain2 : ∀ x ∈ [lowerL (wordC (low + (i + 1) - 1)), lowerL (wordC (low + (i + 1) + 5))], x.all (· < 1114112) = true := fun x hx => by
      simp only [List.mem_cons, List.not_mem_nil, or_false] at hx
      rcases hx with rfl | rfl
      · exact (wordC_plain ⟨_, hw1⟩).2
      · exact (wordC_plain ⟨_, hw2⟩).2
    have hwl : ∀ p ∈ stsL [wordC (low + (i + 1) - 1), wordC (low + (i + 1) + 5)], ∃ q, q < 32 ∧ p = .str (wordC q) := fun p hp => by
      simp only [stsL, List.map_cons, List.map_nil, List.mem_cons, List.not_mem_nil, or_false] at hp
      rcases hp with rfl | rfl
      · exact ⟨_, hw1, rfl⟩
      · exact ⟨_, hw2, rfl⟩
    refine XS_Makes T (inums 0 2) (fun _ => True) (stsL [wordC (low + (i + 1) - 1), wordC (low + (i + 1) + 5)]) ?_
    refine E_Call [] (kp := .machine) (E_tn T D.B (n := "range") (by simp) ?_)
    refine EL_cons (E_int (EL_nil (EK_nil ⟨KP_typ, C_range1 T ⟨_, _, _, rfl, Itbl.rng0 (n := 2) (by decide), trivial, Makes1 T (fun _ => true) (vTold low (i + 1)) ?_ (by rw [inums_len]; decide) (fun _ _ _ _ _ _ => trivial) (fun D' L' e1 e2 => ⟨fun p hp acc m => CI_nil ⟨rfl, rfl⟩, fun p hp _ acc m' => ?_⟩), ?_⟩⟩)))
    · show [PV.str (wordC (low + (i + 1) - 1 + 6 * ((0 : Int) + ((0 : Nat) : Int)).toNat)), PV.str (wordC (low + (i + 1) - 1 + 6 * ((0 : Int) + ((1 : Nat) : Int)).toNat))] = _
      rw [show low + (i + 1) - 1 + 6 * ((0 : Int) + ((0 : Nat) : Int)).toNat = low + (i + 1) - 1 by lia, show low + (i + 1) - 1 + 6 * ((0 : Int) + ((1 : Nat) : Int)).toNat = low + (i + 1) + 5 by lia]
      rfl
    · obtain ⟨q, hq⟩ := List.getElem?_of_mem hp
      obtain ⟨hq2, rfl⟩ := int_at hq
      refine E_Call [] (kp := .frame) (E_gl T D.pfG ?_)
      refine (EL_cons' ?_ ?_ : EL _ _ _ _ _ _ _)
      · rfl
      refine (E_BinOp ?_ : E _ _ _ _ _ _)
      refine (E_int ?_ : E _ _ _ _ _ _)
      refine E_BinOp (E_BinOp (E_BinOp (E_f 1 e1 e2 ?_)))
      refine E_f 2 e1 e2 (add_ii ?_)
      refine E_int (sub_ii ?_)
      refine E_BinOp (E_int (E_m ?_ (fset_same _ _ _)))
      refine mul_ii ?_ (.of_left (intBits_le_64 (by decide) (by decide)))
      refine add_ii ?_
      have hp32 : low + (i + 1) - 1 + 6 * q < 32 := by lia
      rw [show (low : Int) + ((i + 1 : Nat) : Int) - 1 + 6 * (0 + (q : Nat)) = ((low + (i + 1) - 1 + 6 * q : Nat) : Int) by lia]
      refine shl_ii (by exact Int.natCast_nonneg _) (by lia) (by decide) ?_
      rw [one_shl]
      refine EL_nil (EK_nil ⟨FnC.kp D.pfF, (pretty_flags_C (k := k + 1) D (Nat.ne_of_gt (Nat.two_pow_pos _)) (Nat.pow_lt_pow_right (by decide) hp32) ?_).call⟩)
      rw [flagsL_one hp32]
      refine ⟨rfl, ?_⟩
      show _ = PV.str (wordC (low + (i + 1) - 1 + 6 * ((0 : Int) + (q : Nat)).toNat))
      rw [show ((0 : Int) + (q : Nat)).toNat = q by exact z0 _]
      rfl
    refine XS_Makes T (stsL [wordC (low + (i + 1) - 1), wordC (low + (i + 1) + 5)]) (fun _ => True) (stsL [lowerL (wordC (low + (i + 1) - 1)), lowerL (wordC (low + (i + 1) + 5))]) (E_l ?_)
    refine ⟨_, _, _, rfl, Itbl.lst, trivial, Makes1 T (fun _ => true) vLow rfl (by simp [stsL]) (fun _ _ _ _ _ _ => trivial) (fun D' L' e1 e2 => ⟨fun p hp acc m => CI_nil ⟨rfl, rfl⟩, fun p hp _ acc m' => ?_⟩), ?_⟩
    · obtain ⟨q, hq, rfl⟩ := hwl p hp
      refine E_Call [] (kp := .frame) (E_gl T Pp.G ?_)
      refine EL_cons (E_m ?_ (fset_same _ _ _))
      have hl1 := wordC_len ⟨q, hq⟩
      have hl2 := (wordC_lower_len ⟨q, hq⟩).1
      dsimp only at hl1 hl2
      refine EL_nil (EK_nil ⟨FnC.kp Pp.F, (law_prepared_C (k := k) T D.B Pp.F Pp.F1 Pp.h1 Pp.hm1 Pp.S1 Pp.F3 Pp.h3 Pp.hm3 Pp.S3 (by exact Nat.le_trans (by assumption) (by decide)) (by rw [Pp.prepW q hq]; exact Nat.le_trans (by assumption) (by decide)) ?_).call⟩)
      rw [Pp.prepW q hq]
      exact ⟨rfl, rfl⟩
    refine XS_if (gen fun K₅ hK₅ => T_or (T_Compare (E_l ?_)))
    refine E_List (EL_cons (E_Call [] (kp := .frame) (E_gl T Pp.Gw ?_)))
    refine EL_cons (E_BinOp (E_BinOp (E_c 1 ?_)))
    refine E_c 2 (add_ii (E_int (sub_ii ?_)))
    rw [show (low : Int) + ((i + 1 : Nat) : Int) - 1 = ((low + (i + 1) - 1 : Nat) : Int) by lia]
    refine EL_nil (EK_nil ⟨FnC.kp Pp.Fw, (law_word_C (k := k + 1) D Pp.Fw hw1 ?_).call⟩)
    refine EL_cons (E_Call [] (kp := .frame) (E_gl T Pp.Gw ?_))
    refine EL_cons (E_BinOp (E_BinOp (E_c 1 ?_)))
    refine E_c 2 (add_ii (E_int (add_ii ?_)))
    rw [show (low : Int) + ((i + 1 : Nat) : Int) + 5 = ((low + (i + 1) + 5 : Nat) : Int) by lia]
    refine EL_nil (EK_nil ⟨FnC.kp Pp.Fw, (law_word_C (k := k + 1) D Pp.Fw hw2 ?_).call⟩)
    refine EL_nil ⟨by simp, ne_same (plain_sts hplain) (depth_sts _) (truthy_bool ?_)⟩
    rw [if_neg (by decide)]
    refine T_Compare (E_l ?_)
    refine E_Makes T (stsL [wordC (low + (i + 1) - 1), wordC (low + (i + 1) + 5)]) (fun _ => True) (stsL [lowerL (wordC (low + (i + 1) - 1)), lowerL (wordC (low + (i + 1) + 5))]) (E_l ?_)
    refine ⟨Itbl.lst, trivial, Makes1 T (fun _ => true) vLow rfl (by simp [stsL]) (fun _ _ _ _ _ _ => trivial) (fun D' L' e1 e2 => ⟨fun p hp acc m => CI_nil ⟨rfl, rfl⟩, fun p hp _ acc m' => ?_⟩), ?_⟩
    · obtain ⟨q, hq, rfl⟩ := hwl p hp
      refine E_Meth [] (kp := .machine) (E_m ?_ (fset_same _ _ _))
      refine GM_str PySem.F.slot_str_lower PySem.F.type_str_lower ?_
      have hl1 := wordC_len ⟨q, hq⟩
      dsimp only at hl1
      exact EL_nil (EK_nil ⟨KP_blt, C_lower (by exact Nat.le_trans (by assumption) (by decide)) ⟨rfl, rfl⟩⟩)
    refine ne_same (plain_sts hplain2) (depth_sts _) (truthy_bool ?_)
    subst hK₅
    refine XS_nil ?_
    refine XS_cons (X_AssignSwap T ["due", "waiting"] (E_Tuple ?_))
    refine EL_cons (E_l ?_ ((fset_ne (by decide)).trans ((fset_ne (by decide)).trans hm4)))
    refine EL_cons (E_int (EL_nil ⟨by simp, _, rfl, rfl, ?_⟩))
    refine S_l T (S_l T ?_)
    have hQn := queueL_len hls a b i
    have hQ32 : 2 ^ i ≤ 2 ^ 5 := Nat.pow_le_pow_right (by decide) (by lia)
    have h32 : (2 : Nat) ^ 5 = 32 := by decide
    have hQe := queueL_each hl1 a b i
    have hQk := queueL_ok hok a b i
    have hSn := shelfL_len hls a b low i (by assumption)
    have hq1 : queueL ls a b (i + 1) = qOf a b (i + 1) (candL ls (queueL ls a b i)) := rfl
    have hs1 : shelfL ls a b low (i + 1) = shelfL ls a b low i ++ eOf a b low (i + 1) (candL ls (queueL ls a b i)) := rfl
    rw [hq1, hs1] at hK₁
    generalize hQ : queueL ls a b i = Q at *
    generalize hS : shelfL ls a b low i = S at *
    have hbnd : ∀ xs : List (List Nat), (qOf a b (i + 1) xs).length ≤ xs.length ∧ (eOf a b low (i + 1) xs).length ≤ xs.length := fun xs => ⟨List.length_filter_le _ _, by unfold eOf; rw [List.length_map]; exact List.length_filter_le _ _⟩
    have hm0 : ∃ m0 : Str → Option PV, m0 "lexer" = some (.ref A.a) ∧ m0 "shelf" = some (.ref H.a) ∧ m0 "letters" = some (.lst (stsL ls)) ∧ m0 "names" = some (.lst (stsL [lowerL (wordC (low + (i + 1) - 1)), lowerL (wordC (low + (i + 1) + 5))])) ∧ m0 "due" = some (.int Q.length) ∧ m0 "waiting" = some (.int 0) ∧
        m0 = fset (fset (fset (fset m "told" (.lst (stsL [wordC (low + (i + 1) - 1), wordC (low + (i + 1) + 5)]))) "names" (.lst (stsL [lowerL (wordC (low + (i + 1) - 1)), lowerL (wordC (low + (i + 1) + 5))]))) "waiting" (.int 0)) "due" (.int Q.length) :=
      ⟨_, (fset_ne (by decide)).trans ((fset_ne (by decide)).trans ((fset_ne (by decide)).trans ((fset_ne (by decide)).trans hm1))), (fset_ne (by decide)).trans ((fset_ne (by decide)).trans ((fset_ne (by decide)).trans ((fset_ne (by decide)).trans hm2))), (fset_ne (by decide)).trans ((fset_ne (by decide)).trans ((fset_ne (by decide)).trans ((fset_ne (by decide)).trans hm3))), rfl, rfl, rfl, rfl⟩
    obtain ⟨m0, g1, g2, g3, g4, g5, g6, em0⟩ := hm0
    rw [← em0]
    clear em0 hm1 hm2 hm3 hm4
    -- the turns
    refine XS_cons (X_For (q₀ := .rng 0 (Q.length : Int)) T (inums 0 Q.length) (fun _ => True) (fun j σ' => ∃ m c3, σ' = fcs (both N.C A H pos ln (Q.drop j ++ qOf a b (i + 1) (candL ls (Q.take j))) (S ++ eOf a b low (i + 1) (candL ls (Q.take j))) σ) L m [some (.lst (stsL [a, b])), some (.int low), some (.int ((i + 1 : Nat) : Int)), c3] ∧ m "lexer" = some (.ref A.a) ∧ m "shelf" = some (.ref H.a) ∧ m "letters" = some (.lst (stsL ls)) ∧
      m "names" = some (.lst (stsL [lowerL (wordC (low + (i + 1) - 1)), lowerL (wordC (low + (i + 1) + 5))])) ∧ m "waiting" = some (.int (qOf a b (i + 1) (candL ls (Q.take j))).length)) ?_ (fun _ _ _ => trivial) ?_ ?_)
    · refine E_Call [] (kp := .machine) (E_tn T D.B (n := "range") (by simp) ?_)
      refine EL_cons (E_l ?_ g5)
      refine EL_nil (EK_nil ⟨KP_typ, C_range1 T ⟨rfl, Itbl.rng0 (by lia), m0, c3, ?_, g1, g2, g3, g4, g6⟩⟩)
      show _ = fcs (both N.C A H pos ln (Q ++ []) (S ++ []) σ) L m0 _
      rw [List.append_nil, List.append_nil]
    · rintro j p σ' hp ⟨m, c3, rfl, hm1, hm2, hm3, hm4, hm5⟩
      obtain ⟨hj', rfl⟩ := int_at hp
      refine AT_name (S_l T ?_)
      refine gen fun K₂ hK₂ => ?_
      obtain ⟨t, ht⟩ : ∃ t, Q[j]? = some t := ⟨Q[j], List.getElem?_eq_getElem hj'⟩
      have htm : t ∈ Q := List.mem_of_getElem? ht
      have htl := hQe t htm
      have htk := hQk t htm
      have hdrop : Q.drop j = t :: Q.drop (j + 1) := by
        rw [List.drop_eq_getElem_cons hj']
        congr 1
        rw [List.getElem?_eq_getElem hj'] at ht
        exact Option.some.inj ht
      have htake : Q.take (j + 1) = Q.take j ++ [t] := by rw [List.take_add_one, ht]; rfl
      have hcand : candL ls (Q.take (j + 1)) = candL ls (Q.take j) ++ ls.map fun l => t ++ l := by rw [htake]; unfold candL; rw [List.flatMap_append]; simp
      have hcl : (candL ls (Q.take j)).length ≤ 64 := by rw [candL_len hls, List.length_take]; lia
      rw [hdrop, List.cons_append]
      refine XS_setl T (E_Meth [] (kp := .frame) (E_l ?_ ((fset_ne (by decide)).trans hm1)))
      refine GM_inst T N.X N.gtM.find N.gtM.ty (b_a hA) rfl ?_
      refine EL_nil (EK_nil ⟨N.gtM.kp, (b_pop (k := k + 1) D N O hA hHl hHa (by have := (hbnd (candL ls (Q.take j))).1; rw [List.length_append, List.length_drop]; lia) ?_).call⟩)
      refine ⟨_, _, _, rfl, ?_⟩
      generalize hx0 : candL ls (Q.take j) = xs0 at *
      refine XS_cons (X_For (q₀ := .lst (stsL ls)) T (stsL ls) (fun _ => True) (fun q σ' => ∃ m c3, σ' = fcs (both N.C A H pos ln (Q.drop (j + 1) ++ qOf a b (i + 1) (xs0 ++ (ls.take q).map fun l => t ++ l)) (S ++ eOf a b low (i + 1) (xs0 ++ (ls.take q).map fun l => t ++ l)) σ) L m [some (.lst (stsL [a, b])), some (.int low), some (.int ((i + 1 : Nat) : Int)), c3] ∧ m "lexer" = some (.ref A.a) ∧ m "shelf" = some (.ref H.a) ∧ m "letters" = some (.lst (stsL ls)) ∧
        m "names" = some (.lst (stsL [lowerL (wordC (low + (i + 1) - 1)), lowerL (wordC (low + (i + 1) + 5))])) ∧ m "waiting" = some (.int (qOf a b (i + 1) (xs0 ++ (ls.take q).map fun l => t ++ l)).length) ∧ m "text" = some (.str t)) ?_ (fun _ _ _ => trivial) ?_ ?_)
      · refine E_l ⟨rfl, Itbl.lst, fset (fset m "turn" (.int (0 + (j : Nat)))) "text" (.str t), c3, ?_, (fset_ne (by decide)).trans ((fset_ne (by decide)).trans hm1), (fset_ne (by decide)).trans ((fset_ne (by decide)).trans hm2), (fset_ne (by decide)).trans ((fset_ne (by decide)).trans hm3), (fset_ne (by decide)).trans ((fset_ne (by decide)).trans hm4), (fset_ne (by decide)).trans ((fset_ne (by decide)).trans ?_), fset_same _ _ _⟩ ((fset_ne (by decide)).trans ((fset_ne (by decide)).trans hm3))
        · rw [List.take_zero, List.map_nil, List.append_nil]
        · rw [List.take_zero, List.map_nil, List.append_nil]; exact hm5
      · rintro q p σ' hp ⟨m, c3, rfl, hm1, hm2, hm3, hm4, hm5, hm6⟩
        obtain ⟨l, hl, rfl⟩ : ∃ l, ls[q]? = some l ∧ p = .str l := by
          unfold stsL at hp
          rw [List.getElem?_map] at hp
          cases e : ls[q]? with
          | none => rw [e] at hp; cases hp
          | some g => rw [e] at hp; exact ⟨g, rfl, (Option.some.inj hp).symm⟩
        have hlm : l ∈ ls := List.mem_of_getElem? hl
        have hll := hl1 l hlm
        have hxs : xs0 ++ (ls.take (q + 1)).map (fun l => t ++ l) = (xs0 ++ (ls.take q).map fun l => t ++ l) ++ [t ++ l] := by
          rw [List.take_add_one, hl, List.map_append, List.append_assoc]; rfl
        have hxl : (xs0 ++ (ls.take q).map fun l => t ++ l).length ≤ 66 := by rw [List.length_append, List.length_map, List.length_take]; lia
        generalize (xs0 ++ (ls.take q).map fun l => t ++ l) = xs at *
        have hb1 := (hbnd xs).1
        have hb2 := (hbnd xs).2
        refine AT_name (S_l T ?_)
        refine gen fun K₃ hK₃ => ?_
        refine XS_setc T 3 (E_BinOp (E_l ?_ ((fset_ne (by decide)).trans hm6)))
        refine E_l ?_
        refine add_ss (by lia) ⟨_, _, _, rfl, by simp, ?_⟩
        refine (?_ : XS W _ _ _ (fcs _ L _ [some (.lst (stsL [a, b])), some (.int low), some (.int ((i + 1 : Nat) : Int)), some (.str (t ++ l))]) _)
        refine XS_Makes T (inums 0 2) (fun _ => True) (intsL ((metL a b (t ++ l)).map fun n : Nat => (n : Int))) ?_
        refine E_Call [] (kp := .machine) (E_tn T D.B (n := "range") (by simp) ?_)
        refine EL_cons (E_int (EL_nil (EK_nil ⟨KP_typ, C_range1 T ⟨_, _, _, rfl, Itbl.rng0 (n := 2) (by decide), trivial, Makes1 T (kMet a b (t ++ l)) (fun p => p) (met_eq a b (t ++ l)) (by rw [inums_len]; decide) (fun _ _ _ _ _ _ => trivial) (fun D' L' e1 e2 => ⟨fun p hp acc m => ?_, fun p hp _ acc m' => ?_⟩), ?_⟩⟩)))
        · obtain ⟨z, hz⟩ := List.getElem?_of_mem hp
          obtain ⟨hz2, rfl⟩ := int_at hz
          refine CI_one (T_Compare (E_SliceStr T (E_f 3 e1 e2 ?_)))
          refine EP_some (E_USub (E_int ⟨rfl, _, rfl, ?_⟩))
          refine EP_none ⟨_, rfl, by rw [List.length_append]; lia, ?_⟩
          rw [show (-3 : Int) = -((3 : Nat) : Int) by rfl, slc_back (by decide)]
          refine E_Sub (E_f 0 e1 e2 ?_)
          refine E_m ?_ (fset_same _ _ _)
          have hg : (stsL [a, b])[((0 : Int) + (z : Nat)).toNat]? = some (.str (wAt a b z)) := by
            have : z = 0 ∨ z = 1 := by lia
            rcases this with rfl | rfl <;> rfl
          refine ⟨Sbs.lst, get_lst (by exact z1 _) (by exact z3 (by assumption) (by decide)) hg (eq_ss (truthy_bool ⟨rfl, ?_⟩))⟩
          show _ = decide (last3 (t ++ l) = wAt a b ((0 : Int) + (z : Nat)).toNat)
          rw [show ((0 : Int) + (z : Nat)).toNat = z by exact z0 _]
          rfl
        · exact E_m ⟨rfl, rfl⟩ (fset_same _ _ _)
        refine XS_if (T_Compare (E_l ?_))
        refine E_List (EL_nil ⟨by simp, ne_dd (plains_ints _) (by rfl) (depth_ints _) (by decide) (truthy_bool ?_)⟩)
        rw [eqv_nil]
        cases hmet : metL a b (t ++ l) with
        | nil =>
          rw [show (!(List.map (fun n : Nat => (n : Int)) ([] : List Nat)).isEmpty) = false from rfl]
          refine XS_if (T_Compare (E_c 2 ?_))
          refine E_int (lt_ii (truthy_bool ?_))
          have he0 : eOf a b low (i + 1) (xs ++ [t ++ l]) = eOf a b low (i + 1) xs := by rw [eOf_snoc, hmet]; simp
          by_cases h6 : i + 1 < 6
          · rw [decide_eq_true (show ((i + 1 : Nat) : Int) < 6 by exact z2 (by assumption) (by decide))]
            have hq0 : qOf a b (i + 1) (xs ++ [t ++ l]) = qOf a b (i + 1) xs ++ [t ++ l] := by rw [qOf_snoc, hmet, decide_eq_true h6]; simp
            refine XS_expr (E_Meth [] (kp := .frame) (E_l ?_ ((fset_ne (by decide)).trans ((fset_ne (by decide)).trans hm1))))
            refine GM_inst T N.X N.ptM.find N.ptM.ty (b_a hA) rfl ?_
            refine EL_cons (E_c 3 ?_)
            refine EL_nil (EK_nil ⟨N.ptM.kp, (b_push (k := k + 1) D N O hA hHl hHa (by rw [List.length_append, List.length_drop]; lia) ?_).call⟩)
            refine ⟨rfl, ?_⟩
            rw [List.append_assoc, ← hq0]
            refine XS_setl T (E_BinOp (E_l ?_ ((fset_ne (by decide)).trans ((fset_ne (by decide)).trans hm5))))
            refine E_int (add_ii ⟨_, _, _, rfl, ?_⟩)
            refine XS_nil (XS_nil (XS_nil ?_))
            subst hK₃
            rw [hxs, he0]
            exact ⟨_, _, rfl, (fset_ne (by decide)).trans ((fset_ne (by decide)).trans ((fset_ne (by decide)).trans hm1)), (fset_ne (by decide)).trans ((fset_ne (by decide)).trans ((fset_ne (by decide)).trans hm2)), (fset_ne (by decide)).trans ((fset_ne (by decide)).trans ((fset_ne (by decide)).trans hm3)), (fset_ne (by decide)).trans ((fset_ne (by decide)).trans ((fset_ne (by decide)).trans hm4)), (fset_same _ _ _).trans (by rw [hq0, List.length_append]; rfl), (fset_ne (by decide)).trans ((fset_ne (by decide)).trans ((fset_ne (by decide)).trans hm6))⟩
          · rw [decide_eq_false (show ¬ ((i + 1 : Nat) : Int) < 6 by lia)]
            have hq0 : qOf a b (i + 1) (xs ++ [t ++ l]) = qOf a b (i + 1) xs := by rw [qOf_snoc, decide_eq_false h6]; simp
            refine XS_nil (XS_nil (XS_nil ?_))
            subst hK₃
            rw [hxs, he0, hq0]
            exact ⟨_, _, rfl, (fset_ne (by decide)).trans ((fset_ne (by decide)).trans hm1), (fset_ne (by decide)).trans ((fset_ne (by decide)).trans hm2), (fset_ne (by decide)).trans ((fset_ne (by decide)).trans hm3), (fset_ne (by decide)).trans ((fset_ne (by decide)).trans hm4), (fset_ne (by decide)).trans ((fset_ne (by decide)).trans hm5), (fset_ne (by decide)).trans ((fset_ne (by decide)).trans hm6)⟩
        | cons z r =>
          rw [show (!(List.map (fun n : Nat => (n : Int)) (z :: r)).isEmpty) = true from rfl]
          have hz2 : z < 2 := metL_lt (x := t ++ l) (a := a) (b := b) (by rw [hmet]; exact List.mem_cons_self ..)
          have hq0 : qOf a b (i + 1) (xs ++ [t ++ l]) = qOf a b (i + 1) xs := by rw [qOf_snoc, hmet]; simp
          have he0 : eOf a b low (i + 1) (xs ++ [t ++ l]) = eOf a b low (i + 1) xs ++ [(nameS low (i + 1) z, t ++ l)] := by rw [eOf_snoc, hmet]; rfl
          obtain ⟨hn1, hn2⟩ := nameS_ok (low := low) (s := i + 1) (i := z) (by lia) hw2
          have hlc := (wordC_lower_len ⟨low + (i + 1) + 5, hw2⟩).1
          dsimp only at hlc
          refine XS_if (gen fun K₅ hK₅ => T_Compare (E_Meth [] (kp := .frame) (E_l ?_ ((fset_ne (by decide)).trans ((fset_ne (by decide)).trans hm2)))))
          refine GM_inst T Hc.X Hc.ahM.find Hc.ahM.ty (b_h O hHa) rfl ?_
          refine EL_cons (E_Sub (E_List ?_))
          refine EL_cons (E_Sub (E_l ?_ ((fset_ne (by decide)).trans ((fset_ne (by decide)).trans hm4))))
          refine E_int ⟨Sbs.lst, get_lst (p := .str (lowerL (wordC (low + (i + 1) - 1)))) (by decide) (by decide) rfl ?_⟩
          refine EL_cons (E_Meth [] (kp := .machine) (E_Sub (E_l ?_ ((fset_ne (by decide)).trans ((fset_ne (by decide)).trans hm4)))))
          refine E_int ⟨Sbs.lst, get_lst (p := .str (lowerL (wordC (low + (i + 1) + 5)))) (by decide) (by decide) rfl ?_⟩
          refine GM_str PySem.F.slot_str_upper PySem.F.type_str_upper ?_
          refine EL_nil (EK_nil ⟨KP_blt, C_upper (by exact Nat.le_trans (by assumption) (by decide)) ?_⟩)
          refine EL_nil ⟨by simp, E_Sub (E_l ?_)⟩
          refine E_int ⟨Sbs.lst, get_lst (p := .int (z : Int)) (by decide) (by decide) rfl ?_⟩
          have hg : ([.str (lowerL (wordC (low + (i + 1) - 1))), .str (upperL (lowerL (wordC (low + (i + 1) + 5))))] : List PV)[((z : Nat) : Int).toNat]? = some (.str (nameS low (i + 1) z)) := by
            have : z = 0 ∨ z = 1 := by lia
            rcases this with rfl | rfl <;> rfl
          refine ⟨Sbs.lst, get_lst (by exact Int.natCast_nonneg _) (by exact z2 (by assumption) (by decide)) hg ?_⟩
          refine EL_cons (E_c 3 ?_)
          refine EL_nil (EK_nil ⟨Hc.ahM.kp, (b_add (k := k) D N Hc O hA hHl hHa hn1 (okV_app htk (hok l hlm)) (by exact Nat.le_trans (by assumption) (by decide)) (by rw [List.length_append]; lia) (by rw [List.length_append]; lia) ?_).call⟩)
          refine E_none (isnot_none_none (truthy_bool ?_))
          rw [List.append_assoc, ← he0]
          subst hK₅
          refine XS_nil (XS_nil (XS_nil ?_))
          subst hK₃
          rw [hxs, hq0]
          exact ⟨_, _, rfl, (fset_ne (by decide)).trans ((fset_ne (by decide)).trans hm1), (fset_ne (by decide)).trans ((fset_ne (by decide)).trans hm2), (fset_ne (by decide)).trans ((fset_ne (by decide)).trans hm3), (fset_ne (by decide)).trans ((fset_ne (by decide)).trans hm4), (fset_ne (by decide)).trans ((fset_ne (by decide)).trans hm5), (fset_ne (by decide)).trans ((fset_ne (by decide)).trans hm6)⟩
      · rintro σ' ⟨m, c3, rfl, hm1, hm2, hm3, hm4, hm5, hm6⟩
        have hlen : (stsL ls).length = ls.length := by unfold stsL; rw [List.length_map]
        rw [hlen, List.take_length] at hm5
        rw [hlen, List.take_length, ← hcand]
        rw [← hcand] at hm5
        refine XS_nil (XS_nil ?_)
        subst hK₂
        exact ⟨m, c3, rfl, hm1, hm2, hm3, hm4, hm5⟩
    · rintro σ' ⟨m, c3, rfl, hm1, hm2, hm3, hm4, hm5⟩
      rw [inums_len, List.take_length] at hm5
      rw [inums_len, List.take_length, List.drop_length, List.nil_append]
      refine XS_nil (XS_nil ?_)
      subst hK₁
      exact ⟨m, _, c3, rfl, hm1, hm2, hm3, hm5, hi'⟩
  · rintro σ' ⟨m, c2, c3, rfl, hm1, hm2, hm3, hm4, hi⟩
    rw [inums_len]
    have hq : queueL ls a b 6 = [] := by
      unfold queueL qOf
      exact List.filter_eq_nil_iff.mpr fun x _ => by simp
    rw [hq]
    exact XS_nil ⟨rfl, m, _, rfl⟩
  rintro _ ⟨m, cs, rfl⟩
  refine XS_ret (E_bool ?_)
  show K _ _
  rw [fcs_resr, both_res hA hHl, res_fresh hfr]
  exact h
end
end Mine
end
section
set_option tactic.hygienic false
set_option hygiene false
set_option maxRecDepth 100000
namespace Mine
noncomputable def LexA.off (A : LexA) (L n : Nat) : Prop := L + n < A.a ∧ L + n < A.pb ∧ L + n < A.P ∧ L + n < A.tape
section
variable {C Ch : Addr} {A : LexA} {H : HdrA} {tx : List Nat} {pos : Nat} {ln : Int} {pbl : List (List Nat)} {es : List (List Nat × List Nat)} {σ : Sig}
theorem lxs_off {L : Nat} {m : Str → Option PV} {cs : List (Option PV)} (h : A.off L cs.length) : lxs C A pos pbl ln (fcs σ L m cs) = fcs (lxs C A pos pbl ln σ) L m cs := by
  unfold lxs
  rw [fcs_gt' h.2.2.1, fcs_gt' h.2.1, fcs_gt' h.1]
theorem both_off {L : Nat} {m : Str → Option PV} {cs : List (Option PV)} (h : A.off L cs.length) (hl : L + cs.length < H.l) : both C A H pos ln pbl es (fcs σ L m cs) = fcs (both C A H pos ln pbl es σ) L m cs := by
  unfold both hds
  rw [fcs_gt' hl, lxs_off h]
theorem LexOK.off (h : LexOK C A tx σ) {L : Nat} {m : Str → Option PV} {cs : List (Option PV)} (hA : A.off L cs.length) : LexOK C A tx (Mine.fcs σ L m cs) := by
  obtain ⟨fs, n, e, r⟩ := h.tape
  exact ⟨⟨fs, n, (fcs_gt hA.2.2.2).trans e, r⟩, h.ta, h.tb, h.tp, h.ab, h.ap, h.bp⟩
theorem BothOK.off (O : BothOK C Ch A H tx σ) {L : Nat} {m : Str → Option PV} {cs : List (Option PV)} (hA : A.off L cs.length) (hH : L + cs.length < H.a) : BothOK C Ch A H tx (Mine.fcs σ L m cs) :=
  ⟨O.lex.off hA, ⟨(fcs_gt hH).trans O.hdr.at_, O.hdr.al⟩, O.la, O.lb, O.lp, O.lt, O.aa, O.ab, O.ap⟩
theorem lxs_ins {D L' : Nat} {acc : List PV} {m : Str → Option PV} (h : A.below D) (hD : D < L') : lxs C A pos pbl ln (ins σ D L' acc m) = ins (lxs C A pos pbl ln σ) D L' acc m := by
  have n1 : ∀ {b : Nat}, b < D → L' ≠ b ∧ D ≠ b := fun {b} hb => ⟨Nat.ne_of_gt (Nat.lt_trans hb hD), Nat.ne_of_gt hb⟩
  unfold ins
  rw [lxs_upd (n1 h.1).1 (n1 h.2.1).1 (n1 h.2.2.1).1, lxs_upd (n1 h.1).2 (n1 h.2.1).2 (n1 h.2.2.1).2]
theorem LexOK.ins (h : LexOK C A tx σ) {D L' : Nat} {acc : List PV} {m : Str → Option PV} (hA : A.tape < D) (hD : D < L') : LexOK C A tx (Mine.ins σ D L' acc m) := by
  unfold Mine.ins
  exact (h.upd (Nat.ne_of_gt hA)).upd (Nat.ne_of_gt (Nat.lt_trans hA hD))
theorem lexBase_fcs {L tpb : Nat} {m : Str → Option PV} {cs : List (Option PV)} (h1 : L + cs.length < A.td) (h2 : L + cs.length < A.tape) (h3 : L + cs.length < tpb) (h4 : L + cs.length < A.d) : lexBase C A tpb tx (fcs σ L m cs) = fcs (lexBase C A tpb tx σ) L m cs := by
  unfold lexBase
  rw [fcs_gt' h1, fcs_gt' h2, fcs_gt' h3, fcs_gt' h4]
theorem lexBase_ok {tpb : Nat} (h1 : A.P < A.td) (h2 : A.tape = A.td + 1) (h3 : A.tape < tpb) (h4 : tpb < A.d) (h5 : A.a = A.d + 1) (h6 : A.a < A.pb) : LexOK C A tx (lexBase C A tpb tx σ) where
  tape := ⟨_, _, (upd_ne (show A.tape ≠ A.d by lia)).trans ((upd_ne (show A.tape ≠ tpb by exact Nat.ne_of_lt (by assumption))).trans (upd_same _ _ _)), rfl⟩
  ta := by lia
  tb := by lia
  tp := by lia
  ab := by exact Nat.ne_of_lt (by assumption)
  ap := by lia
  bp := by lia
end
theorem countL_one (x : List Nat) (c : Nat) : countL x [c] = (x.count c : Nat) := by
  unfold countL
  rw [show st [c] = ⟨#[c]⟩ from rfl, count_cnt]
  show cnt c x.toArray.toList = _
  rw [List.toList_toArray]
  induction x with
  | nil => rfl
  | cons d x ih =>
    rw [List.count_cons, cnt_cons, ih]
    by_cases h : d = c
    · subst h; simp; lia
    · simp [h]
end Mine
end
section
set_option tactic.hygienic false
set_option hygiene false
set_option maxRecDepth 100000
namespace Mine
noncomputable def askN (d : Drawn3) (y : List Nat) (n : Nat) : Nat := (ovL (dA d) (dB d) y).sum * 2 ^ (dLow d + n)
structure Facts (f : Int → Option (List Nat)) (g : Int → Bool) (d : Drawn3) (rs : Nat → List Nat) : Prop where
  r0 : rs 0 = wholeD d
  r5 : rs 5 = []
  suf : ∀ k, k ≤ 5 → ∃ p, wholeD d = p ++ rs k
  lex : ∀ k, k < 5 → lexS (rs k) = (typedD d k, rs (k + 1))
  prep : ∀ k, k < 4 → prepL f g (typedD d k) = (five d).getD k []
  cnt : ∀ k, k < 4 → (((typedD d k).filter fun c : Nat => g c).length : Int) = ((typedD d k).length : Int) - (((five d).getD k []).length : Int)
  small : ∀ k, k < 5 → (typedD d k).all (· < 1114112) = true
  ask : ∀ y, y = dA d ∨ y = dB d → ∀ n, n < 4 → askN d y n ≠ 0 ∧ askN d y n < 2 ^ 32 ∧ splitL (jn [44, 32] (flagsL (askN d y n))) [44, 32] = flagsL (askN d y n) ∧
    ((flagsL (askN d y n)).flatMap fun w => getL (shelfL (dLs d) (dA d) (dB d) (dLow d) 6) (lowerL w)).map (fun x => x.take n) = dueL (dLs d) (dA d) (dB d) y n
  ab : dA d ≠ dB d
  ok : ∀ l ∈ dLs d, okV l
  smallF : ∀ x ∈ five d, x.all (· < 1114112) = true
theorem shelfL_names {ls : List (List Nat)} {a b : List Nat} {low : Nat} (hlow : low ≤ 20) : ∀ s, s ≤ 6 → ∀ e ∈ shelfL ls a b low s, e.1.length ≤ 30
  | 0, _, e, he => by simp [shelfL] at he
  | s + 1, hs, e, he => by
    unfold shelfL at he
    rcases List.mem_append.mp he with h | h
    · exact shelfL_names hlow s (by lia) e h
    · unfold eOf at h
      obtain ⟨x, _, rfl⟩ := List.mem_map.mp h
      exact (nameS_ok (by lia) (by lia)).2
theorem shelfL_texts {ls : List (List Nat)} (h : ∀ l ∈ ls, l.length = 1) {a b : List Nat} {low : Nat} : ∀ s, ∀ e ∈ shelfL ls a b low s, e.2.length ≤ s
  | 0, e, he => by simp [shelfL] at he
  | s + 1, e, he => by
    unfold shelfL at he
    rcases List.mem_append.mp he with h1 | h1
    · exact Nat.le_succ_of_le (shelfL_texts h s e h1)
    · unfold eOf candL at h1
      obtain ⟨x, h2, rfl⟩ := List.mem_map.mp h1
      obtain ⟨t, h3, h4⟩ := List.mem_flatMap.mp (List.mem_filter.mp h2).1
      obtain ⟨l, h5, rfl⟩ := List.mem_map.mp h4
      show (t ++ l).length ≤ _
      rw [List.length_append, queueL_each h a b s t h3, h l h5]
      exact Nat.le_refl _
noncomputable def vPrep (f : Int → Option (List Nat)) (g : Int → Bool) : PV → PV
  | .str x => .str (prepL f g x)
  | p => p
noncomputable def vCnt (g : Int → Bool) : PV → PV
  | .str x => .int ((x.filter fun c : Nat => g c).length : Nat)
  | p => p
noncomputable def kB1 (g : Int → Bool) : PV → Bool
  | .str (c :: _) => g c
  | _ => false
noncomputable def vDif (d : Drawn3) : PV → PV
  | .int k => .int (((typedD d k.toNat).length : Int) - (((five d).getD k.toNat []).length : Int))
  | p => p
theorem signs_filter (g : Int → Bool) : ∀ x : List Nat, ((signs x).filter (kB1 g)).map (fun p => p) = signs (x.filter fun c : Nat => g c)
  | [] => rfl
  | c :: x => by
    have ih := signs_filter g x
    show ((PV.str [c] :: signs x).filter (kB1 g)).map (fun p => p) = _
    rw [List.filter_cons, List.filter_cons]
    show List.map _ (if g c = true then _ else _) = _
    cases h : g c
    · simpa using ih
    · rw [if_pos rfl, if_pos rfl, List.map_cons, ih]; rfl
theorem jn_len : ∀ l : List (List Nat), (∀ x ∈ l, x.length ≤ 30) → (jn [44, 32] l).length ≤ 32 * l.length
  | [], _ => by simp [jn]
  | [x], h => by
    have := h x (List.mem_cons_self ..)
    show x.length ≤ 32 * 1
    exact Nat.le_trans (by assumption) (by decide)
  | x :: y :: r, h => by
    have h1 := h x (List.mem_cons_self ..)
    have h2 := jn_len (y :: r) (fun z hz => h z (List.mem_cons_of_mem _ hz))
    have e : (x ++ [44, 32] ++ jn [44, 32] (y :: r)).length = x.length + 2 + (jn [44, 32] (y :: r)).length := by rw [List.length_append, List.length_append]; rfl
    show (x ++ [44, 32] ++ jn [44, 32] (y :: r)).length ≤ _
    rw [e, show (x :: y :: r).length = (y :: r).length + 1 from rfl]
    lia
theorem getL_len (es : List (List Nat × List Nat)) (n : List Nat) : (getL es n).length ≤ es.length := by
  unfold getL
  rw [List.length_map]; exact List.length_filter_le _ _
theorem told_len (es : List (List Nat × List Nat)) : ∀ l : List (List Nat), (l.flatMap fun w => getL es (lowerL w)).length ≤ es.length * l.length
  | [] => by simp
  | x :: l => by
    have h1 := told_len es l
    have h2 := getL_len es (lowerL x)
    rw [List.flatMap_cons, List.length_append, List.length_cons, Nat.mul_add]; lia
noncomputable def vTake (n : Nat) : PV → PV
  | .str x => .str (x.take n)
  | p => p
theorem map_vTake (n : Nat) (l : List (List Nat)) : ((stsL l).filter fun _ => true).map (vTake n) = stsL (l.map fun x => x.take n) := by
  unfold stsL
  rw [List.filter_eq_self.mpr (fun _ _ => rfl), List.map_map, List.map_map]
  rfl
theorem textsL_small {ls : List (List Nat)} (h : ∀ l ∈ ls, l.all (· < 1114112) = true) : ∀ n, ∀ t ∈ textsL ls n, t.all (· < 1114112) = true
  | 0, t, ht => by simp [textsL] at ht; subst ht; rfl
  | n + 1, t, ht => by
    unfold textsL at ht
    obtain ⟨t', h1, h2⟩ := List.mem_flatMap.mp ht
    obtain ⟨l, h3, rfl⟩ := List.mem_map.mp h2
    rw [List.all_append, textsL_small h n t' h1, h l h3]; rfl
theorem dueL_small {ls : List (List Nat)} (h : ∀ l ∈ ls, l.all (· < 1114112) = true) {a b y : List Nat} {n : Nat} : ∀ t ∈ dueL ls a b y n, t.all (· < 1114112) = true := fun t ht => by
  unfold dueL at ht
  obtain ⟨j, _, h2⟩ := List.mem_flatMap.mp ht
  exact textsL_small h n t (List.mem_filter.mp h2).1
noncomputable def posK (d : Drawn3) (rs : Nat → List Nat) (k : Nat) : Nat := (wholeD d).length - (rs k).length
section
variable {f : Int → Option (List Nat)} {g : Int → Bool} {d : Drawn3} {rs : Nat → List Nat}
theorem Facts.pos (F : Facts f g d rs) {k : Nat} (hk : k ≤ 5) : posK d rs k ≤ (wholeD d).length ∧ (wholeD d).drop (posK d rs k) = rs k := by
  obtain ⟨p, hp⟩ := F.suf k hk
  refine ⟨Nat.sub_le _ _, ?_⟩
  unfold posK
  rw [hp, List.length_append, Nat.add_sub_cancel, List.drop_left]
theorem Facts.pos0 (F : Facts f g d rs) : posK d rs 0 = 0 := by unfold posK; rw [F.r0]; lia
end
section
variable {W : Wd} {k : Nat} {σ : Sig} {env : Env} {P : FM → Prop} {x y : List Nat}
theorem b_get (D : L1 W) (N : LexCls W) {A : LexA} {d : Drawn3} {rs : Nat → List Nat} {f : Int → Option (List Nat)} {g : Int → Bool} (Fx : Facts f g d rs) {i : Nat} {K : PV → Sig → Prop} (hi : i < 5) (hz : (wholeD d).length ≤ 1000000) (O : LexOK N.C A (wholeD d) σ)
    (h : K (.str (typedD d i)) (lxs N.C A (posK d rs (i + 1)) [] (lnAt (wholeD d) (posK d rs (i + 1))) σ)) : CC W (k + 4) (.ref N.gt) [.ref A.a] [] [] (lxs N.C A (posK d rs i) [] (lnAt (wholeD d) (posK d rs i)) σ) K := by
  obtain ⟨h1, h2⟩ := Fx.pos (k := i) (by exact z6 (by assumption) (by decide))
  refine gt_C D N O h1 hz ?_
  rw [h2, Fx.lex i hi]
  exact h
set_option maxHeartbeats 8000000 in
theorem law_C (D : L1 W) (N : LexCls W) (Hc : HdrCls W) (Pp : Prep W) {fa fd ll c sh ov du ta wa : Addr} {script : List Int} (F : Fn W fa "law" (defAt 28)) (Fd : Fn W fd "_law_drawn" (defAt 23)) (Gd : W.mg "_law_drawn" = some (.ref fd)) (Ft : Fn W ta "_law_typed" (defAt 21)) (Gt : W.mg "_law_typed" = some (.ref ta)) (Fw : Fn W wa "_law_written" (defAt 22)) (Gw : W.mg "_law_written" = some (.ref wa))
    (Fl : NestOK W ll c) (Gl : W.mg "_law_lexer" = some (.ref ll)) (Fs : Fn W sh "_law_shelved" (defAt 25)) (Gs : W.mg "_law_shelved" = some (.ref sh)) (Fo : Fn W ov "_law_overlaps" (defAt 26)) (Go : W.mg "_law_overlaps" = some (.ref ov)) (Fu : Fn W du "_law_due" (defAt 27)) (Gu : W.mg "_law_due" = some (.ref du))
    (hs : script.length ≤ 100000) (facts : ∀ d : Drawn3, d.f < 1000000 → d.s < 1000000 → d.t < 1000000 → ∃ rs, Facts Pp.f Pp.g d rs) : CC W (k + 5) (.ref fa) [.lst (intsL script)] [] [] σ (fun p _ => p = .bool true) := by
  obtain ⟨doc, pm, an, cd, ct, f1⟩ := F.fn
  have T := D.T
  refine CC_fcs T f1 [("script", .lst (intsL script), none)] 5 (bind1 (n := "script") (fun v => by rfl) ⟨rfl, rfl⟩) rfl ⟨rfl, trivial⟩ (by rfl) rfl fun (L : Nat) hL => ?_
  refine (?_ : XS W _ _ _ (fcs σ L _ [none, none, none, none, none]) _)
  refine XS_cons (X_AssignTup (E_Call [] (kp := .frame) (E_gl T Gd ?_)))
  refine EL_cons (E_l ?_)
  refine EL_nil (EK_nil ⟨FnC.kp Fd, (law_drawn_C (k := k + 2) D Fd Ft Gt Fw Gw hs fun d hd1 hd2 hd3 => ?_).call⟩)
  obtain ⟨rs, Fx⟩ := facts d hd1 hd2 hd3
  refine AT_tup T rfl ?_
  refine AT_name (S_c T 0 ?_)
  refine AT_name (S_c T 1 ?_)
  refine AT_name (S_l T ?_)
  refine AT_name (S_l T ?_)
  refine AT_name (S_l T ?_)
  refine (?_ : XS W _ _ _ (fcs σ L _ [some (.lst (stsL (dLs d))), some (.lst (stsL [dA d, dB d])), none, none, none]) _)
  have hw5 := wholeTo_len d 5 (by decide)
  have hwz : (wholeD d).length ≤ 80 := by unfold wholeD; rw [List.length_take]; lia
  -- the lexer
  refine XS_setc T 2 (gen fun K₁ hK₁ => E_Call [] (kp := .frame) (E_gl T Gl ?_))
  refine EL_cons (E_l ?_)
  have hkll : KP W .frame (.ref ll) (fcs σ L (fset (fset (fset (bm' (fun _ => none) [(("script" : Str), PV.lst (intsL script), none)]) "low" (.int (dLow d))) "typed" (.lst (stsL (typedTo d 5)))) "whole" (.str (wholeD d))) [some (.lst (stsL (dLs d))), some (.lst (stsL [dA d, dB d])), none, none, none]) := by
    obtain ⟨doc, pm, an, ct, f1⟩ := Fl.fn
    exact f1.kp
  refine EL_nil (EK_nil ⟨hkll, (law_lexer_C (k := k + 1) D N Fl fun A tpb hP h1 h2 h3 h4 h5 h6 => ?_).call⟩)
  have hP5 : L + 5 < A.P := fcs_fresh hP
  have hoff : A.off L 5 := ⟨by lia, by lia, by assumption, by lia⟩
  clear hkll hP
  rw [lexBase_fcs (show L + 5 < A.td by lia) (show L + 5 < A.tape by lia) (show L + 5 < tpb by lia) (show L + 5 < A.d by lia), lxs_off hoff]
  have O : LexOK N.C A (wholeD d) (lexBase N.C A tpb (wholeD d) σ) := lexBase_ok h1 h2 h3 h4 h5 h6
  generalize lexBase N.C A tpb (wholeD d) σ = τ at O
  have e0 : lxs N.C A 0 [] 1 τ = lxs N.C A (posK d rs 0) [] (lnAt (wholeD d) (posK d rs 0)) τ := by
    rw [Fx.pos0]
    have : lnAt (wholeD d) 0 = 1 := by unfold lnAt; simp
    rw [this]
  rw [e0]
  subst hK₁
  refine ⟨_, _, _, rfl, by simp, ?_⟩
  refine (?_ : XS W _ _ _ (fcs _ L _ [some (.lst (stsL (dLs d))), some (.lst (stsL [dA d, dB d])), some (.ref A.a), none, none]) _)
  clear e0
  -- four words
  have hmm : ∃ m : Str → Option PV, m "low" = some (.int (dLow d)) ∧ m "typed" = some (.lst (stsL (typedTo d 5))) ∧ m "whole" = some (.str (wholeD d)) ∧ m = (fset (fset (fset (bm' (fun _ => none) [(("script" : Str), PV.lst (intsL script), none)]) "low" (.int (dLow d))) "typed" (.lst (stsL (typedTo d 5)))) "whole" (.str (wholeD d))) := ⟨_, rfl, rfl, rfl, rfl⟩
  obtain ⟨m, hm1, hm2, hm3, em⟩ := hmm
  rw [← em]
  clear em
  have hAa : ∀ {p l m cs}, cs.length = 5 → fcs (lxs N.C A p [] l τ) L m cs A.a = some (.inst N.C A.d (lexF A.tape A.pb l) 4) := fun {p l m cs} hc => (fcs_gt (by rw [hc]; exact hoff.1)).trans lxs_a
  refine XS_setc T 3 (E_ListComp T (inums 0 4) (fun _ => True) ?_)
  refine E_Call [] (kp := .machine) (E_tn T D.B (n := "range") (by simp) ?_)
  refine EL_cons (E_int (EL_nil (EK_nil ⟨KP_typ, C_range1 T ⟨Itbl.rng0 (n := 4) (by decide), trivial, fun (D' : Nat) (L' : Nat) e1 (e2 : D' < L') e3 => ?_⟩⟩)))
  have hbel : A.below D' := by
    have key : ∀ b o, fcs (lxs N.C A (posK d rs 0) [] (lnAt (wholeD d) (posK d rs 0)) τ) L m [some (.lst (stsL (dLs d))), some (.lst (stsL [dA d, dB d])), some (.ref A.a), none, none] b = some o → b < D' := fun b o e => by
      rcases Nat.lt_or_ge b D' with q | q
      · exact q
      · have := e1 b q; rw [e] at this; cases this
    obtain ⟨fs, n, e, _⟩ := O.tape
    exact ⟨key A.a _ ((fcs_gt hoff.1).trans lxs_a), key A.pb _ ((fcs_gt hoff.2.1).trans (lxs_pb O)), key A.P _ ((fcs_gt hoff.2.2.1).trans (lxs_P O)), key A.tape _ ((fcs_gt hoff.2.2.2).trans ((lxs_else O.ta O.tb O.tp).trans e))⟩
  have hfrs : ∀ {p l}, Fresh (fcs (lxs N.C A p [] l τ) L m [some (.lst (stsL (dLs d))), some (.lst (stsL [dA d, dB d])), some (.ref A.a), none, none]) D' := fun {p l} b hb => by
    have h7 := e1 b hb
    have h8 : L + 5 < b := Nat.lt_trans hoff.1 (Nat.lt_of_lt_of_le hbel.1 hb)
    rw [fcs_gt h8, lxs_else (Nat.ne_of_gt (Nat.lt_of_lt_of_le hbel.1 hb)) (Nat.ne_of_gt (Nat.lt_of_lt_of_le hbel.2.1 hb)) (Nat.ne_of_gt (Nat.lt_of_lt_of_le hbel.2.2.1 hb))] at h7 ⊢
    exact h7
  refine ⟨fun i σ' => i ≤ 4 ∧ ∃ m', σ' = ins (fcs (lxs N.C A (posK d rs i) [] (lnAt (wholeD d) (posK d rs i)) τ) L m [some (.lst (stsL (dLs d))), some (.lst (stsL [dA d, dB d])), some (.ref A.a), none, none]) D' L' (stsL (typedTo d i)) m', ?_, ?_⟩
  · exact {
      start := ⟨Nat.zero_le _, fun _ => none, by rw [cellsUpd_none (by rfl)]; rfl⟩
      src := fun _ _ _ => trivial
      turn := fun i p σ' hp hpat => by
        obtain ⟨hi, m', e⟩ := hpat
        subst e
        obtain ⟨hi', rfl⟩ := int_at hp
        refine AT_name (S_local T rfl rfl ins_L ?_)
        show CI W _ _ [] ((ins _ D' L' _ m').upd L' (.frame _)) _
        rw [ins_set]
        refine CI_nil ?_
        rw [if_pos rfl]
        refine CB_elt T rfl (E_Meth [] (kp := .frame) (E_f 2 hfrs e2 ?_))
        refine GM_inst T N.X N.gtM.find N.gtM.ty (ins_old hfrs e2 (hAa rfl)) rfl ?_
        refine EL_nil (EK_nil ⟨N.gtM.kp, ?_⟩)
        rw [← lxs_off hoff, ← lxs_ins hbel e2]
        refine (b_get (k := k) D N Fx (show i < 5 by exact Nat.lt_of_lt_of_le (by assumption) (by decide)) (by exact Nat.le_trans (by assumption) (by decide)) ((O.off hoff).ins hbel.2.2.2 e2) ?_).call
        rw [lxs_ins hbel e2, lxs_off hoff]
        refine ⟨_, ins_D e2, ?_, hi', fset m' "turn" (.int (0 + (i : Nat))), ?_⟩
        · unfold stsL typedTo; rw [List.length_map, List.length_map, List.length_range]; exact Nat.le_trans (by assumption) (by decide)
        · rw [ins_acc e2, typedTo_succ]
          unfold stsL
          rw [List.map_append]; rfl }
  · rintro σ' ⟨_, m', rfl⟩
    rw [inums_len]
    refine ⟨_, m', ins_D e2, ins_L, ?_⟩
    rw [res_ins hfrs e2]
    refine ⟨_, _, _, rfl, by simp, ?_⟩
    refine (?_ : XS W _ _ _ (fcs _ L m [some (.lst (stsL (dLs d))), some (.lst (stsL [dA d, dB d])), some (.ref A.a), some (.lst (stsL (typedTo d 4))), none]) _)
    clear hfrs hbel m' e1 e2 e3 L' D'
    have htk : ∀ p ∈ stsL (typedTo d 4), ∃ j, j < 4 ∧ p = .str (typedD d j) := fun p hp => by
      unfold stsL typedTo at hp
      obtain ⟨x, hx, rfl⟩ := List.mem_map.mp hp
      obtain ⟨j, hj, rfl⟩ := List.mem_map.mp hx
      exact ⟨j, List.mem_range.mp hj, rfl⟩
    have hpl4 : ∀ x ∈ typedTo d 4, x.all (· < 1114112) = true := fun x hx => by
      unfold typedTo at hx
      obtain ⟨j, hj, rfl⟩ := List.mem_map.mp hx
      exact Fx.small j (Nat.lt_succ_of_lt (List.mem_range.mp hj))
    have h5l : ∀ j, j < 4 → ((five d).getD j []).length ≤ 3 := fun j hj => by
      obtain ⟨w, _, e, _, h⟩ := five_ok d j (by exact Nat.lt_of_lt_of_le (by assumption) (by decide))
      rw [e]; exact h
    refine XS_if (T_or (T_Compare (E_c 3 ?_)))
    refine E_SliceLst T (E_l ?_ hm2)
    refine EP_none (EP_some (E_int ⟨_, rfl, _, rfl, by simp [stsL, typedTo], ?_⟩))
    rw [show (4 : Int) = ((4 : Nat) : Int) from rfl, slc_to, show (stsL (typedTo d 5)).take 4 = stsL (typedTo d 4) from rfl]
    refine ne_same (plain_sts hpl4) (depth_sts _) (truthy_bool ?_)
    rw [if_neg (by decide)]
    refine T_Compare (E_Makes T (stsL (typedTo d 4)) (fun _ => True) (stsL (dLs d ++ [dA d, dB d])) (E_c 3 ?_))
    refine ⟨Itbl.lst, trivial, Makes1 T (fun _ => true) (vPrep Pp.f Pp.g) ?_ (by simp [stsL, typedTo]) (fun _ _ _ _ _ _ => trivial) (fun D' L' e1 e2 => ⟨fun p hp acc m => CI_nil ⟨rfl, rfl⟩, fun p hp _ acc m' => ?_⟩), ?_⟩
    · show [PV.str (prepL Pp.f Pp.g (typedD d 0)), PV.str (prepL Pp.f Pp.g (typedD d 1)), PV.str (prepL Pp.f Pp.g (typedD d 2)), PV.str (prepL Pp.f Pp.g (typedD d 3))] = _
      rw [Fx.prep 0 (by decide), Fx.prep 1 (by decide), Fx.prep 2 (by decide), Fx.prep 3 (by decide)]
      rfl
    · obtain ⟨j, hj, rfl⟩ := htk p hp
      have htl := (typedD_len d j (by exact Nat.lt_of_lt_of_le (by assumption) (by decide))).2
      have h5j := h5l j hj
      refine E_Call [] (kp := .frame) (E_gl T Pp.G ?_)
      refine EL_cons (E_m ?_ (fset_same _ _ _))
      refine EL_nil (EK_nil ⟨FnC.kp Pp.F, (law_prepared_C (k := k + 2) T D.B Pp.F Pp.F1 Pp.h1 Pp.hm1 Pp.S1 Pp.F3 Pp.h3 Pp.hm3 Pp.S3 (by exact Nat.le_trans (by assumption) (by decide)) (by rw [Fx.prep j hj]; exact Nat.le_trans (by assumption) (by decide)) ?_).call⟩)
      exact ⟨rfl, rfl⟩
    refine E_BinOp (E_c 0 (E_c 1 ?_))
    refine add_ll T (by simp [stsL, dLs]) ?_
    rw [show stsL (dLs d) ++ stsL [dA d, dB d] = stsL (dLs d ++ [dA d, dB d]) from rfl]
    refine ne_same (plain_sts fun x hx => Fx.smallF x ?_) (depth_sts _) (truthy_bool ?_)
    · unfold five
      simp only [dLs, List.cons_append, List.nil_append, List.mem_cons, List.not_mem_nil, or_false] at hx ⊢
      rcases hx with h | h | h | h
      · exact .inl h
      · exact .inr (.inl h)
      · exact .inr (.inr (.inl h))
      · exact .inr (.inr (.inr (.inl h)))
    refine XS_nil ?_
    -- what is left out
    refine XS_Makes T (stsL (typedTo d 4)) (fun _ => True) (intsL ((List.range 4).map fun k => ((typedD d k).length : Int) - (((five d).getD k []).length : Int))) (E_c 3 ?_)
    refine ⟨_, _, _, rfl, Itbl.lst, trivial, Makes1 T (fun _ => true) (vCnt Pp.g) ?_ (by simp [stsL, typedTo]) (fun _ _ _ _ _ _ => trivial) (fun D' L' e1 e2 => ⟨fun p hp acc m => CI_nil ⟨rfl, rfl⟩, fun p hp _ acc m' => ?_⟩), ?_⟩
    · show [PV.int (((typedD d 0).filter fun c : Nat => Pp.g c).length : Nat), PV.int (((typedD d 1).filter fun c : Nat => Pp.g c).length : Nat), PV.int (((typedD d 2).filter fun c : Nat => Pp.g c).length : Nat), PV.int (((typedD d 3).filter fun c : Nat => Pp.g c).length : Nat)] = _
      rw [Fx.cnt 0 (by decide), Fx.cnt 1 (by decide), Fx.cnt 2 (by decide), Fx.cnt 3 (by decide)]
      rfl
    · obtain ⟨j, hj, rfl⟩ := htk p hp
      have htl := (typedD_len d j (by exact Nat.lt_of_lt_of_le (by assumption) (by decide))).2
      refine E_Call [] (kp := .machine) (E_bn T D.B (n := "len") (by simp) ?_)
      refine EL_cons (E_Makes T (signs (typedD d j)) (fun _ => True) (signs ((typedD d j).filter fun c : Nat => Pp.g c)) (E_m ?_ (fset_same _ _ _)))
      refine ⟨Itbl.str, trivial, Makes1 T (kB1 Pp.g) (fun p => p) (signs_filter Pp.g _) (by rw [signs_len]; exact Nat.le_trans (by assumption) (by decide)) (fun _ _ _ _ _ _ => trivial) (fun D2 L2 g1 g2 => ⟨fun p hp acc m => ?_, fun p hp _ acc m' => ?_⟩), ?_⟩
      · obtain ⟨c, hc, rfl⟩ := List.mem_map.mp hp
        refine CI_one (T_Compare (E_Call [] (kp := .frame) (E_gl T Pp.h1 ?_)))
        refine EL_cons (E_m ?_ (fset_same _ _ _))
        refine EL_nil (EK_nil ⟨FnC.kp Pp.F1, (in_table_b1_C (k := k + 3) T D.B Pp.F1 Pp.hm1 Pp.S1 ?_).call⟩)
        refine E_bool (is_bb (truthy_bool ⟨rfl, ?_⟩))
        show (Pp.g c == true) = Pp.g c
        cases Pp.g c <;> rfl
      · exact E_m ⟨rfl, rfl⟩ (fset_same _ _ _)
      · have hfl : ((typedD d j).filter fun c : Nat => Pp.g c).length ≤ 6 := Nat.le_trans (List.length_filter_le _ _) htl
        refine EL_nil (EK_nil ⟨KP_blt, C_len_lst (by rw [signs_len]; exact Nat.le_trans (by assumption) (by decide)) ⟨rfl, ?_⟩⟩)
        rw [signs_len]; rfl
    refine XS_if (T_Compare (E_l ?_))
    refine E_Makes T (inums 0 4) (fun _ => True) (intsL ((List.range 4).map fun k => ((typedD d k).length : Int) - (((five d).getD k []).length : Int))) ?_
    refine E_Call [] (kp := .machine) (E_tn T D.B (n := "range") (by simp) ?_)
    refine EL_cons (E_int (EL_nil (EK_nil ⟨KP_typ, C_range1 T ⟨Itbl.rng0 (n := 4) (by decide), trivial, Makes1 T (fun _ => true) (vDif d) rfl (by rw [inums_len]; decide) (fun _ _ _ _ _ _ => trivial) (fun D' L' e1 e2 => ⟨fun p hp acc m => CI_nil ⟨rfl, rfl⟩, fun p hp _ acc m' => ?_⟩), ?_⟩⟩)))
    · obtain ⟨j, hj⟩ := List.getElem?_of_mem hp
      obtain ⟨hj4, rfl⟩ := int_at hj
      rw [show (0 : Int) + (j : Nat) = ((j : Nat) : Int) by exact Int.zero_add _]
      have htl := (typedD_len d j (by exact Nat.lt_of_lt_of_le (by assumption) (by decide))).2
      obtain ⟨w, hw1, hw2, _, hw4⟩ := five_ok d j (by exact Nat.lt_of_lt_of_le (by assumption) (by decide))
      refine E_BinOp (E_Call [] (kp := .machine) (E_bn T D.B (n := "len") (by simp) ?_))
      refine EL_cons (E_Sub (E_f 3 e1 e2 ?_))
      refine E_m ?_ (fset_same _ _ _)
      refine ⟨Sbs.lst, get_lst (p := .str (typedD d j)) (by exact Int.natCast_nonneg _) (by exact z2 (by assumption) (by decide)) ?_ ?_⟩
      · rw [Int.toNat_natCast]
        unfold stsL typedTo
        rw [List.getElem?_map, List.getElem?_map, List.getElem?_range (by assumption)]; rfl
      refine EL_nil (EK_nil ⟨KP_blt, C_len_str (by exact Nat.le_trans (by assumption) (by decide)) ?_⟩)
      refine E_Call [] (kp := .machine) (E_bn T D.B (n := "len") (by simp) ?_)
      refine EL_cons (E_Sub (E_BinOp (E_f 0 e1 e2 (E_f 1 e1 e2 ?_))))
      refine add_ll T (by simp [stsL, dLs]) (E_m ?_ (fset_same _ _ _))
      refine ⟨Sbs.lst, get_lst (p := .str w) (by exact Int.natCast_nonneg _) (by exact z2 (by assumption) (by decide)) ?_ ?_⟩
      · rw [Int.toNat_natCast, show stsL (dLs d) ++ stsL [dA d, dB d] = stsL (dLs d ++ [dA d, dB d]) from rfl]
        unfold stsL
        rw [List.getElem?_map]
        have hi4 : j = 0 ∨ j = 1 ∨ j = 2 ∨ j = 3 := by lia
        rcases hi4 with rfl | rfl | rfl | rfl <;> exact congrArg (Option.map PV.str) hw1
      refine EL_nil (EK_nil ⟨KP_blt, C_len_str (by exact Nat.le_trans (by assumption) (by decide)) (sub_ii ⟨rfl, ?_⟩)⟩)
      show _ = PV.int (((typedD d ((j : Nat) : Int).toNat).length : Int) - (((five d).getD ((j : Nat) : Int).toNat []).length : Int))
      rw [Int.toNat_natCast, hw2]
    refine ne_same (plains_ints _) (depth_ints _) (truthy_bool ?_)
    refine XS_nil ?_
    -- the shelf
    refine XS_setl T (E_Call [] (kp := .machine) (E_gl T Hc.G ?_))
    refine EL_nil (EK_nil ⟨Hc.kp _, (hmake_C (k := k + 2) D Hc fun (dd : Nat) (l : Nat) hdd hl => ?_).call⟩)
    have hAdd : A.below dd := by
      have key : ∀ b o, b ≠ L → fcs (lxs N.C A (posK d rs 4) [] (lnAt (wholeD d) (posK d rs 4)) τ) L (fset m "unseen" (.lst (intsL ((List.range 4).map fun k => ((typedD d k).length : Int) - (((five d).getD k []).length : Int))))) [some (.lst (stsL (dLs d))), some (.lst (stsL [dA d, dB d])), some (.ref A.a), some (.lst (stsL (typedTo d 4))), none] b = some o → b < dd := fun b o _ e => by
        rcases Nat.lt_or_ge b dd with q | q
        · exact q
        · have := hdd b q; rw [e] at this; cases this
      obtain ⟨fs, n, e, _⟩ := O.tape
      exact ⟨key A.a _ (by have := hoff.1; lia) ((fcs_gt hoff.1).trans lxs_a), key A.pb _ (by have := hoff.2.1; lia) ((fcs_gt hoff.2.1).trans (lxs_pb O)), key A.P _ (by have := hoff.2.2.1; lia) ((fcs_gt hoff.2.2.1).trans (lxs_P O)), key A.tape _ (by have := hoff.2.2.2; lia) ((fcs_gt hoff.2.2.2).trans ((lxs_else O.ta O.tb O.tp).trans e))⟩
    obtain ⟨q1, q2, q3, q4⟩ := hAdd
    have hLdd : L + 5 < dd := by have := hoff.1; lia
    have e5 : hds ⟨dd + 1, dd, l⟩ [] (((fcs (lxs N.C A (posK d rs 4) [] (lnAt (wholeD d) (posK d rs 4)) τ) L (fset m "unseen" (.lst (intsL ((List.range 4).map fun k => ((typedD d k).length : Int) - (((five d).getD k []).length : Int))))) [some (.lst (stsL (dLs d))), some (.lst (stsL [dA d, dB d])), some (.ref A.a), some (.lst (stsL (typedTo d 4))), none]).upd dd (.part (dd + 1))).upd (dd + 1) (.inst Hc.C dd (hdF l) 1)) =
        fcs (both N.C A ⟨dd + 1, dd, l⟩ (posK d rs 4) (lnAt (wholeD d) (posK d rs 4)) [] [] ((τ.upd dd (.part (dd + 1))).upd (dd + 1) (.inst Hc.C dd (hdF l) 1))) L (fset m "unseen" (.lst (intsL ((List.range 4).map fun k => ((typedD d k).length : Int) - (((five d).getD k []).length : Int))))) [some (.lst (stsL (dLs d))), some (.lst (stsL [dA d, dB d])), some (.ref A.a), some (.lst (stsL (typedTo d 4))), none] := by
      rw [fcs_gt' (show L + 5 < dd from hLdd), fcs_gt' (show L + 5 < dd + 1 by lia)]
      unfold hds both hds
      rw [fcs_gt' (show L + 5 < l by lia), lxs_upd (show l ≠ A.a by lia) (show l ≠ A.pb by lia) (show l ≠ A.P by lia), lxs_upd (show dd + 1 ≠ A.a by lia) (show dd + 1 ≠ A.pb by lia) (show dd + 1 ≠ A.P by lia), lxs_upd (show dd ≠ A.a by exact Nat.ne_of_gt (by assumption)) (show dd ≠ A.pb by exact Nat.ne_of_gt (by assumption)) (show dd ≠ A.P by exact Nat.ne_of_gt (by assumption))]
    rw [e5]
    clear e5
    have OB : BothOK N.C Hc.C A ⟨dd + 1, dd, l⟩ (wholeD d) ((τ.upd dd (.part (dd + 1))).upd (dd + 1) (.inst Hc.C dd (hdF l) 1)) := ⟨(O.upd (show dd ≠ A.tape by exact Nat.ne_of_gt (by assumption))).upd (show dd + 1 ≠ A.tape by lia), ⟨upd_same _ _ _, show dd + 1 ≠ l by exact Nat.ne_of_lt (by assumption)⟩, show l ≠ A.a by lia, show l ≠ A.pb by lia, show l ≠ A.P by lia, show l ≠ A.tape by lia, show dd + 1 ≠ A.a by lia, show dd + 1 ≠ A.pb by lia, show dd + 1 ≠ A.P by lia⟩
    have hHl : L + 5 < (HdrA.mk (dd + 1) dd l).l := show L + 5 < l by lia
    have hHa : L + 5 < (HdrA.mk (dd + 1) dd l).a := show L + 5 < dd + 1 by lia
    rw [show (PV.ref (dd + 1)) = .ref (HdrA.mk (dd + 1) dd l).a from rfl]
    generalize HdrA.mk (dd + 1) dd l = H at OB hHl hHa
    generalize ((τ.upd dd (.part (dd + 1))).upd (dd + 1) (.inst Hc.C dd (hdF l) 1)) = τ2 at OB
    refine ⟨_, _, _, rfl, ?_⟩
    have hmm : ∃ m2 : Str → Option PV, m2 "low" = some (.int (dLow d)) ∧ m2 "typed" = some (.lst (stsL (typedTo d 5))) ∧ m2 "whole" = some (.str (wholeD d)) ∧ m2 "shelf" = some (.ref H.a) ∧ m2 = fset (fset m "unseen" (.lst (intsL ((List.range 4).map fun k => ((typedD d k).length : Int) - (((five d).getD k []).length : Int))))) "shelf" (.ref H.a) := ⟨_, (fset_ne (by decide)).trans ((fset_ne (by decide)).trans hm1), (fset_ne (by decide)).trans ((fset_ne (by decide)).trans hm2), (fset_ne (by decide)).trans ((fset_ne (by decide)).trans hm3), rfl, rfl⟩
    obtain ⟨m2, j1, j2, j3, j4, em⟩ := hmm
    rw [← em]
    clear em hm1 hm2 hm3 q1 q2 q3 q4 hLdd hdd hl
    have hls1 : ∀ l ∈ dLs d, l.length = 1 := fun l hl => by
      simp only [dLs, List.mem_cons, List.not_mem_nil, or_false] at hl
      rcases hl with rfl | rfl <;> rfl
    have hlow : dLow d ≤ 20 := by unfold dLow; lia
    have hA3 : (dA d).length = 3 := wordD_len d _
    have hB3 : (dB d).length = 3 := wordD_len d _
    refine XS_if (gen fun K₁ hK₁ => T_not (T_val (E_Call [] (kp := .frame) (E_gl T Gs ?_))))
    refine EL_cons (E_c 2 (EL_cons (E_l ?_ j4)))
    refine EL_cons (E_c 0 (EL_cons (E_c 1 (EL_cons (E_l ?_ j1)))))
    refine EL_nil (EK_nil ⟨FnC.kp Fs, ?_⟩)
    rw [← both_off hoff hHl]
    refine (law_shelved_C (k := k + 1) D N Hc Pp Fs (OB.off hoff hHa) hA3 hB3 Fx.ab rfl hls1 Fx.ok hlow ?_).call
    rw [both_off hoff hHl]
    refine truthy_bool ?_
    subst hK₁
    refine XS_nil ?_
    have hES1 := shelfL_names (ls := dLs d) (a := dA d) (b := dB d) hlow 6 (by decide)
    have hES2 := shelfL_texts hls1 (a := dA d) (b := dB d) (low := dLow d) 6
    have hES3 := shelfL_len (ls := dLs d) rfl (dA d) (dB d) (dLow d) 6 (by decide)
    have hAsk := Fx.ask
    generalize hES : shelfL (dLs d) (dA d) (dB d) (dLow d) 6 = ES at hES1 hES2 hES3 hAsk
    refine XS_cut (fun σ' => ∃ m cs, σ' = fcs (both N.C A H (posK d rs 4) (lnAt (wholeD d) (posK d rs 4)) [] ES τ2) L m [some (.lst (stsL (dLs d))), some (.lst (stsL [dA d, dB d])), some (.ref A.a), some (.lst (stsL (typedTo d 4))), cs] ∧ m "typed" = some (.lst (stsL (typedTo d 5))) ∧ m "whole" = some (.str (wholeD d)))
      (X_For (q₀ := .rng 0 4) T (inums 0 4) (fun _ => True) (fun i σ' => ∃ m cs, σ' = fcs (both N.C A H (posK d rs 4) (lnAt (wholeD d) (posK d rs 4)) [] ES τ2) L m [some (.lst (stsL (dLs d))), some (.lst (stsL [dA d, dB d])), some (.ref A.a), some (.lst (stsL (typedTo d 4))), cs] ∧ m "low" = some (.int (dLow d)) ∧ m "typed" = some (.lst (stsL (typedTo d 5))) ∧ m "whole" = some (.str (wholeD d)) ∧ m "shelf" = some (.ref H.a)) ?_ (fun _ _ _ => trivial) ?_ ?_) ?_
    · refine E_Call [] (kp := .machine) (E_tn T D.B (n := "range") (by simp) ?_)
      exact EL_cons (E_int (EL_nil (EK_nil ⟨KP_typ, C_range1 T ⟨rfl, Itbl.rng0 (n := 4) (by decide), m2, _, rfl, j1, j2, j3, j4⟩⟩)))
    · rintro i p σ' hp ⟨m, cs, rfl, hm1, hm2, hm3, hm4⟩
      obtain ⟨hi4, rfl⟩ := int_at hp
      rw [show (0 : Int) + (i : Nat) = ((i : Nat) : Int) by exact Int.zero_add _]
      refine AT_name (S_c T 4 ?_)
      refine (?_ : XS W _ _ _ (fcs _ L m [some (.lst (stsL (dLs d))), some (.lst (stsL [dA d, dB d])), some (.ref A.a), some (.lst (stsL (typedTo d 4))), some (.int (i : Int))]) _)
      refine gen fun K₁ hK₁ => ?_
      refine XS_cons (X_For (q₀ := .lst (stsL [dA d, dB d])) T (stsL [dA d, dB d]) (fun _ => True) (fun _ σ' => ∃ m, σ' = fcs (both N.C A H (posK d rs 4) (lnAt (wholeD d) (posK d rs 4)) [] ES τ2) L m [some (.lst (stsL (dLs d))), some (.lst (stsL [dA d, dB d])), some (.ref A.a), some (.lst (stsL (typedTo d 4))), some (.int (i : Int))] ∧ m "low" = some (.int (dLow d)) ∧ m "typed" = some (.lst (stsL (typedTo d 5))) ∧ m "whole" = some (.str (wholeD d)) ∧ m "shelf" = some (.ref H.a)) ?_ (fun _ _ _ => trivial) ?_ ?_)
      · exact E_c 1 ⟨rfl, Itbl.lst, m, rfl, hm1, hm2, hm3, hm4⟩
      · rintro w p σ' hp ⟨m, rfl, hm1, hm2, hm3, hm4⟩
        obtain ⟨y, rfl, hy⟩ : ∃ y, p = .str y ∧ (y = dA d ∨ y = dB d) := by
          have := List.mem_of_getElem? hp
          simp only [stsL, List.map_cons, List.map_nil, List.mem_cons, List.not_mem_nil, or_false] at this
          rcases this with rfl | rfl
          · exact ⟨_, rfl, .inl rfl⟩
          · exact ⟨_, rfl, .inr rfl⟩
        have hy3 : y.length = 3 := by rcases hy with rfl | rfl <;> assumption
        obtain ⟨v0, v1, v2, v3⟩ := hAsk y hy i hi4
        refine AT_name (S_l T ?_)
        refine gen fun K₂ hK₂ => ?_
        refine XS_setl T (E_List (EL_nil ⟨by simp, _, _, _, rfl, ?_⟩))
        have hfl : (flagsL (askN d y i)).length ≤ 32 := by unfold flagsL; rw [List.length_map]; exact Nat.le_trans (List.length_filter_le _ _) (by simp)
        have hfm : ∀ x ∈ flagsL (askN d y i), ∃ q, q < 32 ∧ x = wordC q := fun x hx => by
          unfold flagsL at hx
          obtain ⟨q, hq, rfl⟩ := List.mem_map.mp hx
          exact ⟨q, List.mem_range.mp (List.mem_filter.mp hq).1, rfl⟩
        have hov : ((ovL (dA d) (dB d) y).map fun n : Nat => (n : Int)).sum = ((ovL (dA d) (dB d) y).sum : Nat) := by
          generalize ovL (dA d) (dB d) y = l
          induction l with
          | nil => rfl
          | cons x l ih => rw [List.map_cons, List.sum_cons, List.sum_cons, ih]; push_cast; rfl
        have hovb : (ovL (dA d) (dB d) y).sum < 2 ^ 32 := by
          have h8 : (ovL (dA d) (dB d) y).sum * 1 ≤ askN d y i := Nat.mul_le_mul_left _ (Nat.pow_pos (by decide))
          lia
        generalize hNs : flagsL (askN d y i) = Ns at hfl hfm v2 v3
        refine XS_cut (fun σ' => ∃ m, σ' = fcs (both N.C A H (posK d rs 4) (lnAt (wholeD d) (posK d rs 4)) [] ES τ2) L m [some (.lst (stsL (dLs d))), some (.lst (stsL [dA d, dB d])), some (.ref A.a), some (.lst (stsL (typedTo d 4))), some (.int (i : Int))] ∧ m "low" = some (.int (dLow d)) ∧ m "typed" = some (.lst (stsL (typedTo d 5))) ∧ m "whole" = some (.str (wholeD d)) ∧ m "shelf" = some (.ref H.a) ∧ m "word" = some (.str y) ∧ m "told" = some (.lst (stsL (Ns.flatMap fun w => getL ES (lowerL w)))))
          (X_For (q₀ := .lst (stsL Ns)) T (stsL Ns) (fun _ => True) (fun j σ' => ∃ m, σ' = fcs (both N.C A H (posK d rs 4) (lnAt (wholeD d) (posK d rs 4)) [] ES τ2) L m [some (.lst (stsL (dLs d))), some (.lst (stsL [dA d, dB d])), some (.ref A.a), some (.lst (stsL (typedTo d 4))), some (.int (i : Int))] ∧ m "low" = some (.int (dLow d)) ∧ m "typed" = some (.lst (stsL (typedTo d 5))) ∧ m "whole" = some (.str (wholeD d)) ∧ m "shelf" = some (.ref H.a) ∧ m "word" = some (.str y) ∧ m "told" = some (.lst (stsL ((Ns.take j).flatMap fun w => getL ES (lowerL w)))) ∧ j ≤ Ns.length) ?_ (fun _ _ _ => trivial) ?_ ?_) ?_
        · refine E_Meth [] (kp := .machine) (E_Call [] (kp := .frame) (E_gl T D.pfG ?_))
          refine EL_cons (E_BinOp (E_Call [] (kp := .frame) (E_gl T Go ?_)))
          refine EL_cons (E_c 1 (EL_cons (E_l ?_)))
          refine EL_nil (EK_nil ⟨FnC.kp Fo, (law_overlaps_C (k := k + 3) D Fo hA3 hB3 hy3 ?_).call⟩)
          rw [hov]
          refine E_BinOp (E_l ?_ ((fset_ne (by decide)).trans ((fset_ne (by decide)).trans hm1)))
          refine E_c 4 ?_
          refine add_ii (shl_ii (by lia) (by lia) (by rw [Int.natAbs_natCast]; exact Nat.lt_of_lt_of_le (by assumption) (by decide)) ?_)
          rw [show ((ovL (dA d) (dB d) y).sum : Int) * 2 ^ (((dLow d : Nat) : Int) + (i : Int)).toNat = ((askN d y i : Nat) : Int) by
            unfold askN
            rw [show (((dLow d : Nat) : Int) + (i : Int)).toNat = dLow d + i by lia]
            push_cast; rfl]
          refine EL_nil (EK_nil ⟨FnC.kp D.pfF, (pretty_flags_C (k := k + 3) D v0 v1 ?_).call⟩)
          rw [hNs]
          refine GM_str PySem.F.slot_str_split PySem.F.type_str_split ?_
          refine EL_cons (E_strL [44, 32] ?_)
          refine EL_nil (EK_nil ⟨KP_blt, C_split T (by simp) (by have := jn_len Ns (fun x hx => by obtain ⟨q, hq, rfl⟩ := hfm x hx; exact wordC_len ⟨q, hq⟩); lia) ?_⟩)
          rw [v2]
          exact ⟨rfl, Itbl.lst, _, rfl, (fset_ne (by decide)).trans ((fset_ne (by decide)).trans hm1), (fset_ne (by decide)).trans ((fset_ne (by decide)).trans hm2), (fset_ne (by decide)).trans ((fset_ne (by decide)).trans hm3), (fset_ne (by decide)).trans ((fset_ne (by decide)).trans hm4), rfl, rfl, Nat.zero_le _⟩
        · rintro j p σ' hp ⟨m, rfl, hm1, hm2, hm3, hm4, hm5, hm6, hj⟩
          obtain ⟨x, hx, rfl⟩ : ∃ x, Ns[j]? = some x ∧ p = .str x := by
            unfold stsL at hp
            rw [List.getElem?_map] at hp
            cases e : Ns[j]? with
            | none => rw [e] at hp; cases hp
            | some g => rw [e] at hp; exact ⟨g, rfl, (Option.some.inj hp).symm⟩
          have hjlt : j < Ns.length := by
            rcases Nat.lt_or_ge j Ns.length with q | q
            · exact q
            · rw [List.getElem?_eq_none q] at hx; cases hx
          obtain ⟨q, hq, rfl⟩ := hfm x (List.mem_of_getElem? hx)
          have hw1 := wordC_len ⟨q, hq⟩
          have hw2 := (wordC_lower_len ⟨q, hq⟩).1
          have hw3 := okN_of (wordC_okN ⟨q, hq⟩).1
          dsimp only at hw1 hw2 hw3
          have htl := told_len ES (Ns.take j)
          have hgl := getL_len ES (lowerL (wordC q))
          have hmul : ES.length * (Ns.take j).length ≤ 768 * 32 := Nat.mul_le_mul (by assumption) (by rw [List.length_take]; lia)
          refine AT_name (S_l T ?_)
          refine gen fun K₃ hK₃ => ?_
          refine XS_setl T (gen fun K₄ hK₄ => E_BinOp (E_l ?_ ((fset_ne (by decide)).trans hm6)))
          refine E_Meth [] (kp := .frame) (E_l ?_ ((fset_ne (by decide)).trans hm4))
          have OX : ∀ {m}, BothOK N.C Hc.C A H (wholeD d) (fcs τ2 L m [some (.lst (stsL (dLs d))), some (.lst (stsL [dA d, dB d])), some (.ref A.a), some (.lst (stsL (typedTo d 4))), some (.int (i : Int))]) := fun {m} => OB.off hoff hHa
          rw [← both_off hoff hHl, both_hds OX]
          refine GM_inst T Hc.X Hc.gaM.find Hc.gaM.ty ((upd_ne OB.hdr.al).trans OX.hdrl.at_) rfl ?_
          rw [← both_hds OX, both_off hoff hHl]
          refine EL_cons (E_l ?_)
          refine EL_nil (EK_nil ⟨Hc.gaM.kp, ?_⟩)
          rw [← both_off hoff hHl, both_hds OX]
          refine (ga_C (k := k + 2) D Hc OX.hdrl hw3 (by exact Nat.le_trans (by assumption) (by decide)) (by exact Nat.le_trans (by assumption) (by decide)) (by exact Nat.le_trans (by assumption) (by decide)) (fun e he => by have := hES1 e he; exact Nat.le_trans (by assumption) (by decide)) ?_).call
          rw [← both_hds OX, both_off hoff hHl]
          refine add_ll T (by unfold stsL; rw [List.length_map, List.length_map]; lia) ?_
          subst hK₄
          refine ⟨_, _, _, rfl, XS_nil ?_⟩
          subst hK₃
          refine ⟨_, rfl, (fset_ne (by decide)).trans ((fset_ne (by decide)).trans hm1), (fset_ne (by decide)).trans ((fset_ne (by decide)).trans hm2), (fset_ne (by decide)).trans ((fset_ne (by decide)).trans hm3), (fset_ne (by decide)).trans ((fset_ne (by decide)).trans hm4), (fset_ne (by decide)).trans ((fset_ne (by decide)).trans hm5), ?_, hjlt⟩
          rw [fset_same, List.take_add_one, hx, List.flatMap_append]
          unfold stsL
          rw [List.map_append]
          simp
        · rintro σ' ⟨m, rfl, hm1, hm2, hm3, hm4, hm5, hm6, _⟩
          have hlen : (stsL Ns).length = Ns.length := by unfold stsL; rw [List.length_map]
          rw [hlen, List.take_length] at hm6
          exact XS_nil ⟨rfl, m, rfl, hm1, hm2, hm3, hm4, hm5, hm6⟩
        rintro _ ⟨m, rfl, hm1, hm2, hm3, hm4, hm5, hm6⟩
        have htl := told_len ES Ns
        have hmul : ES.length * Ns.length ≤ 768 * 32 := Nat.mul_le_mul (by assumption) hfl
        refine XS_if (T_Compare (E_Makes T (stsL (Ns.flatMap fun w => getL ES (lowerL w))) (fun _ => True) (stsL (dueL (dLs d) (dA d) (dB d) y i)) (E_l ?_ hm6)))
        refine ⟨Itbl.lst, trivial, Makes1 T (fun _ => true) (vTake i) (by rw [map_vTake, v3]) (by unfold stsL; rw [List.length_map]; lia) (fun _ _ _ _ _ _ => trivial) (fun D' L' e1 e2 => ⟨fun p hp acc m => CI_nil ⟨rfl, rfl⟩, fun p hp _ acc m' => ?_⟩), ?_⟩
        · unfold stsL at hp
          obtain ⟨t, ht, rfl⟩ := List.mem_map.mp hp
          have htl6 : t.length ≤ 6 := by
            obtain ⟨w, _, h2⟩ := List.mem_flatMap.mp ht
            unfold getL at h2
            obtain ⟨e, h3, rfl⟩ := List.mem_map.mp h2
            exact hES2 e (List.mem_filter.mp h3).1
          refine E_SliceStr T (E_m ?_ (fset_same _ _ _))
          refine EP_none (EP_some (E_f 4 e1 e2 ⟨_, rfl, _, rfl, by exact Nat.le_trans (by assumption) (by decide), ?_⟩))
          rw [slc_to]
          exact ⟨rfl, rfl⟩
        refine E_Call [] (kp := .frame) (E_gl T Gu ?_)
        refine EL_cons (E_c 0 (EL_cons (E_c 1 (EL_cons (E_l ?_ hm5)))))
        refine EL_cons (E_c 4 ?_)
        refine EL_nil (EK_nil ⟨FnC.kp Fu, (law_due_C (k := k + 3) D Fu hA3 hB3 hy3 hy rfl hls1 (by lia) ?_).call⟩)
        refine ne_same (plain_sts (dueL_small fun l hl => Fx.smallF l ?_)) (depth_sts _) (truthy_bool ?_)
        · unfold five
          simp only [dLs, List.mem_cons, List.not_mem_nil, or_false] at hl ⊢
          rcases hl with h | h
          · exact .inl h
          · exact .inr (.inl h)
        refine XS_nil (XS_nil ?_)
        subst hK₂
        exact ⟨m, rfl, hm1, hm2, hm3, hm4⟩
      · rintro σ' ⟨m, rfl, hm1, hm2, hm3, hm4⟩
        refine XS_nil (XS_nil ?_)
        subst hK₁
        exact ⟨m, _, rfl, hm1, hm2, hm3, hm4⟩
    · rintro σ' ⟨m, cs, rfl, hm1, hm2, hm3, hm4⟩
      exact XS_nil ⟨rfl, m, cs, rfl, hm2, hm3⟩
    rintro _ ⟨m, cs, rfl, hm2, hm3⟩
    have hOl : LexOK N.C A (wholeD d) (hds H ES τ2) := OB.lexh
    refine XS_ret (E_Compare (E_List ?_))
    refine EL_cons (E_Meth [] (kp := .frame) (E_c 2 ?_))
    refine GM_inst T N.X N.gtM.find N.gtM.ty ((fcs_gt hoff.1).trans lxs_a) rfl ?_
    refine EL_nil (EK_nil ⟨N.gtM.kp, ?_⟩)
    unfold both
    rw [← lxs_off hoff]
    refine (b_get (k := k) D N Fx (show 4 < 5 by decide) (by exact Nat.le_trans (by assumption) (by decide)) (hOl.off hoff) ?_).call
    rw [lxs_off hoff]
    refine EL_cons (E_Meth [] (kp := .frame) (E_c 2 ?_))
    refine GM_inst T N.X N.gtM.find N.gtM.ty ((fcs_gt hoff.1).trans lxs_a) rfl ?_
    refine EL_nil (EK_nil ⟨N.gtM.kp, ?_⟩)
    rw [← lxs_off hoff]
    refine (gt_C (k := k) D N (hOl.off hoff) (Fx.pos (k := 5) (by decide)).1 (by exact Nat.le_trans (by assumption) (by decide)) ?_).call
    rw [(Fx.pos (k := 5) (by decide)).2, Fx.r5, show lexS [] = ([], []) from rfl, lxs_off hoff]
    refine EL_cons (E_Attr (E_c 2 ?_))
    refine OA_inst T N.X (N.no _ (by simp)) ((fcs_gt hoff.1).trans lxs_a) rfl (by intro n z; cases z) ?_
    refine EL_nil ⟨by simp, ?_⟩
    refine (E_List ?_ : E _ _ _ _ _ _)
    refine EL_cons (E_Sub (E_l ?_ hm2))
    refine E_int ⟨Sbs.lst, get_lst (p := .str (typedD d 4)) (by decide) (by decide) rfl ?_⟩
    refine EL_cons (E_strL [] ?_)
    refine (EL_cons' ?_ ?_ : EL _ _ _ _ _ _ _)
    · rfl
    refine (E_BinOp ?_ : E _ _ _ _ _ _)
    refine (E_int ?_ : E _ _ _ _ _ _)
    refine E_Meth [] (kp := .machine) (E_l ?_ hm3)
    refine GM_str PySem.F.slot_str_count PySem.F.type_str_count ?_
    refine EL_cons (E_strL [10] ?_)
    refine EL_nil (EK_nil ⟨KP_blt, C_count ?_⟩)
    refine add_ii ?_
    rw [countL_one]
    refine EL_nil ⟨by simp, ?_⟩
    have hln : lnAt (wholeD d) ((wholeD d).length - ([] : List Nat).length) = 1 + ((wholeD d).count 10 : Nat) := by
      unfold lnAt
      rw [List.length_nil, Nat.sub_zero, List.take_length]
    rw [hln]
    refine eq_same ?_ ?_ rfl
    · show (plain (.str (typedD d 4)) && _) = true
      rw [show plain (.str (typedD d 4)) = true from Fx.small 4 (by decide)]
      rfl
    · show (PyData.list [pd (.str (typedD d 4)), pd (.str []), pd (.int _)]).depth ≤ 64
      simp only [PyData.depth, PyData.depthAll, pd]
      decide
end
end Mine
end
section
set_option tactic.hygienic false
set_option hygiene false
set_option maxRecDepth 100000
namespace Mine
theorem lexU_row {e : Nat → List Nat} : ∀ (w tok r : List Nat), (∀ c ∈ w, e c = [92, c] ∨ (e c = [c] ∧ isW c = false ∧ c ≠ 92)) → lexU tok (w.flatMap e ++ r) = lexU (tok ++ w) r
  | [], tok, r, _ => by simp
  | c :: w, tok, r, h => by
    have ih := lexU_row (e := e) w (tok ++ [c]) r (fun x hx => h x (List.mem_cons_of_mem _ hx))
    rw [List.flatMap_cons, List.append_assoc]
    rcases h c (List.mem_cons_self ..) with h1 | ⟨h1, h2, h3⟩
    · rw [h1]
      show lexU tok (92 :: (c :: (w.flatMap e ++ r))) = _
      rw [lexU_92]
      show lexU (tok ++ [c]) (w.flatMap e ++ r) = _
      rw [ih, List.append_assoc]; rfl
    · rw [h1]
      show lexU tok (c :: (w.flatMap e ++ r)) = _
      rw [lexU_c _ _ h2 h3, ih, List.append_assoc]; rfl
theorem lexQ_row {e : Nat → List Nat} : ∀ (w tok r : List Nat), (∀ c ∈ w, e c = [92, c] ∨ (e c = [c] ∧ c ≠ 34 ∧ c ≠ 92)) → lexQ tok (w.flatMap e ++ r) = lexQ (tok ++ w) r
  | [], tok, r, _ => by simp
  | c :: w, tok, r, h => by
    have ih := lexQ_row (e := e) w (tok ++ [c]) r (fun x hx => h x (List.mem_cons_of_mem _ hx))
    rw [List.flatMap_cons, List.append_assoc]
    rcases h c (List.mem_cons_self ..) with h1 | ⟨h1, h2, h3⟩
    · rw [h1]
      show lexQ tok (92 :: (c :: (w.flatMap e ++ r))) = _
      rw [lexQ_92]
      show lexQ (tok ++ [c]) (w.flatMap e ++ r) = _
      rw [ih, List.append_assoc]; rfl
    · rw [h1]
      show lexQ tok (c :: (w.flatMap e ++ r)) = _
      rw [lexQ_c _ _ h2 h3, ih, List.append_assoc]; rfl
theorem esc_lt {way c : Nat} (h : way < 2) : escL way c = [92, c] := by unfold escL; rw [if_pos (.inl h)]
theorem esc_2 (c : Nat) : escL 2 c = [92, c] ∨ (escL 2 c = [c] ∧ c ≠ 34 ∧ c ≠ 92) := by
  unfold escL
  by_cases h : c ∈ keptT.getD 2 []
  · exact .inl (if_pos (.inr h))
  · refine .inr ⟨if_neg (fun z => z.elim (fun q => absurd q (by decide)) h), ?_, ?_⟩
    · rintro rfl; exact h (by decide)
    · rintro rfl; exact h (by decide)
theorem esc_3 {c : Nat} (h1 : c ≠ 10) (h2 : c ≠ 13) : escL 3 c = [92, c] ∨ (escL 3 c = [c] ∧ isW c = false ∧ c ≠ 92) := by
  unfold escL
  by_cases h : c ∈ keptT.getD 3 []
  · exact .inl (if_pos (.inr h))
  · have h3 : c ≠ 32 := by rintro rfl; exact h (by decide)
    have h4 : c ≠ 9 := by rintro rfl; exact h (by decide)
    have h5 : c ≠ 92 := by rintro rfl; exact h (by decide)
    refine .inr ⟨if_neg (fun z => z.elim (fun q => absurd q (by decide)) h), ?_, h5⟩
    unfold isW
    simp [h1, h2, h3, h4]
noncomputable def noEnd (w : List Nat) : Prop := ∀ c ∈ w, c ≠ 10 ∧ c ≠ 13
theorem lexS_w {wh : Nat} (h : isW wh = true) (r : List Nat) : lexS (wh :: r) = lexS r := by simp [lexS, h]
theorem lexS_34 (r : List Nat) : lexS (34 :: r) = lexQ [] r := by
  have : isW 34 = false := by decide
  simp [lexS, this]
theorem lexS_92 (r : List Nat) : lexS (92 :: r) = lexU (r.take 1) (r.drop 1) := by
  have : isW 92 = false := by decide
  simp [lexS, this]
theorem lexS_c {c : Nat} (r : List Nat) (h1 : isW c = false) (h2 : c ≠ 34) (h3 : c ≠ 92) : lexS (c :: r) = lexU [c] r := by simp [lexS, h1, h2, h3]
theorem lexS_bare {w r : List Nat} {way wh : Nat} (hw : w ≠ []) (hn : noEnd w) (hway : way = 0 ∨ way = 3) (h : isW wh = true) : lexS (wh :: (slashL w way ++ r)) = lexU w r := by
  rw [lexS_w h]
  cases w with
  | nil => exact absurd rfl hw
  | cons c w =>
    have hn' : ∀ x ∈ w, x ≠ 10 ∧ x ≠ 13 := fun x hx => hn x (List.mem_cons_of_mem _ hx)
    have hrow : ∀ tok, lexU tok (w.flatMap (escL way) ++ r) = lexU (tok ++ w) r := fun tok => lexU_row w tok r fun x hx => by
      rcases hway with rfl | rfl
      · exact .inl (esc_lt (by decide))
      · exact esc_3 (hn' x hx).1 (hn' x hx).2
    unfold slashL
    split
    · rename_i h3
      obtain ⟨rfl, h4⟩ := h3
      have h4 : c = 34 := h4
      subst h4
      have e34 : escL 3 34 = [34] := by decide
      rw [List.flatMap_cons, e34]
      show lexS (92 :: (34 :: (w.flatMap (escL 3) ++ r))) = _
      rw [lexS_92]
      exact hrow [34]
    · rename_i h3
      rw [List.flatMap_cons, List.append_assoc]
      have hc : escL way c = [92, c] ∨ (escL way c = [c] ∧ isW c = false ∧ c ≠ 34 ∧ c ≠ 92) := by
        rcases hway with rfl | rfl
        · exact .inl (esc_lt (by decide))
        · rcases esc_3 (hn c (List.mem_cons_self ..)).1 (hn c (List.mem_cons_self ..)).2 with q | ⟨q1, q2, q3⟩
          · exact .inl q
          · exact .inr ⟨q1, q2, fun z => h3 ⟨rfl, z⟩, q3⟩
      rcases hc with q | ⟨q1, q2, q3, q4⟩
      · rw [q]
        show lexS (92 :: (c :: (w.flatMap (escL way) ++ r))) = _
        rw [lexS_92]
        exact hrow [c]
      · rw [q1]
        show lexS (c :: (w.flatMap (escL way) ++ r)) = _
        rw [lexS_c _ q2 q3 q4]
        exact hrow [c]
theorem lexS_quoted {w r : List Nat} {way : Nat} (hway : way = 1 ∨ way = 2) : lexS (34 :: (slashL w way ++ r)) = lexQ w r := by
  rw [lexS_34]
  have e : slashL w way = w.flatMap (escL way) := by
    unfold slashL
    rw [if_neg (by lia)]
  rw [e]
  exact lexQ_row w [] r fun x hx => by
    rcases hway with rfl | rfl
    · exact .inl (esc_lt (by decide))
    · exact esc_2 x
theorem lex_word {w : List Nat} {way wh : Nat} (hw : w ≠ []) (hn : noEnd w) (hway : way < 4) (h : isW wh = true) (rest : List Nat) : lexS (writtenL w way [wh] ++ rest) = (w, rest) := by
  have : way = 1 ∨ way = 2 ∨ (way = 0 ∨ way = 3) := by lia
  rcases this with rfl | rfl | h3
  · show lexS ((34 :: slashL w 1) ++ [34] ++ rest) = _
    rw [List.append_assoc, List.cons_append, lexS_quoted (.inl rfl)]
    exact lexQ_34 _ _
  · show lexS ((wh :: 34 :: slashL w 2) ++ [34] ++ rest) = _
    rw [List.append_assoc, List.cons_append, lexS_w h, List.cons_append, lexS_quoted (.inr rfl)]
    exact lexQ_34 _ _
  · have e : writtenL w way [wh] = (wh :: slashL w way) ++ [wh] := by
      unfold writtenL
      rw [if_neg (by lia), if_neg (by lia)]; rfl
    rw [e, List.append_assoc, List.cons_append, lexS_bare hw hn h3 h]
    exact lexU_w _ _ h
theorem lex_last {w : List Nat} {way wh : Nat} (hw : w ≠ []) (hn : noEnd w) (hway : way < 4) (h : isW wh = true) : lexS (writtenL w way [wh]).dropLast = (w, []) := by
  have uN : ∀ t : List Nat, lexU t [] = (t, []) := fun t => rfl
  have qN : ∀ t : List Nat, lexQ t [] = (t, []) := fun t => rfl
  have : way = 1 ∨ way = 2 ∨ (way = 0 ∨ way = 3) := by lia
  rcases this with rfl | rfl | h3
  · show lexS ((34 :: slashL w 1) ++ [34]).dropLast = _
    rw [List.dropLast_concat]
    have := lexS_quoted (w := w) (r := []) (way := 1) (.inl rfl)
    rw [List.append_nil] at this
    rw [this, qN]
  · show lexS ((wh :: 34 :: slashL w 2) ++ [34]).dropLast = _
    rw [List.dropLast_concat, lexS_w h]
    have := lexS_quoted (w := w) (r := []) (way := 2) (.inr rfl)
    rw [List.append_nil] at this
    rw [this, qN]
  · have e : writtenL w way [wh] = (wh :: slashL w way) ++ [wh] := by
      unfold writtenL
      rw [if_neg (by lia), if_neg (by lia)]; rfl
    rw [e, List.dropLast_concat]
    have := lexS_bare (r := []) hw hn h3 h
    rw [List.append_nil] at this
    rw [this, uN]
noncomputable def restD (d : Drawn3) (k : Nat) : List Nat := if k < 5 then (((List.range' k (5 - k)).flatMap fun k => writtenL (typedD d k) (d.s / 56 / 4 ^ k % 4) (whiteD d k))).dropLast else []
theorem whiteD_w (d : Drawn3) (k : Nat) : ∃ wh, whiteD d k = [wh] ∧ isW wh = true := by
  have : (d.t + k) % 4 = 0 ∨ (d.t + k) % 4 = 1 ∨ (d.t + k) % 4 = 2 ∨ (d.t + k) % 4 = 3 := by lia
  unfold whiteD
  rcases this with e | e | e | e <;> (rw [e]; exact ⟨_, rfl, by decide⟩)
theorem written_ne (w : List Nat) (way : Nat) (white : List Nat) (h : white ≠ []) : writtenL w way white ≠ [] := by
  unfold writtenL
  split
  · simp
  · split <;> simp [h]
theorem dropLast_take {α : Type} (l : List α) : l.take (l.length - 1) = l.dropLast := (List.dropLast_eq_take ..).symm
theorem restD_lex (d : Drawn3) (hne : ∀ k, k < 5 → typedD d k ≠ [] ∧ noEnd (typedD d k)) (k : Nat) (hk : k < 5) : lexS (restD d k) = (typedD d k, restD d (k + 1)) := by
  obtain ⟨wh, hw1, hw2⟩ := whiteD_w d k
  obtain ⟨h1, h2⟩ := hne k hk
  unfold restD
  rw [if_pos hk]
  by_cases h4 : k = 4
  · subst h4
    rw [if_neg (by decide), show List.range' 4 (5 - 4) = [4] from rfl, List.flatMap_cons, List.flatMap_nil, List.append_nil, hw1]
    exact lex_last h1 h2 (Nat.mod_lt _ (by decide)) hw2
  · rw [if_pos (by lia), show 5 - k = (5 - (k + 1)) + 1 from sub_s (by lia), List.range'_succ, List.flatMap_cons]
    have hne2 : (List.range' (k + 1) (5 - (k + 1))).flatMap (fun k => writtenL (typedD d k) (d.s / 56 / 4 ^ k % 4) (whiteD d k)) ≠ [] := by
      rw [show 5 - (k + 1) = (5 - (k + 2)) + 1 from sub_s (by lia), List.range'_succ, List.flatMap_cons]
      obtain ⟨wh', hw1', _⟩ := whiteD_w d (k + 1)
      intro z
      exact written_ne _ _ _ (by rw [hw1']; simp) (List.append_eq_nil_iff.mp z).1
    rw [List.dropLast_append_of_ne_nil hne2, hw1]
    exact lex_word h1 h2 (Nat.mod_lt _ (by decide)) hw2 _
theorem restD_0 (d : Drawn3) : restD d 0 = wholeD d := by
  unfold restD wholeD
  rw [if_pos (by decide), dropLast_take]
  rfl
theorem restD_suf (d : Drawn3) : ∀ k, k ≤ 5 → ∃ p, wholeD d = p ++ restD d k
  | 0, _ => ⟨[], by rw [restD_0]; rfl⟩
  | k + 1, hk => by
    obtain ⟨p, hp⟩ := restD_suf d k (by lia)
    by_cases h4 : k = 4
    · subst h4
      exact ⟨wholeD d, by unfold restD; rw [if_neg (by decide), List.append_nil]⟩
    · refine ⟨p ++ writtenL (typedD d k) (d.s / 56 / 4 ^ k % 4) (whiteD d k), ?_⟩
      rw [hp]
      unfold restD
      rw [if_pos (by lia), if_pos (by lia), show 5 - k = (5 - (k + 1)) + 1 from sub_s (by lia), List.range'_succ, List.flatMap_cons]
      have hne2 : (List.range' (k + 1) (5 - (k + 1))).flatMap (fun k => writtenL (typedD d k) (d.s / 56 / 4 ^ k % 4) (whiteD d k)) ≠ [] := by
        rw [show 5 - (k + 1) = (5 - (k + 2)) + 1 from sub_s (by lia), List.range'_succ, List.flatMap_cons]
        obtain ⟨wh', hw1', _⟩ := whiteD_w d (k + 1)
        intro z
        exact written_ne _ _ _ (by rw [hw1']; simp) (List.append_eq_nil_iff.mp z).1
      rw [List.dropLast_append_of_ne_nil hne2, List.append_assoc]
end Mine
end
section
set_option tactic.hygienic false
set_option hygiene false
set_option maxRecDepth 100000
namespace Mine
structure FG (f : Int → Option (List Nat)) (g : Int → Bool) : Prop where
  letter : ∀ c : Fin 26, ∀ m : Fin 12, ((signT (97 + c.val) m.val).all fun x => !g x && decide (b3L f x = [97 + c.val]) && decide (x < 1114112 ∧ x ≠ 10 ∧ x ≠ 13)) = true
  mark : ∀ j : Fin 21, (!g ((marksT.getD j.val 0).toNat : Nat) && decide (b3L f (marksT.getD j.val 0).toNat = [(marksT.getD j.val 0).toNat])) = true
  unseen : ∀ u : Fin 54, ((unsT u.val).all fun x => x.all fun y : Nat => g y && decide (y < 1114112 ∧ y ≠ 10 ∧ y ≠ 13)) = true
  prepW : ∀ p : Fin 32, prepL f g (wordC p.val) = lowerL (wordC p.val)
theorem mark_ok : ∀ j : Fin 21, decide ((marksT.getD j.val 0).toNat < 65536 ∧ (marksT.getD j.val 0).toNat ≠ 10 ∧ (marksT.getD j.val 0).toNat ≠ 13 ∧ ¬ (97 ≤ (marksT.getD j.val 0).toNat ∧ (marksT.getD j.val 0).toNat < 123) ∧ (32 ≤ (marksT.getD j.val 0).toNat ∨ (marksT.getD j.val 0).toNat = 9) ∧ (marksT.getD j.val 0).toNat ≠ 127) = true := by decide
noncomputable def goodC (f : Int → Option (List Nat)) (g : Int → Bool) (c : Nat) : Prop := ∀ m, m < 12 → ∃ x, signT c m = [x] ∧ g x = false ∧ b3L f x = [c] ∧ x < 1114112 ∧ x ≠ 10 ∧ x ≠ 13
theorem signT_one (c m : Nat) : ∃ x, signT c m = [x] := by
  have := signT_len c m
  match h : signT c m with
  | [] => rw [h] at this; cases this
  | [x] => exact ⟨x, rfl⟩
  | _ :: _ :: _ => rw [h] at this; cases this
section
variable {f : Int → Option (List Nat)} {g : Int → Bool} (H : FG f g)
include H
theorem good_letter (d : Drawn3) : ∀ c ∈ dL d, goodC f g c := fun c hc m hm => by
  have hc := List.mem_singleton.mp hc
  subst hc
  have := H.letter ⟨d.f % 26, Nat.mod_lt _ (by decide)⟩ ⟨m, hm⟩
  obtain ⟨x, hx⟩ := signT_one (97 + d.f % 26) m
  dsimp only at this
  rw [hx] at this
  simp only [List.all_cons, List.all_nil, Bool.and_true, Bool.and_eq_true, decide_eq_true_eq, Bool.not_eq_true'] at this
  exact ⟨x, hx, this.1.1, this.1.2, this.2⟩
theorem good_mark (d : Drawn3) : ∀ c ∈ dM d, goodC f g c := fun c hc m hm => by
  have hc := List.mem_singleton.mp hc
  have h1 := H.mark ⟨d.f / 26 % 21, Nat.mod_lt _ (by decide)⟩
  have h2 := of_decide_eq_true (mark_ok ⟨d.f / 26 % 21, Nat.mod_lt _ (by decide)⟩)
  dsimp only at h1 h2
  rw [← hc] at h1 h2
  simp only [Bool.and_eq_true, decide_eq_true_eq, Bool.not_eq_true'] at h1
  refine ⟨c, ?_, h1.1, h1.2, by lia, h2.2.1, h2.2.2.1⟩
  unfold signT
  rw [if_neg (fun z => h2.2.2.2.1 ⟨z.1, z.2.1⟩), if_neg (fun z => h2.2.2.2.1 ⟨z.1, z.2.1⟩)]
theorem good_word (d : Drawn3) (n : Nat) : ∀ c ∈ wordD d n, goodC f g c := fun c hc => by
  unfold wordD at hc
  obtain ⟨l, h1, h2⟩ := List.mem_flatten.mp hc
  obtain ⟨i, h3, rfl⟩ := List.mem_map.mp h1
  have hm : n / 2 ^ (2 - i) % 2 = 0 ∨ n / 2 ^ (2 - i) % 2 = 1 := by lia
  rcases hm with e | e
  · rw [e] at h2; exact good_letter H d c h2
  · rw [e] at h2; exact good_mark H d c h2
theorem good_five (d : Drawn3) : ∀ x ∈ five d, ∀ c ∈ x, goodC f g c := fun x hx => by
  unfold five at hx
  simp only [List.mem_cons, List.not_mem_nil, or_false] at hx
  rcases hx with rfl | rfl | rfl | rfl | rfl
  · exact good_letter H d
  · exact good_mark H d
  · exact good_word H d _
  · exact good_word H d _
  · exact good_word H d _
theorem part_ok {w : List Nat} (hw : ∀ c ∈ w, goodC f g c) (n : Nat) {i : Nat} (hi : i < w.length) : (∃ x, (partT w n i).flatten.filter (fun c : Nat => !g c) = [x] ∧ b3L f x = [w.getD i 0]) ∧ ∀ y ∈ (partT w n i).flatten, y < 1114112 ∧ y ≠ 10 ∧ y ≠ 13 := by
  have hc : w.getD i 0 ∈ w := by rw [List.getD_eq_getElem?_getD, List.getElem?_eq_getElem hi]; exact List.getElem_mem hi
  obtain ⟨x, h1, h2, h3, h4⟩ := hw _ hc ((n + 5 * i) % 12) (Nat.mod_lt _ (by decide))
  have hu := H.unseen ⟨(n / 12 + 11 * i) % 54, Nat.mod_lt _ (by decide)⟩
  dsimp only at hu
  have hu2 : ∀ y ∈ (unsT ((n / 12 + 11 * i) % 54)).flatten, g (y : Nat) = true ∧ y < 1114112 ∧ y ≠ 10 ∧ y ≠ 13 := fun y hy => by
    obtain ⟨l, h5, h6⟩ := List.mem_flatten.mp hy
    have := List.all_eq_true.mp (List.all_eq_true.mp hu l h5) y h6
    simpa using this
  unfold partT
  rw [List.flatten_cons, h1]
  refine ⟨⟨x, ?_, h3⟩, fun y hy => ?_⟩
  · have hz : (unsT ((n / 12 + 11 * i) % 54)).flatten.filter (fun c : Nat => !g c) = [] := List.filter_eq_nil_iff.mpr fun y hy => by rw [(hu2 y hy).1]; decide
    rw [List.filter_append, hz, List.append_nil, List.filter_cons, h2]
    rfl
  · rcases List.mem_append.mp hy with q | q
    · rw [List.mem_singleton.mp q]; exact h4
    · exact (hu2 y q).2
theorem typed_ok {w : List Nat} (hw : ∀ c ∈ w, goodC f g c) (n : Nat) : ∀ k, k ≤ w.length → prepL f g (partsT w n k).flatten = w.take k ∧ ((partsT w n k).flatten.filter fun c : Nat => !g c).length = k ∧ ∀ y ∈ (partsT w n k).flatten, y < 1114112 ∧ y ≠ 10 ∧ y ≠ 13
  | 0, _ => ⟨by simp [partsT, prepL], by simp [partsT], by simp [partsT]⟩
  | k + 1, hk => by
    obtain ⟨h1, h2, h3⟩ := typed_ok hw n k (by lia)
    obtain ⟨⟨x, h4, h5⟩, h6⟩ := part_ok H hw n (show k < w.length by lia)
    rw [partsT_succ, List.flatten_append]
    refine ⟨?_, ?_, fun y hy => (List.mem_append.mp hy).elim (h3 y) (h6 y)⟩
    · unfold prepL at h1 ⊢
      rw [List.filter_append, List.map_append, List.flatten_append, h1, h4, List.map_cons, List.map_nil, List.flatten_cons, List.flatten_nil, List.append_nil, h5, List.take_add_one, List.getD_eq_getElem?_getD, List.getElem?_eq_getElem (show k < w.length by lia)]
      rfl
    · rw [List.filter_append, List.length_append, h2, h4]; rfl
theorem typedD_ok (d : Drawn3) {k : Nat} (hk : k < 5) : prepL f g (typedD d k) = (five d).getD k [] ∧ ((typedD d k).filter fun c : Nat => !g c).length = ((five d).getD k []).length ∧ ∀ y ∈ typedD d k, y < 1114112 ∧ y ≠ 10 ∧ y ≠ 13 := by
  obtain ⟨w, h1, h2, _, _⟩ := five_ok d k hk
  have hw := good_five H d w (List.mem_of_getElem? h1)
  obtain ⟨h3, h4, h5⟩ := typed_ok H hw (d.t + 13 * k) w.length (Nat.le_refl _)
  unfold typedD typedL
  rw [h2]
  exact ⟨by rw [h3, List.take_length], h4, h5⟩
end
end Mine
end
section
set_option tactic.hygienic false
set_option hygiene false
set_option maxRecDepth 100000
namespace Mine
noncomputable def infixB (x y : List Nat) : Bool := (List.range (x.length + 1)).any fun i => decide (i + y.length ≤ x.length) && ((x.drop i).take y.length == y)
theorem subOf_eq (x y : List Nat) : subOf x y = infixB x y := by
  unfold subOf infixB
  rw [Bool.eq_iff_iff]
  have h := StrLaws.found_iff ⟨x.toArray⟩ ⟨y.toArray⟩
  rw [str_len] at h
  rw [h, List.any_eq_true]
  have e : ∀ i, Builtin.Str.subAt ⟨x.toArray⟩ ⟨y.toArray⟩ i = ((x.drop i).take y.length == y) := fun i => by
    rw [StrLaws.subAt_eq, str_len]
  constructor
  · rintro ⟨i, h1, h2⟩
    rw [e] at h2
    rw [str_len] at h1
    exact ⟨i, List.mem_range.mpr (by lia), by rw [h2, decide_eq_true h1]; rfl⟩
  · rintro ⟨i, _, h2⟩
    rw [Bool.and_eq_true, decide_eq_true_eq] at h2
    exact ⟨i, by rw [str_len]; exact h2.1, by rw [e]; exact h2.2⟩
section
variable {φ : Nat → Nat} (hφ : ∀ x y, φ x = φ y → x = y)
include hφ
theorem M_inj {x y : List Nat} : x.map φ = y.map φ ↔ x = y := ⟨fun h => (List.map_inj_right hφ).mp h, fun h => by rw [h]⟩
theorem M_dec {x y : List Nat} : decide (x.map φ = y.map φ) = decide (x = y) := decide_eq_decide.mpr (M_inj hφ)
theorem M_beq {x y : List Nat} : (x.map φ == y.map φ) = (x == y) := by rw [Bool.eq_iff_iff, beq_iff_eq, beq_iff_eq]; exact M_inj hφ
theorem infix_M (x y : List Nat) : infixB (x.map φ) (y.map φ) = infixB x y := by
  unfold infixB
  rw [List.length_map, List.length_map]
  congr 1
  funext i
  rw [← List.map_drop, ← List.map_take, M_beq hφ]
omit hφ in
theorem last3_M (x : List Nat) : last3 (x.map φ) = (last3 x).map φ := by unfold last3; rw [List.length_map, List.map_drop]
omit hφ in
theorem wAt_M (a b : List Nat) (i : Nat) : wAt (a.map φ) (b.map φ) i = (wAt a b i).map φ := by unfold wAt; split <;> rfl
theorem metL_M (a b x : List Nat) : metL (a.map φ) (b.map φ) (x.map φ) = metL a b x := by
  unfold metL
  congr 1
  funext i
  rw [last3_M, wAt_M, M_dec hφ]
theorem ovL_M (a b y : List Nat) : ovL (a.map φ) (b.map φ) (y.map φ) = ovL a b y := by
  unfold ovL
  congr 1
  funext i
  congr 1
  congr 1
  funext j
  rw [wAt_M, ← List.map_drop, ← List.map_take, M_dec hφ]
theorem endsL_M (a b y f : List Nat) : endsL (a.map φ) (b.map φ) (y.map φ) (f.map φ) = endsL a b y f := by
  unfold endsL
  congr 1
  funext k
  congr 1
  congr 1
  funext i
  rw [wAt_M, ← List.map_take, ← List.map_append, last3_M, M_dec hφ]
theorem avoids_M (a b f : List Nat) : avoids (a.map φ) (b.map φ) (f.map φ) = avoids a b f := by
  unfold avoids
  rw [subOf_eq, subOf_eq, subOf_eq, subOf_eq, infix_M hφ, infix_M hφ]
noncomputable def MM (φ : Nat → Nat) (xs : List (List Nat)) : List (List Nat) := xs.map fun x => x.map φ
omit hφ in
theorem cand_M (ls ts : List (List Nat)) : candL (MM φ ls) (MM φ ts) = MM φ (candL ls ts) := by
  unfold candL MM
  rw [List.flatMap_map, List.map_flatMap]
  congr 1
  funext t
  rw [List.map_map, List.map_map]
  congr 1
  funext l
  show t.map φ ++ l.map φ = (t ++ l).map φ
  rw [List.map_append]
omit hφ in
theorem texts_M (ls : List (List Nat)) : ∀ n, textsL (MM φ ls) n = MM φ (textsL ls n)
  | 0 => rfl
  | n + 1 => by
    have := cand_M (φ := φ) ls (textsL ls n)
    unfold candL at this
    unfold textsL
    rw [texts_M ls n, this]
theorem qOf_M (a b : List Nat) (s : Nat) (xs : List (List Nat)) : qOf (a.map φ) (b.map φ) s (MM φ xs) = MM φ (qOf a b s xs) := by
  unfold qOf MM
  rw [List.filter_map]
  congr 1
  congr 1
  funext x
  show ((metL (a.map φ) (b.map φ) (x.map φ)).isEmpty && _) = _
  rw [metL_M hφ]
theorem queue_M (ls : List (List Nat)) (a b : List Nat) : ∀ s, queueL (MM φ ls) (a.map φ) (b.map φ) s = MM φ (queueL ls a b s)
  | 0 => rfl
  | s + 1 => by
    unfold queueL
    rw [queue_M ls a b s, cand_M, qOf_M hφ]
theorem due_M (ls : List (List Nat)) (a b y : List Nat) (n : Nat) : dueL (MM φ ls) (a.map φ) (b.map φ) (y.map φ) n = MM φ (dueL ls a b y n) := by
  unfold dueL
  rw [texts_M]
  show _ = List.map _ _
  rw [List.map_flatMap]
  congr 1
  funext j
  unfold dueAt MM
  rw [List.filter_map]
  congr 1
  congr 1
  funext f
  show (avoids (a.map φ) (b.map φ) (f.map φ) && decide ((endsL (a.map φ) (b.map φ) (y.map φ) (f.map φ)).head? = some j)) = _
  rw [avoids_M hφ, endsL_M hφ]
end
noncomputable def eI (a b : List Nat) (s : Nat) (xs : List (List Nat)) : List (Nat × List Nat) := (xs.filter fun x => !(metL a b x).isEmpty).map fun x => (s - 1 + 6 * (metL a b x).headD 0, x)
noncomputable def shelfI (ls : List (List Nat)) (a b : List Nat) : Nat → List (Nat × List Nat)
  | 0 => []
  | s + 1 => shelfI ls a b s ++ eI a b (s + 1) (candL ls (queueL ls a b s))
noncomputable def nameQ (low q : Nat) : List Nat := if q < 6 then lowerL (wordC (low + q)) else upperL (lowerL (wordC (low + q)))
theorem headD_lt {a b x : List Nat} (h : (!(metL a b x).isEmpty) = true) : (metL a b x).headD 0 < 2 := by
  cases e : metL a b x with
  | nil => rw [e] at h; cases h
  | cons z r => exact metL_lt (x := x) (a := a) (b := b) (by rw [e]; exact List.mem_cons_self ..)
theorem eOf_eI (a b : List Nat) (low s : Nat) (h1 : 1 ≤ s) (h2 : s ≤ 6) (xs : List (List Nat)) : eOf a b low s xs = (eI a b s xs).map fun e => (nameQ low e.1, e.2) := by
  unfold eOf eI
  rw [List.map_map]
  refine List.map_congr_left fun x hx => ?_
  have hlt := headD_lt (List.mem_filter.mp hx).2
  show (nameS low s ((metL a b x).headD 0), x) = (nameQ low (s - 1 + 6 * (metL a b x).headD 0), x)
  congr 1
  have : (metL a b x).headD 0 = 0 ∨ (metL a b x).headD 0 = 1 := by lia
  unfold nameS nameQ
  rcases this with e | e
  · rw [e, if_pos rfl, if_pos (by lia), show low + s - 1 = low + (s - 1 + 6 * 0) by lia]
  · rw [e, if_neg (by decide), if_neg (by lia), show low + s + 5 = low + (s - 1 + 6 * 1) by lia]
theorem shelf_I (ls : List (List Nat)) (a b : List Nat) (low : Nat) : ∀ s, s ≤ 6 → shelfL ls a b low s = (shelfI ls a b s).map fun e => (nameQ low e.1, e.2)
  | 0, _ => rfl
  | s + 1, h => by
    unfold shelfL shelfI
    rw [shelf_I ls a b low s (by lia), eOf_eI a b low (s + 1) (by lia) h, List.map_append]
theorem shelfI_lt (ls : List (List Nat)) (a b : List Nat) : ∀ s, s ≤ 6 → ∀ e ∈ shelfI ls a b s, e.1 < 12
  | 0, _, e, he => by simp [shelfI] at he
  | s + 1, h, e, he => by
    unfold shelfI at he
    rcases List.mem_append.mp he with q | q
    · exact shelfI_lt ls a b s (by lia) e q
    · unfold eI at q
      obtain ⟨x, hx, rfl⟩ := List.mem_map.mp q
      have hlt := headD_lt (List.mem_filter.mp hx).2
      show s + 1 - 1 + 6 * (metL a b x).headD 0 < 12
      lia
theorem lower_low : ∀ p : Fin 32, lowerL (lowerL (wordC p.val)) = lowerL (wordC p.val) ∧ lowerL (upperL (lowerL (wordC p.val))) = lowerL (wordC p.val) := by decide +kernel
theorem lower_inj : ∀ p q : Fin 32, lowerL (wordC p.val) = lowerL (wordC q.val) → p = q := by decide +kernel
theorem get_shelf {ls : List (List Nat)} {a b : List Nat} {low q : Nat} (hlow : low ≤ 20) (hq : q < 12) : getL (shelfL ls a b low 6) (lowerL (wordC (low + q))) = ((shelfI ls a b 6).filter fun e => decide (e.1 = q)).map (·.2) := by
  rw [shelf_I ls a b low 6 (by decide)]
  have hlt := shelfI_lt ls a b 6 (by decide)
  generalize shelfI ls a b 6 = es at hlt
  unfold getL
  rw [List.filter_map, List.map_map]
  have e : es.filter ((fun e : List Nat × List Nat => decide (lowerL e.1 = lowerL (wordC (low + q)))) ∘ fun e : Nat × List Nat => (nameQ low e.1, e.2)) = es.filter fun e => decide (e.1 = q) := by
    refine List.filter_congr fun e he => ?_
    have h12 := hlt e he
    show decide (lowerL (nameQ low e.1) = lowerL (wordC (low + q))) = decide (e.1 = q)
    have hn : lowerL (nameQ low e.1) = lowerL (wordC (low + e.1)) := by
      unfold nameQ
      split
      · exact (lower_low ⟨low + e.1, by lia⟩).1
      · exact (lower_low ⟨low + e.1, by lia⟩).2
    rw [hn]
    refine decide_eq_decide.mpr ⟨fun h => ?_, fun h => by rw [h]⟩
    have := lower_inj ⟨low + e.1, by lia⟩ ⟨low + q, by lia⟩ h
    have := congrArg Fin.val this
    dsimp only at this
    lia
  rw [e]
  rfl
end Mine
end
section
set_option tactic.hygienic false
set_option hygiene false
set_option maxRecDepth 100000
namespace Mine
open PySem.StrLaws
theorem at_iff (X : List Nat) (k : Nat) : At (st X) (st [44, 32]) X.length k ↔ (X.drop k).take 2 = [44, 32] := by
  unfold At
  rw [subAt_eq, show (st [44, 32]).length = 2 from rfl]
  show (k + 2 ≤ X.length ∧ ((X.drop k).take 2 == [44, 32]) = true) ↔ _
  rw [beq_iff_eq]
  refine ⟨fun h => h.2, fun h => ⟨?_, h⟩⟩
  have := congrArg List.length h
  rw [List.length_take, List.length_drop] at this
  have e : ([44, 32] : List Nat).length = 2 := rfl
  lia
theorem sub_take (X : List Nat) (a b : Nat) : (Builtin.Str.strSub (st X) a b).cps.toList = (X.drop a).take (b - a) := by rw [strSub_toList]; rfl
theorem not_at {X w r : List Nat} {a k : Nat} (h : X.drop a = w ++ r) (hw : 44 ∉ w) (h1 : a ≤ k) (h2 : k < a + w.length) : ¬ At (st X) (st [44, 32]) X.length k := fun z => by
  rw [at_iff] at z
  have e : X.drop k = (w.drop (k - a)) ++ r := by
    have : X.drop k = (X.drop a).drop (k - a) := by rw [List.drop_drop]; congr 1; lia
    rw [this, h, List.drop_append_of_le_length (by lia)]
  rw [e] at z
  cases hd : w.drop (k - a) with
  | nil =>
    have := congrArg List.length hd
    rw [List.length_drop] at this
    simp at this; lia
  | cons c t =>
    rw [hd] at z
    have hc : c = 44 := by simpa using congrArg List.head? z
    have : c ∈ w := List.mem_of_mem_drop (by rw [hd]; exact List.mem_cons_self ..)
    rw [hc] at this
    exact hw this
theorem parts_jn (X : List Nat) : ∀ (ws : List (List Nat)) (a : Nat) (cuts : List Nat) (f : Nat), ws ≠ [] → (∀ w ∈ ws, 44 ∉ w) → a ≤ X.length → X.drop a = jn [44, 32] ws → ChainG (st X) (st [44, 32]) X.length a cuts f → (∀ k, f ≤ k → ¬ At (st X) (st [44, 32]) X.length k) → (partsFrom (st X) 2 a cuts).map (fun z : Str => z.cps.toList) = ws
  | [], _, _, _, h, _, _, _, _, _ => absurd rfl h
  | [w], a, cuts, f, _, hw, hax, hX, hC, hn => by
    have hX : X.drop a = w ++ [] := by rw [hX]; simp [jn]
    have hlen : X.length = a + w.length := by
      have := congrArg List.length hX
      rw [List.length_drop, List.length_append] at this
      simp at this
      lia
    cases cuts with
    | nil =>
      show [(Builtin.Str.strSub (st X) a (st X).length).cps.toList] = _
      rw [sub_take, show (st X).length = X.length from str_len X, hX, List.append_nil, List.take_of_length_le (by lia)]
    | cons c r =>
      obtain ⟨h1, h2, _⟩ := hC
      have h3 : c + 2 ≤ X.length := h2.1
      exact absurd h2 (not_at hX (hw w (List.mem_singleton.mpr rfl)) h1 (by lia))
  | w :: w2 :: r, a, cuts, f, _, hw, hax, hX, hC, hn => by
    have hX1 : X.drop a = w ++ ([44, 32] ++ jn [44, 32] (w2 :: r)) := by rw [hX, ← List.append_assoc]; rfl
    have hdw : X.drop (a + w.length) = [44, 32] ++ jn [44, 32] (w2 :: r) := by rw [← List.drop_drop, hX1, List.drop_left]
    have hAt : At (st X) (st [44, 32]) X.length (a + w.length) := (at_iff _ _).mpr (by rw [hdw]; rfl)
    have hdw2 : X.drop (a + w.length + 2) = jn [44, 32] (w2 :: r) := by rw [← List.drop_drop, hdw]; rfl
    have hw0 := hw w (List.mem_cons_self ..)
    cases cuts with
    | nil =>
      have e : f = a := hC
      subst e
      exact absurd hAt (hn _ (by lia))
    | cons c cs =>
      obtain ⟨h1, h2, h3, h4⟩ := hC
      have hc : c = a + w.length := by
        rcases Nat.lt_trichotomy c (a + w.length) with q | q | q
        · exact absurd h2 (not_at hX1 hw0 h1 q)
        · exact q
        · exact absurd hAt (h3 _ (by lia) q)
      subst hc
      have hle : a + w.length + 2 ≤ X.length := hAt.1
      have ih := parts_jn X (w2 :: r) (a + w.length + 2) cs f (by simp) (fun x hx => hw x (List.mem_cons_of_mem _ hx)) hle hdw2 h4 hn
      show (Builtin.Str.strSub (st X) a (a + w.length)).cps.toList :: (partsFrom (st X) 2 (a + w.length + 2) cs).map (fun z : Str => z.cps.toList) = _
      rw [ih, sub_take, Nat.add_sub_cancel_left, hX1, List.take_left]
theorem split_jn {ws : List (List Nat)} (h0 : ws ≠ []) (hw : ∀ w ∈ ws, 44 ∉ w) : splitL (jn [44, 32] ws) [44, 32] = ws := by
  generalize hX : jn [44, 32] ws = X
  have hl : (st X).length = X.length := str_len X
  obtain ⟨f, hG, hn⟩ := occ_tight (st X) (st [44, 32]) (by decide)
  rw [hl] at hG hn
  have key := parts_jn X ws 0 _ f h0 hw (Nat.zero_le _) (by rw [List.drop_zero, hX]) hG hn
  unfold splitL Txt.split
  split
  · rename_i hc
    rw [Bool.or_eq_true, decide_eq_true_eq, decide_eq_true_eq] at hc
    have hlt : X.length < 2 := by
      rcases hc with h | h
      · have e2 : (st [44, 32]).length = 2 := rfl
        lia
      · have e1 : Builtin.Str.strKind (st [44, 32]) = 1 := by decide +kernel
        rw [e1] at h
        unfold Builtin.Str.strKind at h
        exfalso
        revert h
        split
        · lia
        · split <;> lia
    match ws, h0, hX with
    | [w], _, hX =>
      have : w = X := by rw [← hX]; rfl
      rw [this]
      show [(st X).cps.toList] = [X]
      simp [st]
    | w :: w2 :: r, _, hX =>
      have := congrArg List.length hX
      have e : (jn [44, 32] (w :: w2 :: r)).length = w.length + 2 + (jn [44, 32] (w2 :: r)).length := by
        show (w ++ [44, 32] ++ jn [44, 32] (w2 :: r)).length = _
        rw [List.length_append, List.length_append]; rfl
      lia
  · split
    · rename_i he
      have e0 : Builtin.Str.occurrences (st X) (st [44, 32]) 0 (st X).length ((st X).length + 1) = [] := List.isEmpty_iff.mp he
      rw [hl] at e0
      rw [e0] at key
      have e1 : partsFrom (st X) 2 0 [] = [st X] := by
        show [Builtin.Str.strSub (st X) 0 (st X).length] = _
        rw [sub_whole]
      rw [e1] at key
      exact key
    · rw [partsBetween_eq, hl]
      exact key
end Mine
end
section
set_option tactic.hygienic false
set_option hygiene false
set_option maxRecDepth 100000
namespace Mine
noncomputable def bitsN (n : Nat) : List Nat := [n / 4 % 2, n / 2 % 2, n % 2]
noncomputable def ovs : List Nat := [4, 5, 7, 68, 69, 71, 132, 133, 196, 199, 256, 257, 258, 259, 320, 321, 322, 448, 449, 451]
noncomputable def toldI (sh : List (Nat × List Nat)) (n ov : Nat) : List (List Nat) := ((List.range 9).filter fun j => ov.testBit j).flatMap fun j => ((sh.filter fun e => decide (e.1 = n + j)).map (·.2)).map fun x => x.take n
noncomputable def dueI (a b y : List Nat) (n : Nat) : List (List Nat) := (List.range 6).flatMap fun j => (textsL [[0], [1]] n).filter fun f => (!infixB f a && !infixB f b) && decide ((endsL a b y f).head? = some j)
theorem dueI_eq (a b y : List Nat) (n : Nat) : dueL [[0], [1]] a b y n = dueI a b y n := by
  unfold dueL dueI dueAt avoids
  congr 1
  funext j
  congr 1
  funext f
  rw [subOf_eq, subOf_eq]
noncomputable def okSh (a b : List Nat) (sh : List (Nat × List Nat)) : Bool := [a, b].all fun y => ovs.contains (ovL a b y).sum && (List.range 4).all fun n => toldI sh n (ovL a b y).sum == dueI a b y n
noncomputable def okPair (i j : Nat) : Bool := i == j || okSh (bitsN i) (bitsN j) (shelfI [[0], [1]] (bitsN i) (bitsN j) 6)
theorem okAll : ((List.range 8).all fun i => (List.range 8).all fun j => okPair i j) = true := by decide +kernel
noncomputable def okBits (t ov : Nat) : Bool := (((List.range 32).filter fun i => (ov * 2 ^ t).testBit i) == ((List.range 9).filter fun j => ov.testBit j).map fun j => t + j) && decide (ov * 2 ^ t ≠ 0 ∧ ov * 2 ^ t < 2 ^ 32)
theorem okBitsA : ((List.range 24).all fun t => ovs.all fun ov => okBits t ov) = true := by decide +kernel
theorem wordC_44 : ∀ p : Fin 32, ((wordC p.val).all fun c => decide (c ≠ 44)) = true := by decide +kernel
theorem ovs_ne : (ovs.all fun ov => !((List.range 9).filter fun j => ov.testBit j).isEmpty) = true := by decide +kernel
section
variable {φ : Nat → Nat} (hφ : ∀ x y, φ x = φ y → x = y)
include hφ
theorem eI_M (a b : List Nat) (s : Nat) (xs : List (List Nat)) : eI (a.map φ) (b.map φ) s (MM φ xs) = (eI a b s xs).map fun e => (e.1, e.2.map φ) := by
  unfold eI MM
  rw [List.filter_map, List.map_map, List.map_map]
  have e : xs.filter ((fun x => !(metL (a.map φ) (b.map φ) x).isEmpty) ∘ fun x => x.map φ) = xs.filter fun x => !(metL a b x).isEmpty := by
    congr 1
    funext x
    show (!(metL (a.map φ) (b.map φ) (x.map φ)).isEmpty) = _
    rw [metL_M hφ]
  rw [e]
  refine List.map_congr_left fun x _ => ?_
  show (s - 1 + 6 * (metL (a.map φ) (b.map φ) (x.map φ)).headD 0, x.map φ) = (s - 1 + 6 * (metL a b x).headD 0, x.map φ)
  rw [metL_M hφ]
theorem shelfI_M (ls : List (List Nat)) (a b : List Nat) : ∀ s, shelfI (MM φ ls) (a.map φ) (b.map φ) s = (shelfI ls a b s).map fun e => (e.1, e.2.map φ)
  | 0 => rfl
  | s + 1 => by
    unfold shelfI
    rw [shelfI_M ls a b s, queue_M hφ, cand_M, eI_M hφ, List.map_append]
end
noncomputable def phi (l m k : Nat) : Nat := if k = 0 then l else if k = 1 then m else k + l + m + 2
theorem phi_inj {l m : Nat} (h : l ≠ m) : ∀ x y, phi l m x = phi l m y → x = y := fun x y e => by
  unfold phi at e
  split at e <;> split at e <;> (try split at e) <;> (try split at e) <;> lia
noncomputable def dl (d : Drawn3) : Nat := 97 + d.f % 26
noncomputable def dm (d : Drawn3) : Nat := (marksT.getD (d.f / 26 % 21) 0).toNat
theorem dl_ne (d : Drawn3) : dl d ≠ dm d := fun e => by
  have h2 := of_decide_eq_true (mark_ok ⟨d.f / 26 % 21, Nat.mod_lt _ (by decide)⟩)
  dsimp only at h2
  unfold dl dm at e
  rw [← e] at h2
  exact h2.2.2.2.1 ⟨by lia, by lia⟩
theorem dLs_M (d : Drawn3) : dLs d = MM (phi (dl d) (dm d)) [[0], [1]] := rfl
theorem wordD_M (d : Drawn3) (n : Nat) : wordD d n = (bitsN n).map (phi (dl d) (dm d)) := by
  have h : ∀ j, j < 2 → (dLs d).getD j [] = [phi (dl d) (dm d) j] := fun j hj => by
    have : j = 0 ∨ j = 1 := by lia
    rcases this with rfl | rfl <;> rfl
  unfold wordD bitsN
  rw [show List.range 3 = [0, 1, 2] from rfl]
  simp only [List.map_cons, List.map_nil]
  rw [h _ (Nat.mod_lt _ (by decide)), h _ (Nat.mod_lt _ (by decide)), h _ (Nat.mod_lt _ (by decide))]
  rw [show (2 : Nat) ^ (2 - 0) = 4 from rfl, show (2 : Nat) ^ (2 - 1) = 2 from rfl, show (2 : Nat) ^ (2 - 2) = 1 from rfl, Nat.div_one]
  rfl
theorem pair_ok (d : Drawn3) : okSh (bitsN (d0 d)) (bitsN (d1 d)) (shelfI [[0], [1]] (bitsN (d0 d)) (bitsN (d1 d)) 6) = true ∧ d0 d ≠ d1 d := by
  have h0 : d0 d < 8 := Nat.mod_lt _ (by decide)
  have h1 : d1 d < 8 := Nat.mod_lt _ (by decide)
  have hne : d0 d ≠ d1 d := by unfold d0 d1; lia
  have := List.all_eq_true.mp (List.all_eq_true.mp okAll _ (List.mem_range.mpr h0)) _ (List.mem_range.mpr h1)
  unfold okPair at this
  rw [show (d0 d == d1 d) = false by simpa using hne, Bool.false_or] at this
  exact ⟨this, hne⟩
theorem bits_inj : ∀ i j : Fin 8, bitsN i.val = bitsN j.val → i = j := by decide
theorem ask_ok (d : Drawn3) (y : List Nat) (hy : y = dA d ∨ y = dB d) (n : Nat) (hn : n < 4) : askN d y n ≠ 0 ∧ askN d y n < 2 ^ 32 ∧ splitL (jn [44, 32] (flagsL (askN d y n))) [44, 32] = flagsL (askN d y n) ∧
    ((flagsL (askN d y n)).flatMap fun w => getL (shelfL (dLs d) (dA d) (dB d) (dLow d) 6) (lowerL w)).map (fun x => x.take n) = dueL (dLs d) (dA d) (dB d) y n := by
  obtain ⟨hsh, _⟩ := pair_ok d
  have hlow : dLow d ≤ 20 := by unfold dLow; lia
  have hA : dA d = (bitsN (d0 d)).map (phi (dl d) (dm d)) := wordD_M d _
  have hB : dB d = (bitsN (d1 d)).map (phi (dl d) (dm d)) := wordD_M d _
  have hinj := phi_inj (dl_ne d)
  generalize hφ : phi (dl d) (dm d) = φ at hA hB hinj
  obtain ⟨y0, hy0, hym⟩ : ∃ y0, y = y0.map φ ∧ y0 ∈ [bitsN (d0 d), bitsN (d1 d)] := by
    rcases hy with rfl | rfl
    · exact ⟨_, hA, by simp⟩
    · exact ⟨_, hB, by simp⟩
  unfold okSh at hsh
  have hs2 := List.all_eq_true.mp hsh y0 hym
  rw [Bool.and_eq_true] at hs2
  obtain ⟨ho, hd⟩ := hs2
  have hd := eq_of_beq (List.all_eq_true.mp hd n (List.mem_range.mpr hn))
  have hov : ovL (dA d) (dB d) y = ovL (bitsN (d0 d)) (bitsN (d1 d)) y0 := by rw [hA, hB, hy0, ovL_M hinj]
  generalize hov' : (ovL (bitsN (d0 d)) (bitsN (d1 d)) y0).sum = ov at ho hd
  have hask : askN d y n = ov * 2 ^ (dLow d + n) := by unfold askN; rw [hov, hov']
  have ht24 : dLow d + n < 24 := by lia
  have hfl := List.all_eq_true.mp (List.all_eq_true.mp okBitsA (dLow d + n) (List.mem_range.mpr ht24)) ov (List.contains_iff_mem.mp ho)
  have f3 := List.all_eq_true.mp ovs_ne ov (List.contains_iff_mem.mp ho)
  unfold okBits at hfl
  rw [Bool.and_eq_true, decide_eq_true_eq] at hfl
  obtain ⟨f1, f2⟩ := hfl
  have hflags : flagsL (askN d y n) = ((List.range 9).filter fun j => ov.testBit j).map fun j => wordC (dLow d + n + j) := by
    unfold flagsL
    rw [hask, eq_of_beq f1, List.map_map]; rfl
  rw [hask] at hflags ⊢
  refine ⟨f2.1, f2.2, ?_, ?_⟩
  · rw [hflags]
    refine split_jn (fun z => ?_) fun w hw => ?_
    · rw [List.map_eq_nil_iff.mp z] at f3; cases f3
    · obtain ⟨j, hj, rfl⟩ := List.mem_map.mp hw
      have hj9 := List.mem_range.mp (List.mem_filter.mp hj).1
      intro hm
      have := List.all_eq_true.mp (wordC_44 ⟨dLow d + n + j, by lia⟩) 44 hm
      exact of_decide_eq_true this rfl
  · rw [hflags, List.flatMap_map, List.map_flatMap]
    have hs3 : ∀ j ∈ (List.range 9).filter (fun j => ov.testBit j), (getL (shelfL (dLs d) (dA d) (dB d) (dLow d) 6) (lowerL (wordC (dLow d + n + j)))).map (fun x => x.take n) = MM φ ((((shelfI [[0], [1]] (bitsN (d0 d)) (bitsN (d1 d)) 6).filter fun e => decide (e.1 = n + j)).map (·.2)).map fun x => x.take n) := fun j hj => by
      have hj9 := List.mem_range.mp (List.mem_filter.mp hj).1
      rw [show dLow d + n + j = dLow d + (n + j) by lia, get_shelf hlow (by lia), dLs_M, hφ, hA, hB, shelfI_M hinj, List.filter_map, List.map_map, List.map_map, List.map_map]
      unfold MM
      rw [List.map_map]
      refine List.map_congr_left fun e _ => ?_
      show (e.2.map φ).take n = (e.2.take n).map φ
      rw [List.map_take]
    have e1 : ((List.range 9).filter fun j => ov.testBit j).flatMap (fun j => (getL (shelfL (dLs d) (dA d) (dB d) (dLow d) 6) (lowerL (wordC (dLow d + n + j)))).map (fun x => x.take n)) = MM φ (toldI (shelfI [[0], [1]] (bitsN (d0 d)) (bitsN (d1 d)) 6) n ov) := by
      unfold toldI MM
      rw [List.map_flatMap]
      generalize (List.range 9).filter (fun j => ov.testBit j) = l at hs3
      induction l with
      | nil => rfl
      | cons j l ih => rw [List.flatMap_cons, List.flatMap_cons, hs3 j (List.mem_cons_self ..), ih fun k hk => hs3 k (List.mem_cons_of_mem _ hk)]; rfl
    refine Eq.trans e1 ?_
    rw [hd, ← dueI_eq, dLs_M, hφ, hA, hB, hy0, due_M hinj]
theorem facts_of {f : Int → Option (List Nat)} {g : Int → Bool} (H : FG f g) (d : Drawn3) : ∃ rs, Facts f g d rs := by
  have hne : ∀ k, k < 5 → typedD d k ≠ [] ∧ noEnd (typedD d k) := fun k hk => by
    refine ⟨fun z => ?_, fun y hy => ((typedD_ok H d hk).2.2 y hy).2⟩
    have := (typedD_len d k hk).1
    rw [z] at this; cases this
  refine ⟨restD d, ?_⟩
  exact {
    r0 := restD_0 d
    r5 := rfl
    suf := restD_suf d
    lex := restD_lex d hne
    prep := fun k hk => (typedD_ok H d (by exact Nat.lt_of_lt_of_le (by assumption) (by decide))).1
    cnt := fun k hk => by
      have h1 := (typedD_ok H d (show k < 5 by exact Nat.lt_of_lt_of_le (by assumption) (by decide))).2.1
      have h2 : ∀ l : List Nat, (l.filter fun c : Nat => g c).length + (l.filter fun c : Nat => !g c).length = l.length := fun l => by
        induction l with
        | nil => rfl
        | cons c l ih => rw [List.filter_cons, List.filter_cons]; cases g c <;> simp <;> lia
      have := h2 (typedD d k)
      lia
    small := fun k hk => List.all_eq_true.mpr fun y hy => decide_eq_true ((typedD_ok H d hk).2.2 y hy).1
    ask := ask_ok d
    ab := fun e => by
      obtain ⟨_, h⟩ := pair_ok d
      unfold dA dB at e
      rw [wordD_M, wordD_M] at e
      have := bits_inj ⟨d0 d, Nat.mod_lt _ (by decide)⟩ ⟨d1 d, Nat.mod_lt _ (by decide)⟩ ((M_inj (phi_inj (dl_ne d))).mp e)
      exact h (congrArg Fin.val this)
    ok := fun l hl => by
      simp only [dLs, List.mem_cons, List.not_mem_nil, or_false] at hl
      rcases hl with rfl | rfl
      · intro c hc
        have := List.mem_singleton.mp hc
        lia
      · intro c hc
        have hc := List.mem_singleton.mp hc
        have h2 := of_decide_eq_true (mark_ok ⟨d.f / 26 % 21, Nat.mod_lt _ (by decide)⟩)
        dsimp only at h2
        rw [← hc] at h2
        exact h2.2.2.2.2
    smallF := fun x hx => List.all_eq_true.mpr fun c hc => by
      have := small_sign d x hx c hc
      exact decide_eq_true (by exact Nat.lt_of_lt_of_le (by assumption) (by decide)) }
end Mine
end
section
set_option tactic.hygienic false
set_option hygiene false
namespace Mine
noncomputable abbrev BRes (α : Type) := Except Value α × Pos × Shared
noncomputable def bigAgain (run : Ctx → Sem Fin → Pos → Shared → Option (BRes Fin)) (den : Code → Sem Fin) : Nat → Ctx → Pos → Shared → Option (Result × Shared)
  | 0, _, _, _ => none
  | n + 1, Γ, p, s => match run Γ (den Γ.code) p s with
    | none => none
    | some (r, p', s') => match r with
      | .error e => some (.error e, s')
      | .ok (.done f) => some (.ok f, s')
      | .ok (.again c) => match c.quiet with
        | true => bigAgain run den n (Γ.goto c) p' s'
        | false => none
noncomputable def big (den : Code → Sem Fin) (prog : Program) (w : World) : Nat → ∀ (α : Type), Ctx → Sem α → Pos → Shared → Option (BRes α)
  | 0, _, _, _, _, _ => none
  | n + 1, α, Γ, x, p, s => match x with
    | .pure a => some (.ok a, p, s)
    | .raise e => some (.error e, p, s)
    | .rule _ k => big den prog w n α Γ (k ()) p s
    | .at p' k => big den prog w n α Γ (k ()) p' s
    | .load a _ k => match s.heap.get? a with
      | some o => big den prog w n α Γ (k o) p s
      | none => none
    | .update a _ f k => match (s.heap.get? a).isSome with
      | true => big den prog w n α Γ (k ()) p { s with heap := s.heap.update a f }
      | false => none
    | .loadIfAlive a k => big den prog w n α Γ (k (s.heap.get? a)) p s
    | .point _ k => big den prog w n α Γ (k ()) p s
    | .alloc o k => big den prog w n α Γ (k s.heap.objs.size) p { s with heap := s.heap.push o }
    | .fresh k => big den prog w n α Γ (k s.toks) p { s with toks := s.toks + 1 }
    | .ask k => big den prog w n α Γ (k ⟨prog, w.params⟩) p s
    | .call c h _ _ k => match bigAgain (big den prog w n Fin) den n (Γ.enter c h p) p s with
      | none => none
      | some (r, s') => big den prog w n α Γ (k r) p s'
    | .handled own k => big den prog w n α Γ (k (match own with | true => Γ.own | false => Γ.handled)) p s
    | .stack k => big den prog w n α Γ (k ((Γ.code, p) :: Γ.below)) p s
    | .thread k => big den prog w n α Γ (k 0) p s
    | _ => none
noncomputable def BPost {α : Type} (Q : α → Pos → Shared → Prop) (E : Value → Pos → Shared → Prop) : BRes α → Prop
  | (.ok a, p, s) => Q a p s
  | (.error e, p, s) => E e p s
theorem big_sound {den : Code → Sem Fin} {prog : Program} {w : World} : ∀ (n : Nat) (α : Type) (Γ : Ctx) (x : Sem α) (p : Pos) (s : Shared) (r : BRes α), big den prog w n α Γ x p s = some r →
    ∀ (Q : α → Pos → Shared → Prop) (E : Value → Pos → Shared → Prop), BPost Q E r → Sem.wp ⟨den, prog, w⟩ Γ x Q E p s
  | 0, _, _, _, _, _, _, h => by cases h
  | n + 1, α, Γ, x, p, s, r, h => by
    intro Q E q
    have IH := big_sound (den := den) (prog := prog) (w := w) n
    have IA : ∀ (m : Nat) (Γ : Ctx) (p : Pos) (s : Shared) (r : Result) (s' : Shared), bigAgain (big den prog w n Fin) den m Γ p s = some (r, s') → ∀ R : Result → Shared → Prop, R r s' → Runs ⟨den, prog, w⟩ Γ p (den Γ.code) [] s (.ret r) s' := by
      intro m
      induction m with
      | zero => intro Γ p s r s' h; cases h
      | succ m ihm =>
        intro Γ p s r s' h R hR
        rw [bigAgain] at h
        cases h1 : big den prog w n Fin Γ (den Γ.code) p s with
        | none => rw [h1] at h; cases h
        | some x =>
          obtain ⟨rr, p', s₁⟩ := x
          rw [h1] at h
          have key := IH Fin Γ (den Γ.code) p s (rr, p', s₁) h1 (Sem.finPost ⟨den, prog, w⟩ Γ fun r' s'' => r' = r ∧ s'' = s') fun e _ s'' => Except.error e = r ∧ s'' = s'
          have fin : Sem.wp ⟨den, prog, w⟩ Γ (den Γ.code) (Sem.finPost ⟨den, prog, w⟩ Γ fun r' s'' => r' = r ∧ s'' = s') (fun e _ s'' => Except.error e = r ∧ s'' = s') p s := by
            refine key ?_
            cases rr with
            | error e => obtain ⟨rfl, rfl⟩ : Except.error e = r ∧ s₁ = s' := by simpa using h
                         exact ⟨rfl, rfl⟩
            | ok f =>
              cases f with
              | done f => obtain ⟨rfl, rfl⟩ : Except.ok f = r ∧ s₁ = s' := by simpa using h
                          exact ⟨rfl, rfl⟩
              | again c =>
                dsimp only at h
                cases hq : c.quiet with
                | false => rw [hq] at h; cases h
                | true =>
                  rw [hq] at h
                  exact ⟨hq, r, s', ihm (Γ.goto c) p' s₁ r s' h (fun _ _ => True) trivial, rfl, rfl⟩
          obtain ⟨r', s'', hr, rfl, rfl⟩ := (Sem.wp_iff_runs _ _ _ _ _ _).mp fin
          exact hr
    cases x with
    | pure a => obtain rfl := Option.some.inj h; exact q
    | raise e => obtain rfl := Option.some.inj h; exact q
    | rule tag k => rw [Sem.wp_rule]; exact IH _ _ _ _ _ _ h Q E q
    | «at» p' k => rw [Sem.wp_at]; exact IH _ _ _ _ _ _ h Q E q
    | load a part k =>
      rw [Sem.wp_load]
      change (match s.heap.get? a with
        | some o => big den prog w n α Γ (k o) p s
        | none => none) = some r at h
      cases e : s.heap.get? a with
      | none => rw [e] at h; cases h
      | some o => rw [e] at h; exact ⟨o, rfl, IH _ _ _ _ _ _ h Q E q⟩
    | update a part f k =>
      rw [Sem.wp_update]
      change (match (s.heap.get? a).isSome with
        | true => big den prog w n α Γ (k ()) p { s with heap := s.heap.update a f }
        | false => none) = some r at h
      cases e : (s.heap.get? a).isSome with
      | false => rw [e] at h; cases h
      | true => rw [e] at h; exact ⟨rfl, IH _ _ _ _ _ _ h Q E q⟩
    | loadIfAlive a k => rw [Sem.wp_loadIfAlive]; exact IH _ _ _ _ _ _ h Q E q
    | point l k => rw [Sem.wp_point]; exact IH _ _ _ _ _ _ h Q E q
    | alloc o k => rw [Sem.wp_alloc]; exact IH _ _ _ _ _ _ h Q E q
    | fresh k => rw [Sem.wp_fresh]; exact IH _ _ _ _ _ _ h Q E q
    | ask k => rw [Sem.wp_ask]; exact IH _ _ _ _ _ _ h Q E q
    | call c hd g l k =>
      rw [Sem.wp_call]
      change (match bigAgain (big den prog w n Fin) den n (Γ.enter c hd p) p s with
        | none => none
        | some (r, s') => big den prog w n α Γ (k r) p s') = some r at h
      cases e : bigAgain (big den prog w n Fin) den n (Γ.enter c hd p) p s with
      | none => rw [e] at h; cases h
      | some x =>
        obtain ⟨r', s'⟩ := x
        rw [e] at h
        exact ⟨r', s', IA _ _ _ _ _ _ e (fun _ _ => True) trivial, IH _ _ _ _ _ _ h Q E q⟩
    | handled own k => rw [Sem.wp_handled]; cases own <;> exact IH _ _ _ _ _ _ h Q E q
    | stack k => rw [Sem.wp_stack]; exact IH _ _ _ _ _ _ h Q E q
    | thread k => rw [Sem.wp_thread]; exact IH _ _ _ _ _ _ h Q E q
    | _ => exact absurd h (fun z => nomatch z)
end Mine
end
section
set_option tactic.hygienic false
set_option hygiene false
set_option maxRecDepth 100000
namespace Mine
namespace Hp
noncomputable abbrev o0 (P : Params) : Obj := ⟨.type "dict", none, .dict #[⟨PyData.keyHash P ⟨#[95, 95, 110, 97, 109, 101, 95, 95]⟩, .str ⟨#[95, 95, 110, 97, 109, 101, 95, 95]⟩ 1, .str ⟨#[98, 117, 105, 108, 116, 105, 110, 115]⟩ 160⟩, ⟨PyData.keyHash P ⟨#[95, 95, 100, 111, 99, 95, 95]⟩, .str ⟨#[95, 95, 100, 111, 99, 95, 95]⟩ 2, .builtin "builtins.__doc__:str#opaque"⟩, ⟨PyData.keyHash P ⟨#[95, 95, 112, 97, 99, 107, 97, 103, 101, 95, 95]⟩, .str ⟨#[95, 95, 112, 97, 99, 107, 97, 103, 101, 95, 95]⟩ 3, .builtin "builtins.__package__:str#opaque"⟩, ⟨PyData.keyHash P ⟨#[95, 95, 108, 111, 97, 100, 101, 114, 95, 95]⟩, .str ⟨#[95, 95, 108, 111, 97, 100, 101, 114, 95, 95]⟩ 4, .builtin "builtins.__loader__:shared#opaque"⟩, ⟨PyData.keyHash P ⟨#[95, 95, 115, 112, 101, 99, 95, 95]⟩, .str ⟨#[95, 95, 115, 112, 101, 99, 95, 95]⟩ 5, .builtin "builtins.__spec__#opaque"⟩, ⟨PyData.keyHash P ⟨#[95, 95, 98, 117, 105, 108, 100, 95, 99, 108, 97, 115, 115, 95, 95]⟩, .str ⟨#[95, 95, 98, 117, 105, 108, 100, 95, 99, 108, 97, 115, 115, 95, 95]⟩ 6, .builtin "__build_class__"⟩, ⟨PyData.keyHash P ⟨#[95, 95, 105, 109, 112, 111, 114, 116, 95, 95]⟩, .str ⟨#[95, 95, 105, 109, 112, 111, 114, 116, 95, 95]⟩ 7, .builtin "__import__"⟩, ⟨PyData.keyHash P ⟨#[97, 98, 115]⟩, .str ⟨#[97, 98, 115]⟩ 8, .builtin "abs"⟩, ⟨PyData.keyHash P ⟨#[97, 108, 108]⟩, .str ⟨#[97, 108, 108]⟩ 9, .builtin "all"⟩, ⟨PyData.keyHash P ⟨#[97, 110, 121]⟩, .str ⟨#[97, 110, 121]⟩ 10, .builtin "any"⟩, ⟨PyData.keyHash P ⟨#[97, 115, 99, 105, 105]⟩, .str ⟨#[97, 115, 99, 105, 105]⟩ 11, .builtin "ascii"⟩, ⟨PyData.keyHash P ⟨#[98, 105, 110]⟩, .str ⟨#[98, 105, 110]⟩ 12, .builtin "bin"⟩, ⟨PyData.keyHash P ⟨#[98, 114, 101, 97, 107, 112, 111, 105, 110, 116]⟩, .str ⟨#[98, 114, 101, 97, 107, 112, 111, 105, 110, 116]⟩ 13, .builtin "breakpoint"⟩, ⟨PyData.keyHash P ⟨#[99, 97, 108, 108, 97, 98, 108, 101]⟩, .str ⟨#[99, 97, 108, 108, 97, 98, 108, 101]⟩ 14, .builtin "callable"⟩, ⟨PyData.keyHash P ⟨#[99, 104, 114]⟩, .str ⟨#[99, 104, 114]⟩ 15, .builtin "chr"⟩, ⟨PyData.keyHash P ⟨#[99, 111, 109, 112, 105, 108, 101]⟩, .str ⟨#[99, 111, 109, 112, 105, 108, 101]⟩ 16, .builtin "compile"⟩, ⟨PyData.keyHash P ⟨#[100, 101, 108, 97, 116, 116, 114]⟩, .str ⟨#[100, 101, 108, 97, 116, 116, 114]⟩ 17, .builtin "delattr"⟩, ⟨PyData.keyHash P ⟨#[100, 105, 114]⟩, .str ⟨#[100, 105, 114]⟩ 18, .builtin "dir"⟩, ⟨PyData.keyHash P ⟨#[100, 105, 118, 109, 111, 100]⟩, .str ⟨#[100, 105, 118, 109, 111, 100]⟩ 19, .builtin "divmod"⟩, ⟨PyData.keyHash P ⟨#[101, 118, 97, 108]⟩, .str ⟨#[101, 118, 97, 108]⟩ 20, .builtin "eval"⟩, ⟨PyData.keyHash P ⟨#[101, 120, 101, 99]⟩, .str ⟨#[101, 120, 101, 99]⟩ 21, .builtin "exec"⟩, ⟨PyData.keyHash P ⟨#[102, 111, 114, 109, 97, 116]⟩, .str ⟨#[102, 111, 114, 109, 97, 116]⟩ 22, .builtin "format"⟩, ⟨PyData.keyHash P ⟨#[103, 101, 116, 97, 116, 116, 114]⟩, .str ⟨#[103, 101, 116, 97, 116, 116, 114]⟩ 23, .builtin "getattr"⟩, ⟨PyData.keyHash P ⟨#[103, 108, 111, 98, 97, 108, 115]⟩, .str ⟨#[103, 108, 111, 98, 97, 108, 115]⟩ 24, .builtin "globals"⟩, ⟨PyData.keyHash P ⟨#[104, 97, 115, 97, 116, 116, 114]⟩, .str ⟨#[104, 97, 115, 97, 116, 116, 114]⟩ 25, .builtin "hasattr"⟩, ⟨PyData.keyHash P ⟨#[104, 97, 115, 104]⟩, .str ⟨#[104, 97, 115, 104]⟩ 26, .builtin "hash"⟩, ⟨PyData.keyHash P ⟨#[104, 101, 120]⟩, .str ⟨#[104, 101, 120]⟩ 27, .builtin "hex"⟩, ⟨PyData.keyHash P ⟨#[105, 100]⟩, .str ⟨#[105, 100]⟩ 28, .builtin "id"⟩, ⟨PyData.keyHash P ⟨#[105, 110, 112, 117, 116]⟩, .str ⟨#[105, 110, 112, 117, 116]⟩ 29, .builtin "input"⟩, ⟨PyData.keyHash P ⟨#[105, 115, 105, 110, 115, 116, 97, 110, 99, 101]⟩, .str ⟨#[105, 115, 105, 110, 115, 116, 97, 110, 99, 101]⟩ 30, .builtin "isinstance"⟩, ⟨PyData.keyHash P ⟨#[105, 115, 115, 117, 98, 99, 108, 97, 115, 115]⟩, .str ⟨#[105, 115, 115, 117, 98, 99, 108, 97, 115, 115]⟩ 31, .builtin "issubclass"⟩, ⟨PyData.keyHash P ⟨#[105, 116, 101, 114]⟩, .str ⟨#[105, 116, 101, 114]⟩ 32, .builtin "iter"⟩, ⟨PyData.keyHash P ⟨#[97, 105, 116, 101, 114]⟩, .str ⟨#[97, 105, 116, 101, 114]⟩ 33, .builtin "aiter"⟩, ⟨PyData.keyHash P ⟨#[108, 101, 110]⟩, .str ⟨#[108, 101, 110]⟩ 34, .builtin "len"⟩, ⟨PyData.keyHash P ⟨#[108, 111, 99, 97, 108, 115]⟩, .str ⟨#[108, 111, 99, 97, 108, 115]⟩ 35, .builtin "locals"⟩, ⟨PyData.keyHash P ⟨#[109, 97, 120]⟩, .str ⟨#[109, 97, 120]⟩ 36, .builtin "max"⟩, ⟨PyData.keyHash P ⟨#[109, 105, 110]⟩, .str ⟨#[109, 105, 110]⟩ 37, .builtin "min"⟩, ⟨PyData.keyHash P ⟨#[110, 101, 120, 116]⟩, .str ⟨#[110, 101, 120, 116]⟩ 38, .builtin "next"⟩, ⟨PyData.keyHash P ⟨#[97, 110, 101, 120, 116]⟩, .str ⟨#[97, 110, 101, 120, 116]⟩ 39, .builtin "anext"⟩, ⟨PyData.keyHash P ⟨#[111, 99, 116]⟩, .str ⟨#[111, 99, 116]⟩ 40, .builtin "oct"⟩, ⟨PyData.keyHash P ⟨#[111, 114, 100]⟩, .str ⟨#[111, 114, 100]⟩ 41, .builtin "ord"⟩, ⟨PyData.keyHash P ⟨#[112, 111, 119]⟩, .str ⟨#[112, 111, 119]⟩ 42, .builtin "pow"⟩, ⟨PyData.keyHash P ⟨#[112, 114, 105, 110, 116]⟩, .str ⟨#[112, 114, 105, 110, 116]⟩ 43, .builtin "print"⟩, ⟨PyData.keyHash P ⟨#[114, 101, 112, 114]⟩, .str ⟨#[114, 101, 112, 114]⟩ 44, .builtin "repr"⟩, ⟨PyData.keyHash P ⟨#[114, 111, 117, 110, 100]⟩, .str ⟨#[114, 111, 117, 110, 100]⟩ 45, .builtin "round"⟩, ⟨PyData.keyHash P ⟨#[115, 101, 116, 97, 116, 116, 114]⟩, .str ⟨#[115, 101, 116, 97, 116, 116, 114]⟩ 46, .builtin "setattr"⟩, ⟨PyData.keyHash P ⟨#[115, 111, 114, 116, 101, 100]⟩, .str ⟨#[115, 111, 114, 116, 101, 100]⟩ 47, .builtin "sorted"⟩, ⟨PyData.keyHash P ⟨#[115, 117, 109]⟩, .str ⟨#[115, 117, 109]⟩ 48, .builtin "sum"⟩, ⟨PyData.keyHash P ⟨#[118, 97, 114, 115]⟩, .str ⟨#[118, 97, 114, 115]⟩ 49, .builtin "vars"⟩, ⟨PyData.keyHash P ⟨#[78, 111, 110, 101]⟩, .str ⟨#[78, 111, 110, 101]⟩ 50, .none⟩, ⟨PyData.keyHash P ⟨#[69, 108, 108, 105, 112, 115, 105, 115]⟩, .str ⟨#[69, 108, 108, 105, 112, 115, 105, 115]⟩ 51, .ellipsis⟩, ⟨PyData.keyHash P ⟨#[78, 111, 116, 73, 109, 112, 108, 101, 109, 101, 110, 116, 101, 100]⟩, .str ⟨#[78, 111, 116, 73, 109, 112, 108, 101, 109, 101, 110, 116, 101, 100]⟩ 52, .notImplemented⟩, ⟨PyData.keyHash P ⟨#[70, 97, 108, 115, 101]⟩, .str ⟨#[70, 97, 108, 115, 101]⟩ 53, .bool false⟩, ⟨PyData.keyHash P ⟨#[84, 114, 117, 101]⟩, .str ⟨#[84, 114, 117, 101]⟩ 54, .bool true⟩, ⟨PyData.keyHash P ⟨#[98, 111, 111, 108]⟩, .str ⟨#[98, 111, 111, 108]⟩ 55, .type "bool"⟩, ⟨PyData.keyHash P ⟨#[109, 101, 109, 111, 114, 121, 118, 105, 101, 119]⟩, .str ⟨#[109, 101, 109, 111, 114, 121, 118, 105, 101, 119]⟩ 56, .type "memoryview"⟩, ⟨PyData.keyHash P ⟨#[98, 121, 116, 101, 97, 114, 114, 97, 121]⟩, .str ⟨#[98, 121, 116, 101, 97, 114, 114, 97, 121]⟩ 57, .type "bytearray"⟩, ⟨PyData.keyHash P ⟨#[98, 121, 116, 101, 115]⟩, .str ⟨#[98, 121, 116, 101, 115]⟩ 58, .type "bytes"⟩, ⟨PyData.keyHash P ⟨#[99, 108, 97, 115, 115, 109, 101, 116, 104, 111, 100]⟩, .str ⟨#[99, 108, 97, 115, 115, 109, 101, 116, 104, 111, 100]⟩ 59, .type "classmethod"⟩, ⟨PyData.keyHash P ⟨#[99, 111, 109, 112, 108, 101, 120]⟩, .str ⟨#[99, 111, 109, 112, 108, 101, 120]⟩ 60, .type "complex"⟩, ⟨PyData.keyHash P ⟨#[100, 105, 99, 116]⟩, .str ⟨#[100, 105, 99, 116]⟩ 61, .type "dict"⟩, ⟨PyData.keyHash P ⟨#[101, 110, 117, 109, 101, 114, 97, 116, 101]⟩, .str ⟨#[101, 110, 117, 109, 101, 114, 97, 116, 101]⟩ 62, .type "enumerate"⟩, ⟨PyData.keyHash P ⟨#[102, 105, 108, 116, 101, 114]⟩, .str ⟨#[102, 105, 108, 116, 101, 114]⟩ 63, .type "filter"⟩, ⟨PyData.keyHash P ⟨#[102, 108, 111, 97, 116]⟩, .str ⟨#[102, 108, 111, 97, 116]⟩ 64, .type "float"⟩, ⟨PyData.keyHash P ⟨#[102, 114, 111, 122, 101, 110, 115, 101, 116]⟩, .str ⟨#[102, 114, 111, 122, 101, 110, 115, 101, 116]⟩ 65, .type "frozenset"⟩, ⟨PyData.keyHash P ⟨#[112, 114, 111, 112, 101, 114, 116, 121]⟩, .str ⟨#[112, 114, 111, 112, 101, 114, 116, 121]⟩ 66, .type "property"⟩, ⟨PyData.keyHash P ⟨#[105, 110, 116]⟩, .str ⟨#[105, 110, 116]⟩ 67, .type "int"⟩, ⟨PyData.keyHash P ⟨#[108, 105, 115, 116]⟩, .str ⟨#[108, 105, 115, 116]⟩ 68, .type "list"⟩, ⟨PyData.keyHash P ⟨#[109, 97, 112]⟩, .str ⟨#[109, 97, 112]⟩ 69, .type "map"⟩, ⟨PyData.keyHash P ⟨#[111, 98, 106, 101, 99, 116]⟩, .str ⟨#[111, 98, 106, 101, 99, 116]⟩ 70, .type "object"⟩, ⟨PyData.keyHash P ⟨#[114, 97, 110, 103, 101]⟩, .str ⟨#[114, 97, 110, 103, 101]⟩ 71, .type "range"⟩, ⟨PyData.keyHash P ⟨#[114, 101, 118, 101, 114, 115, 101, 100]⟩, .str ⟨#[114, 101, 118, 101, 114, 115, 101, 100]⟩ 72, .type "reversed"⟩, ⟨PyData.keyHash P ⟨#[115, 101, 116]⟩, .str ⟨#[115, 101, 116]⟩ 73, .type "set"⟩, ⟨PyData.keyHash P ⟨#[115, 108, 105, 99, 101]⟩, .str ⟨#[115, 108, 105, 99, 101]⟩ 74, .type "slice"⟩, ⟨PyData.keyHash P ⟨#[115, 116, 97, 116, 105, 99, 109, 101, 116, 104, 111, 100]⟩, .str ⟨#[115, 116, 97, 116, 105, 99, 109, 101, 116, 104, 111, 100]⟩ 75, .type "staticmethod"⟩, ⟨PyData.keyHash P ⟨#[115, 116, 114]⟩, .str ⟨#[115, 116, 114]⟩ 76, .type "str"⟩, ⟨PyData.keyHash P ⟨#[115, 117, 112, 101, 114]⟩, .str ⟨#[115, 117, 112, 101, 114]⟩ 77, .type "super"⟩, ⟨PyData.keyHash P ⟨#[116, 117, 112, 108, 101]⟩, .str ⟨#[116, 117, 112, 108, 101]⟩ 78, .type "tuple"⟩, ⟨PyData.keyHash P ⟨#[116, 121, 112, 101]⟩, .str ⟨#[116, 121, 112, 101]⟩ 79, .type "type"⟩, ⟨PyData.keyHash P ⟨#[122, 105, 112]⟩, .str ⟨#[122, 105, 112]⟩ 80, .type "zip"⟩, ⟨PyData.keyHash P ⟨#[95, 95, 100, 101, 98, 117, 103, 95, 95]⟩, .str ⟨#[95, 95, 100, 101, 98, 117, 103, 95, 95]⟩ 81, .bool true⟩, ⟨PyData.keyHash P ⟨#[66, 97, 115, 101, 69, 120, 99, 101, 112, 116, 105, 111, 110]⟩, .str ⟨#[66, 97, 115, 101, 69, 120, 99, 101, 112, 116, 105, 111, 110]⟩ 82, .type "BaseException"⟩, ⟨PyData.keyHash P ⟨#[66, 97, 115, 101, 69, 120, 99, 101, 112, 116, 105, 111, 110, 71, 114, 111, 117, 112]⟩, .str ⟨#[66, 97, 115, 101, 69, 120, 99, 101, 112, 116, 105, 111, 110, 71, 114, 111, 117, 112]⟩ 83, .type "BaseExceptionGroup"⟩, ⟨PyData.keyHash P ⟨#[69, 120, 99, 101, 112, 116, 105, 111, 110]⟩, .str ⟨#[69, 120, 99, 101, 112, 116, 105, 111, 110]⟩ 84, .type "Exception"⟩, ⟨PyData.keyHash P ⟨#[71, 101, 110, 101, 114, 97, 116, 111, 114, 69, 120, 105, 116]⟩, .str ⟨#[71, 101, 110, 101, 114, 97, 116, 111, 114, 69, 120, 105, 116]⟩ 85, .type "GeneratorExit"⟩, ⟨PyData.keyHash P ⟨#[75, 101, 121, 98, 111, 97, 114, 100, 73, 110, 116, 101, 114, 114, 117, 112, 116]⟩, .str ⟨#[75, 101, 121, 98, 111, 97, 114, 100, 73, 110, 116, 101, 114, 114, 117, 112, 116]⟩ 86, .type "KeyboardInterrupt"⟩, ⟨PyData.keyHash P ⟨#[83, 121, 115, 116, 101, 109, 69, 120, 105, 116]⟩, .str ⟨#[83, 121, 115, 116, 101, 109, 69, 120, 105, 116]⟩ 87, .type "SystemExit"⟩, ⟨PyData.keyHash P ⟨#[65, 114, 105, 116, 104, 109, 101, 116, 105, 99, 69, 114, 114, 111, 114]⟩, .str ⟨#[65, 114, 105, 116, 104, 109, 101, 116, 105, 99, 69, 114, 114, 111, 114]⟩ 88, .type "ArithmeticError"⟩, ⟨PyData.keyHash P ⟨#[65, 115, 115, 101, 114, 116, 105, 111, 110, 69, 114, 114, 111, 114]⟩, .str ⟨#[65, 115, 115, 101, 114, 116, 105, 111, 110, 69, 114, 114, 111, 114]⟩ 89, .type "AssertionError"⟩, ⟨PyData.keyHash P ⟨#[65, 116, 116, 114, 105, 98, 117, 116, 101, 69, 114, 114, 111, 114]⟩, .str ⟨#[65, 116, 116, 114, 105, 98, 117, 116, 101, 69, 114, 114, 111, 114]⟩ 90, .type "AttributeError"⟩, ⟨PyData.keyHash P ⟨#[66, 117, 102, 102, 101, 114, 69, 114, 114, 111, 114]⟩, .str ⟨#[66, 117, 102, 102, 101, 114, 69, 114, 114, 111, 114]⟩ 91, .type "BufferError"⟩, ⟨PyData.keyHash P ⟨#[69, 79, 70, 69, 114, 114, 111, 114]⟩, .str ⟨#[69, 79, 70, 69, 114, 114, 111, 114]⟩ 92, .type "EOFError"⟩, ⟨PyData.keyHash P ⟨#[73, 109, 112, 111, 114, 116, 69, 114, 114, 111, 114]⟩, .str ⟨#[73, 109, 112, 111, 114, 116, 69, 114, 114, 111, 114]⟩ 93, .type "ImportError"⟩, ⟨PyData.keyHash P ⟨#[76, 111, 111, 107, 117, 112, 69, 114, 114, 111, 114]⟩, .str ⟨#[76, 111, 111, 107, 117, 112, 69, 114, 114, 111, 114]⟩ 94, .type "LookupError"⟩, ⟨PyData.keyHash P ⟨#[77, 101, 109, 111, 114, 121, 69, 114, 114, 111, 114]⟩, .str ⟨#[77, 101, 109, 111, 114, 121, 69, 114, 114, 111, 114]⟩ 95, .type "MemoryError"⟩, ⟨PyData.keyHash P ⟨#[78, 97, 109, 101, 69, 114, 114, 111, 114]⟩, .str ⟨#[78, 97, 109, 101, 69, 114, 114, 111, 114]⟩ 96, .type "NameError"⟩, ⟨PyData.keyHash P ⟨#[79, 83, 69, 114, 114, 111, 114]⟩, .str ⟨#[79, 83, 69, 114, 114, 111, 114]⟩ 97, .type "OSError"⟩, ⟨PyData.keyHash P ⟨#[82, 101, 102, 101, 114, 101, 110, 99, 101, 69, 114, 114, 111, 114]⟩, .str ⟨#[82, 101, 102, 101, 114, 101, 110, 99, 101, 69, 114, 114, 111, 114]⟩ 98, .type "ReferenceError"⟩, ⟨PyData.keyHash P ⟨#[82, 117, 110, 116, 105, 109, 101, 69, 114, 114, 111, 114]⟩, .str ⟨#[82, 117, 110, 116, 105, 109, 101, 69, 114, 114, 111, 114]⟩ 99, .type "RuntimeError"⟩, ⟨PyData.keyHash P ⟨#[83, 116, 111, 112, 65, 115, 121, 110, 99, 73, 116, 101, 114, 97, 116, 105, 111, 110]⟩, .str ⟨#[83, 116, 111, 112, 65, 115, 121, 110, 99, 73, 116, 101, 114, 97, 116, 105, 111, 110]⟩ 100, .type "StopAsyncIteration"⟩, ⟨PyData.keyHash P ⟨#[83, 116, 111, 112, 73, 116, 101, 114, 97, 116, 105, 111, 110]⟩, .str ⟨#[83, 116, 111, 112, 73, 116, 101, 114, 97, 116, 105, 111, 110]⟩ 101, .type "StopIteration"⟩, ⟨PyData.keyHash P ⟨#[83, 121, 110, 116, 97, 120, 69, 114, 114, 111, 114]⟩, .str ⟨#[83, 121, 110, 116, 97, 120, 69, 114, 114, 111, 114]⟩ 102, .type "SyntaxError"⟩, ⟨PyData.keyHash P ⟨#[83, 121, 115, 116, 101, 109, 69, 114, 114, 111, 114]⟩, .str ⟨#[83, 121, 115, 116, 101, 109, 69, 114, 114, 111, 114]⟩ 103, .type "SystemError"⟩, ⟨PyData.keyHash P ⟨#[84, 121, 112, 101, 69, 114, 114, 111, 114]⟩, .str ⟨#[84, 121, 112, 101, 69, 114, 114, 111, 114]⟩ 104, .type "TypeError"⟩, ⟨PyData.keyHash P ⟨#[86, 97, 108, 117, 101, 69, 114, 114, 111, 114]⟩, .str ⟨#[86, 97, 108, 117, 101, 69, 114, 114, 111, 114]⟩ 105, .type "ValueError"⟩, ⟨PyData.keyHash P ⟨#[87, 97, 114, 110, 105, 110, 103]⟩, .str ⟨#[87, 97, 114, 110, 105, 110, 103]⟩ 106, .type "Warning"⟩, ⟨PyData.keyHash P ⟨#[70, 108, 111, 97, 116, 105, 110, 103, 80, 111, 105, 110, 116, 69, 114, 114, 111, 114]⟩, .str ⟨#[70, 108, 111, 97, 116, 105, 110, 103, 80, 111, 105, 110, 116, 69, 114, 114, 111, 114]⟩ 107, .type "FloatingPointError"⟩, ⟨PyData.keyHash P ⟨#[79, 118, 101, 114, 102, 108, 111, 119, 69, 114, 114, 111, 114]⟩, .str ⟨#[79, 118, 101, 114, 102, 108, 111, 119, 69, 114, 114, 111, 114]⟩ 108, .type "OverflowError"⟩, ⟨PyData.keyHash P ⟨#[90, 101, 114, 111, 68, 105, 118, 105, 115, 105, 111, 110, 69, 114, 114, 111, 114]⟩, .str ⟨#[90, 101, 114, 111, 68, 105, 118, 105, 115, 105, 111, 110, 69, 114, 114, 111, 114]⟩ 109, .type "ZeroDivisionError"⟩, ⟨PyData.keyHash P ⟨#[66, 121, 116, 101, 115, 87, 97, 114, 110, 105, 110, 103]⟩, .str ⟨#[66, 121, 116, 101, 115, 87, 97, 114, 110, 105, 110, 103]⟩ 110, .type "BytesWarning"⟩, ⟨PyData.keyHash P ⟨#[68, 101, 112, 114, 101, 99, 97, 116, 105, 111, 110, 87, 97, 114, 110, 105, 110, 103]⟩, .str ⟨#[68, 101, 112, 114, 101, 99, 97, 116, 105, 111, 110, 87, 97, 114, 110, 105, 110, 103]⟩ 111, .type "DeprecationWarning"⟩, ⟨PyData.keyHash P ⟨#[69, 110, 99, 111, 100, 105, 110, 103, 87, 97, 114, 110, 105, 110, 103]⟩, .str ⟨#[69, 110, 99, 111, 100, 105, 110, 103, 87, 97, 114, 110, 105, 110, 103]⟩ 112, .type "EncodingWarning"⟩, ⟨PyData.keyHash P ⟨#[70, 117, 116, 117, 114, 101, 87, 97, 114, 110, 105, 110, 103]⟩, .str ⟨#[70, 117, 116, 117, 114, 101, 87, 97, 114, 110, 105, 110, 103]⟩ 113, .type "FutureWarning"⟩, ⟨PyData.keyHash P ⟨#[73, 109, 112, 111, 114, 116, 87, 97, 114, 110, 105, 110, 103]⟩, .str ⟨#[73, 109, 112, 111, 114, 116, 87, 97, 114, 110, 105, 110, 103]⟩ 114, .type "ImportWarning"⟩, ⟨PyData.keyHash P ⟨#[80, 101, 110, 100, 105, 110, 103, 68, 101, 112, 114, 101, 99, 97, 116, 105, 111, 110, 87, 97, 114, 110, 105, 110, 103]⟩, .str ⟨#[80, 101, 110, 100, 105, 110, 103, 68, 101, 112, 114, 101, 99, 97, 116, 105, 111, 110, 87, 97, 114, 110, 105, 110, 103]⟩ 115, .type "PendingDeprecationWarning"⟩, ⟨PyData.keyHash P ⟨#[82, 101, 115, 111, 117, 114, 99, 101, 87, 97, 114, 110, 105, 110, 103]⟩, .str ⟨#[82, 101, 115, 111, 117, 114, 99, 101, 87, 97, 114, 110, 105, 110, 103]⟩ 116, .type "ResourceWarning"⟩, ⟨PyData.keyHash P ⟨#[82, 117, 110, 116, 105, 109, 101, 87, 97, 114, 110, 105, 110, 103]⟩, .str ⟨#[82, 117, 110, 116, 105, 109, 101, 87, 97, 114, 110, 105, 110, 103]⟩ 117, .type "RuntimeWarning"⟩, ⟨PyData.keyHash P ⟨#[83, 121, 110, 116, 97, 120, 87, 97, 114, 110, 105, 110, 103]⟩, .str ⟨#[83, 121, 110, 116, 97, 120, 87, 97, 114, 110, 105, 110, 103]⟩ 118, .type "SyntaxWarning"⟩, ⟨PyData.keyHash P ⟨#[85, 110, 105, 99, 111, 100, 101, 87, 97, 114, 110, 105, 110, 103]⟩, .str ⟨#[85, 110, 105, 99, 111, 100, 101, 87, 97, 114, 110, 105, 110, 103]⟩ 119, .type "UnicodeWarning"⟩, ⟨PyData.keyHash P ⟨#[85, 115, 101, 114, 87, 97, 114, 110, 105, 110, 103]⟩, .str ⟨#[85, 115, 101, 114, 87, 97, 114, 110, 105, 110, 103]⟩ 120, .type "UserWarning"⟩, ⟨PyData.keyHash P ⟨#[66, 108, 111, 99, 107, 105, 110, 103, 73, 79, 69, 114, 114, 111, 114]⟩, .str ⟨#[66, 108, 111, 99, 107, 105, 110, 103, 73, 79, 69, 114, 114, 111, 114]⟩ 121, .type "BlockingIOError"⟩, ⟨PyData.keyHash P ⟨#[67, 104, 105, 108, 100, 80, 114, 111, 99, 101, 115, 115, 69, 114, 114, 111, 114]⟩, .str ⟨#[67, 104, 105, 108, 100, 80, 114, 111, 99, 101, 115, 115, 69, 114, 114, 111, 114]⟩ 122, .type "ChildProcessError"⟩, ⟨PyData.keyHash P ⟨#[67, 111, 110, 110, 101, 99, 116, 105, 111, 110, 69, 114, 114, 111, 114]⟩, .str ⟨#[67, 111, 110, 110, 101, 99, 116, 105, 111, 110, 69, 114, 114, 111, 114]⟩ 123, .type "ConnectionError"⟩, ⟨PyData.keyHash P ⟨#[70, 105, 108, 101, 69, 120, 105, 115, 116, 115, 69, 114, 114, 111, 114]⟩, .str ⟨#[70, 105, 108, 101, 69, 120, 105, 115, 116, 115, 69, 114, 114, 111, 114]⟩ 124, .type "FileExistsError"⟩, ⟨PyData.keyHash P ⟨#[70, 105, 108, 101, 78, 111, 116, 70, 111, 117, 110, 100, 69, 114, 114, 111, 114]⟩, .str ⟨#[70, 105, 108, 101, 78, 111, 116, 70, 111, 117, 110, 100, 69, 114, 114, 111, 114]⟩ 125, .type "FileNotFoundError"⟩, ⟨PyData.keyHash P ⟨#[73, 110, 116, 101, 114, 114, 117, 112, 116, 101, 100, 69, 114, 114, 111, 114]⟩, .str ⟨#[73, 110, 116, 101, 114, 114, 117, 112, 116, 101, 100, 69, 114, 114, 111, 114]⟩ 126, .type "InterruptedError"⟩, ⟨PyData.keyHash P ⟨#[73, 115, 65, 68, 105, 114, 101, 99, 116, 111, 114, 121, 69, 114, 114, 111, 114]⟩, .str ⟨#[73, 115, 65, 68, 105, 114, 101, 99, 116, 111, 114, 121, 69, 114, 114, 111, 114]⟩ 127, .type "IsADirectoryError"⟩, ⟨PyData.keyHash P ⟨#[78, 111, 116, 65, 68, 105, 114, 101, 99, 116, 111, 114, 121, 69, 114, 114, 111, 114]⟩, .str ⟨#[78, 111, 116, 65, 68, 105, 114, 101, 99, 116, 111, 114, 121, 69, 114, 114, 111, 114]⟩ 128, .type "NotADirectoryError"⟩, ⟨PyData.keyHash P ⟨#[80, 101, 114, 109, 105, 115, 115, 105, 111, 110, 69, 114, 114, 111, 114]⟩, .str ⟨#[80, 101, 114, 109, 105, 115, 115, 105, 111, 110, 69, 114, 114, 111, 114]⟩ 129, .type "PermissionError"⟩, ⟨PyData.keyHash P ⟨#[80, 114, 111, 99, 101, 115, 115, 76, 111, 111, 107, 117, 112, 69, 114, 114, 111, 114]⟩, .str ⟨#[80, 114, 111, 99, 101, 115, 115, 76, 111, 111, 107, 117, 112, 69, 114, 114, 111, 114]⟩ 130, .type "ProcessLookupError"⟩, ⟨PyData.keyHash P ⟨#[84, 105, 109, 101, 111, 117, 116, 69, 114, 114, 111, 114]⟩, .str ⟨#[84, 105, 109, 101, 111, 117, 116, 69, 114, 114, 111, 114]⟩ 131, .type "TimeoutError"⟩, ⟨PyData.keyHash P ⟨#[73, 110, 100, 101, 110, 116, 97, 116, 105, 111, 110, 69, 114, 114, 111, 114]⟩, .str ⟨#[73, 110, 100, 101, 110, 116, 97, 116, 105, 111, 110, 69, 114, 114, 111, 114]⟩ 132, .type "IndentationError"⟩, ⟨PyData.keyHash P ⟨#[95, 73, 110, 99, 111, 109, 112, 108, 101, 116, 101, 73, 110, 112, 117, 116, 69, 114, 114, 111, 114]⟩, .str ⟨#[95, 73, 110, 99, 111, 109, 112, 108, 101, 116, 101, 73, 110, 112, 117, 116, 69, 114, 114, 111, 114]⟩ 133, .type "_IncompleteInputError"⟩, ⟨PyData.keyHash P ⟨#[73, 110, 100, 101, 120, 69, 114, 114, 111, 114]⟩, .str ⟨#[73, 110, 100, 101, 120, 69, 114, 114, 111, 114]⟩ 134, .type "IndexError"⟩, ⟨PyData.keyHash P ⟨#[75, 101, 121, 69, 114, 114, 111, 114]⟩, .str ⟨#[75, 101, 121, 69, 114, 114, 111, 114]⟩ 135, .type "KeyError"⟩, ⟨PyData.keyHash P ⟨#[77, 111, 100, 117, 108, 101, 78, 111, 116, 70, 111, 117, 110, 100, 69, 114, 114, 111, 114]⟩, .str ⟨#[77, 111, 100, 117, 108, 101, 78, 111, 116, 70, 111, 117, 110, 100, 69, 114, 114, 111, 114]⟩ 136, .type "ModuleNotFoundError"⟩, ⟨PyData.keyHash P ⟨#[78, 111, 116, 73, 109, 112, 108, 101, 109, 101, 110, 116, 101, 100, 69, 114, 114, 111, 114]⟩, .str ⟨#[78, 111, 116, 73, 109, 112, 108, 101, 109, 101, 110, 116, 101, 100, 69, 114, 114, 111, 114]⟩ 137, .type "NotImplementedError"⟩, ⟨PyData.keyHash P ⟨#[80, 121, 116, 104, 111, 110, 70, 105, 110, 97, 108, 105, 122, 97, 116, 105, 111, 110, 69, 114, 114, 111, 114]⟩, .str ⟨#[80, 121, 116, 104, 111, 110, 70, 105, 110, 97, 108, 105, 122, 97, 116, 105, 111, 110, 69, 114, 114, 111, 114]⟩ 138, .type "PythonFinalizationError"⟩, ⟨PyData.keyHash P ⟨#[82, 101, 99, 117, 114, 115, 105, 111, 110, 69, 114, 114, 111, 114]⟩, .str ⟨#[82, 101, 99, 117, 114, 115, 105, 111, 110, 69, 114, 114, 111, 114]⟩ 139, .type "RecursionError"⟩, ⟨PyData.keyHash P ⟨#[85, 110, 98, 111, 117, 110, 100, 76, 111, 99, 97, 108, 69, 114, 114, 111, 114]⟩, .str ⟨#[85, 110, 98, 111, 117, 110, 100, 76, 111, 99, 97, 108, 69, 114, 114, 111, 114]⟩ 140, .type "UnboundLocalError"⟩, ⟨PyData.keyHash P ⟨#[85, 110, 105, 99, 111, 100, 101, 69, 114, 114, 111, 114]⟩, .str ⟨#[85, 110, 105, 99, 111, 100, 101, 69, 114, 114, 111, 114]⟩ 141, .type "UnicodeError"⟩, ⟨PyData.keyHash P ⟨#[66, 114, 111, 107, 101, 110, 80, 105, 112, 101, 69, 114, 114, 111, 114]⟩, .str ⟨#[66, 114, 111, 107, 101, 110, 80, 105, 112, 101, 69, 114, 114, 111, 114]⟩ 142, .type "BrokenPipeError"⟩, ⟨PyData.keyHash P ⟨#[67, 111, 110, 110, 101, 99, 116, 105, 111, 110, 65, 98, 111, 114, 116, 101, 100, 69, 114, 114, 111, 114]⟩, .str ⟨#[67, 111, 110, 110, 101, 99, 116, 105, 111, 110, 65, 98, 111, 114, 116, 101, 100, 69, 114, 114, 111, 114]⟩ 143, .type "ConnectionAbortedError"⟩, ⟨PyData.keyHash P ⟨#[67, 111, 110, 110, 101, 99, 116, 105, 111, 110, 82, 101, 102, 117, 115, 101, 100, 69, 114, 114, 111, 114]⟩, .str ⟨#[67, 111, 110, 110, 101, 99, 116, 105, 111, 110, 82, 101, 102, 117, 115, 101, 100, 69, 114, 114, 111, 114]⟩ 144, .type "ConnectionRefusedError"⟩, ⟨PyData.keyHash P ⟨#[67, 111, 110, 110, 101, 99, 116, 105, 111, 110, 82, 101, 115, 101, 116, 69, 114, 114, 111, 114]⟩, .str ⟨#[67, 111, 110, 110, 101, 99, 116, 105, 111, 110, 82, 101, 115, 101, 116, 69, 114, 114, 111, 114]⟩ 145, .type "ConnectionResetError"⟩, ⟨PyData.keyHash P ⟨#[84, 97, 98, 69, 114, 114, 111, 114]⟩, .str ⟨#[84, 97, 98, 69, 114, 114, 111, 114]⟩ 146, .type "TabError"⟩, ⟨PyData.keyHash P ⟨#[85, 110, 105, 99, 111, 100, 101, 68, 101, 99, 111, 100, 101, 69, 114, 114, 111, 114]⟩, .str ⟨#[85, 110, 105, 99, 111, 100, 101, 68, 101, 99, 111, 100, 101, 69, 114, 114, 111, 114]⟩ 147, .type "UnicodeDecodeError"⟩, ⟨PyData.keyHash P ⟨#[85, 110, 105, 99, 111, 100, 101, 69, 110, 99, 111, 100, 101, 69, 114, 114, 111, 114]⟩, .str ⟨#[85, 110, 105, 99, 111, 100, 101, 69, 110, 99, 111, 100, 101, 69, 114, 114, 111, 114]⟩ 148, .type "UnicodeEncodeError"⟩, ⟨PyData.keyHash P ⟨#[85, 110, 105, 99, 111, 100, 101, 84, 114, 97, 110, 115, 108, 97, 116, 101, 69, 114, 114, 111, 114]⟩, .str ⟨#[85, 110, 105, 99, 111, 100, 101, 84, 114, 97, 110, 115, 108, 97, 116, 101, 69, 114, 114, 111, 114]⟩ 149, .type "UnicodeTranslateError"⟩, ⟨PyData.keyHash P ⟨#[69, 120, 99, 101, 112, 116, 105, 111, 110, 71, 114, 111, 117, 112]⟩, .str ⟨#[69, 120, 99, 101, 112, 116, 105, 111, 110, 71, 114, 111, 117, 112]⟩ 150, .type "ExceptionGroup"⟩, ⟨PyData.keyHash P ⟨#[69, 110, 118, 105, 114, 111, 110, 109, 101, 110, 116, 69, 114, 114, 111, 114]⟩, .str ⟨#[69, 110, 118, 105, 114, 111, 110, 109, 101, 110, 116, 69, 114, 114, 111, 114]⟩ 151, .type "OSError"⟩, ⟨PyData.keyHash P ⟨#[73, 79, 69, 114, 114, 111, 114]⟩, .str ⟨#[73, 79, 69, 114, 114, 111, 114]⟩ 152, .type "OSError"⟩, ⟨PyData.keyHash P ⟨#[111, 112, 101, 110]⟩, .str ⟨#[111, 112, 101, 110]⟩ 153, .builtin "open"⟩, ⟨PyData.keyHash P ⟨#[113, 117, 105, 116]⟩, .str ⟨#[113, 117, 105, 116]⟩ 154, .builtin "builtins.quit#opaque"⟩, ⟨PyData.keyHash P ⟨#[101, 120, 105, 116]⟩, .str ⟨#[101, 120, 105, 116]⟩ 155, .builtin "builtins.exit#opaque"⟩, ⟨PyData.keyHash P ⟨#[99, 111, 112, 121, 114, 105, 103, 104, 116]⟩, .str ⟨#[99, 111, 112, 121, 114, 105, 103, 104, 116]⟩ 156, .builtin "builtins.copyright#opaque"⟩, ⟨PyData.keyHash P ⟨#[99, 114, 101, 100, 105, 116, 115]⟩, .str ⟨#[99, 114, 101, 100, 105, 116, 115]⟩ 157, .builtin "builtins.credits#opaque"⟩, ⟨PyData.keyHash P ⟨#[108, 105, 99, 101, 110, 115, 101]⟩, .str ⟨#[108, 105, 99, 101, 110, 115, 101]⟩ 158, .builtin "builtins.license#opaque"⟩, ⟨PyData.keyHash P ⟨#[104, 101, 108, 112]⟩, .str ⟨#[104, 101, 108, 112]⟩ 159, .builtin "builtins.help#opaque"⟩] 159, #[]⟩
noncomputable abbrev o1 (P : Params) : Obj := ⟨.type "dict", none, .dict #[⟨PyData.keyHash P ⟨#[98, 117, 105, 108, 116, 105, 110, 115]⟩, .str ⟨#[98, 117, 105, 108, 116, 105, 110, 115]⟩ 162, .ref 4⟩, ⟨PyData.keyHash P ⟨#[95, 95, 109, 97, 105, 110, 95, 95]⟩, .str ⟨#[95, 95, 109, 97, 105, 110, 95, 95]⟩ 163, .ref 5⟩, ⟨PyData.keyHash P ⟨#[95, 115, 114, 101]⟩, .str ⟨#[95, 115, 114, 101]⟩ 244, .ref 12⟩] 3, #[]⟩
noncomputable abbrev o2 (P : Params) : Obj := ⟨.none, none, .dict #[⟨PyData.keyHash P ⟨#[105, 109, 112, 111, 114, 116, 46, 108, 111, 97, 100, 101, 100, 46, 95, 115, 114, 101]⟩, .str ⟨#[105, 109, 112, 111, 114, 116, 46, 108, 111, 97, 100, 101, 100, 46, 95, 115, 114, 101]⟩ 183, .bool true⟩, ⟨PyData.keyHash P ⟨#[99, 108, 97, 115, 115, 46, 95, 102, 114, 111, 122, 101, 110, 95, 105, 109, 112, 111, 114, 116, 108, 105, 98, 46, 66, 117, 105, 108, 116, 105, 110, 73, 109, 112, 111, 114, 116, 101, 114]⟩, .str ⟨#[99, 108, 97, 115, 115, 46, 95, 102, 114, 111, 122, 101, 110, 95, 105, 109, 112, 111, 114, 116, 108, 105, 98, 46, 66, 117, 105, 108, 116, 105, 110, 73, 109, 112, 111, 114, 116, 101, 114]⟩ 185, .ref 14⟩, ⟨PyData.keyHash P ⟨#[119, 97, 116, 99, 104, 101, 100, 46, 105, 109, 112, 111, 114, 116]⟩, .str ⟨#[119, 97, 116, 99, 104, 101, 100, 46, 105, 109, 112, 111, 114, 116]⟩ 206, .ref 18⟩, ⟨PyData.keyHash P ⟨#[99, 108, 97, 115, 115, 46, 95, 102, 114, 111, 122, 101, 110, 95, 105, 109, 112, 111, 114, 116, 108, 105, 98, 46, 77, 111, 100, 117, 108, 101, 83, 112, 101, 99]⟩, .str ⟨#[99, 108, 97, 115, 115, 46, 95, 102, 114, 111, 122, 101, 110, 95, 105, 109, 112, 111, 114, 116, 108, 105, 98, 46, 77, 111, 100, 117, 108, 101, 83, 112, 101, 99]⟩ 216, .ref 22⟩, ⟨PyData.keyHash P ⟨#[115, 121, 115, 46, 109, 111, 100, 117, 108, 101, 115, 46, 98, 111, 111, 107, 101, 100, 45, 101, 112, 111, 99, 104]⟩, .str ⟨#[115, 121, 115, 46, 109, 111, 100, 117, 108, 101, 115, 46, 98, 111, 111, 107, 101, 100, 45, 101, 112, 111, 99, 104]⟩ 245, .int 3 0⟩, ⟨PyData.keyHash P ⟨#[105, 109, 112, 111, 114, 116, 46, 108, 97, 116, 101, 114, 45, 108, 97, 105, 100, 46, 95, 115, 114, 101]⟩, .str ⟨#[105, 109, 112, 111, 114, 116, 46, 108, 97, 116, 101, 114, 45, 108, 97, 105, 100, 46, 95, 115, 114, 101]⟩ 270, .bool true⟩, ⟨PyData.keyHash P ⟨#[119, 97, 116, 99, 104, 101, 100, 46, 108, 105, 98, 114, 97, 114, 121]⟩, .str ⟨#[119, 97, 116, 99, 104, 101, 100, 46, 108, 105, 98, 114, 97, 114, 121]⟩ 272, .ref 27⟩, ⟨PyData.keyHash P ⟨#[119, 97, 116, 99, 104, 101, 100, 46, 108, 105, 98, 114, 97, 114, 121, 45, 111, 98, 106, 101, 99, 116, 115]⟩, .str ⟨#[119, 97, 116, 99, 104, 101, 100, 46, 108, 105, 98, 114, 97, 114, 121, 45, 111, 98, 106, 101, 99, 116, 115]⟩ 0, .str ⟨#[12]⟩ 0⟩, ⟨PyData.keyHash P ⟨#[119, 97, 116, 99, 104, 101, 100, 46, 108, 105, 98, 114, 97, 114, 121, 45, 100, 101, 101, 112, 46, 95, 115, 114, 101]⟩, .str ⟨#[119, 97, 116, 99, 104, 101, 100, 46, 108, 105, 98, 114, 97, 114, 121, 45, 100, 101, 101, 112, 46, 95, 115, 114, 101]⟩ 273, .str ⟨#[4, 0, 0, 11, 4, 0, 0, 11, 4, 0, 0, 3, 4, 0, 0, 11, 8, 4, 100, 105, 99, 116, 2]⟩ 0⟩] 9, #[]⟩
noncomputable abbrev o3 (P : Params) : Obj := ⟨.type "dict", none, .dict #[⟨PyData.keyHash P ⟨#[95, 95, 110, 97, 109, 101, 95, 95]⟩, .str ⟨#[95, 95, 110, 97, 109, 101, 95, 95]⟩ 165, .str ⟨#[95, 95, 109, 97, 105, 110, 95, 95]⟩ 164⟩, ⟨PyData.keyHash P ⟨#[95, 95, 100, 111, 99, 95, 95]⟩, .str ⟨#[95, 95, 100, 111, 99, 95, 95]⟩ 166, .none⟩, ⟨PyData.keyHash P ⟨#[95, 95, 112, 97, 99, 107, 97, 103, 101, 95, 95]⟩, .str ⟨#[95, 95, 112, 97, 99, 107, 97, 103, 101, 95, 95]⟩ 167, .none⟩, ⟨PyData.keyHash P ⟨#[95, 95, 108, 111, 97, 100, 101, 114, 95, 95]⟩, .str ⟨#[95, 95, 108, 111, 97, 100, 101, 114, 95, 95]⟩ 168, .builtin "__main__.__loader__#opaque"⟩, ⟨PyData.keyHash P ⟨#[95, 95, 115, 112, 101, 99, 95, 95]⟩, .str ⟨#[95, 95, 115, 112, 101, 99, 95, 95]⟩ 169, .none⟩, ⟨PyData.keyHash P ⟨#[95, 95, 97, 110, 110, 111, 116, 97, 116, 105, 111, 110, 115, 95, 95]⟩, .str ⟨#[95, 95, 97, 110, 110, 111, 116, 97, 116, 105, 111, 110, 115, 95, 95]⟩ 170, .ref 6⟩, ⟨PyData.keyHash P ⟨#[95, 95, 98, 117, 105, 108, 116, 105, 110, 115, 95, 95]⟩, .str ⟨#[95, 95, 98, 117, 105, 108, 116, 105, 110, 115, 95, 95]⟩ 171, .ref 4⟩, ⟨PyData.keyHash P ⟨#[95, 95, 102, 105, 108, 101, 95, 95]⟩, .str ⟨#[95, 95, 102, 105, 108, 101, 95, 95]⟩ 173, .str ⟨#[47, 99, 108, 97, 105, 109, 47, 99, 117, 116, 46, 112, 121]⟩ 172⟩, ⟨PyData.keyHash P ⟨#[95, 95, 99, 97, 99, 104, 101, 100, 95, 95]⟩, .str ⟨#[95, 95, 99, 97, 99, 104, 101, 100, 95, 95]⟩ 174, .none⟩, ⟨PyData.keyHash P ⟨#[95, 115, 114, 101]⟩, .str ⟨#[95, 115, 114, 101]⟩ 275, .ref 12⟩] 10, #[]⟩
noncomputable abbrev o4 (P : Params) : Obj := ⟨.type "module", (some 0), .plain, #[]⟩
noncomputable abbrev o5 (P : Params) : Obj := ⟨.type "module", (some 3), .plain, #[]⟩
noncomputable abbrev o6 (P : Params) : Obj := ⟨.type "dict", none, .dict #[] 0, #[]⟩
noncomputable abbrev o7 (P : Params) : Obj := ⟨.type "tuple", none, .seq #[] 0, #[]⟩
noncomputable abbrev o8 (P : Params) : Obj := ⟨.none, none, .fields #[], #[]⟩
noncomputable abbrev o9 (P : Params) : Obj := ⟨.type "code", none, .fields #[.str ⟨#[60, 109, 111, 100, 117, 108, 101, 62]⟩ 176, .str ⟨#[60, 109, 111, 100, 117, 108, 101, 62]⟩ 177, .str ⟨#[47, 99, 108, 97, 105, 109, 47, 99, 117, 116, 46, 112, 121]⟩ 178, .int 1 0, .int 0 0, .int 0 0, .int 0 0, .int 0 0, .ref 7, .bool false, .int 175 0, .ref 8, .none, .none, .none, .none, .int 179 0, .int 1 0, .str ⟨#[47, 99, 108, 97, 105, 109, 47, 99, 117, 116, 46, 112, 121]⟩ 180], #[]⟩
noncomputable abbrev o10 (P : Params) : Obj := ⟨.type "frame", none, .plain, #[(some (.ref 9)), (some (.ref 3)), (some (.ref 3)), none, (some (.str ⟨#[95, 95, 109, 97, 105, 110, 95, 95]⟩ 164)), none, (some (.ref 0))]⟩
noncomputable abbrev o11 (P : Params) : Obj := ⟨.type "dict", none, .dict #[⟨PyData.keyHash P ⟨#[95, 95, 110, 97, 109, 101, 95, 95]⟩, .str ⟨#[95, 95, 110, 97, 109, 101, 95, 95]⟩ 247, .str ⟨#[95, 115, 114, 101]⟩ 246⟩, ⟨PyData.keyHash P ⟨#[95, 95, 100, 111, 99, 95, 95]⟩, .str ⟨#[95, 95, 100, 111, 99, 95, 95]⟩ 248, .none⟩, ⟨PyData.keyHash P ⟨#[95, 95, 112, 97, 99, 107, 97, 103, 101, 95, 95]⟩, .str ⟨#[95, 95, 112, 97, 99, 107, 97, 103, 101, 95, 95]⟩ 250, .str ⟨#[]⟩ 249⟩, ⟨PyData.keyHash P ⟨#[95, 95, 108, 111, 97, 100, 101, 114, 95, 95]⟩, .str ⟨#[95, 95, 108, 111, 97, 100, 101, 114, 95, 95]⟩ 251, .ref 14⟩, ⟨PyData.keyHash P ⟨#[95, 95, 115, 112, 101, 99, 95, 95]⟩, .str ⟨#[95, 95, 115, 112, 101, 99, 95, 95]⟩ 252, .ref 26⟩, ⟨PyData.keyHash P ⟨#[99, 111, 109, 112, 105, 108, 101]⟩, .str ⟨#[99, 111, 109, 112, 105, 108, 101]⟩ 253, .builtin "_sre.compile"⟩, ⟨PyData.keyHash P ⟨#[116, 101, 109, 112, 108, 97, 116, 101]⟩, .str ⟨#[116, 101, 109, 112, 108, 97, 116, 101]⟩ 254, .builtin "_sre.template"⟩, ⟨PyData.keyHash P ⟨#[103, 101, 116, 99, 111, 100, 101, 115, 105, 122, 101]⟩, .str ⟨#[103, 101, 116, 99, 111, 100, 101, 115, 105, 122, 101]⟩ 255, .builtin "_sre.getcodesize"⟩, ⟨PyData.keyHash P ⟨#[97, 115, 99, 105, 105, 95, 105, 115, 99, 97, 115, 101, 100]⟩, .str ⟨#[97, 115, 99, 105, 105, 95, 105, 115, 99, 97, 115, 101, 100]⟩ 256, .builtin "_sre.ascii_iscased"⟩, ⟨PyData.keyHash P ⟨#[117, 110, 105, 99, 111, 100, 101, 95, 105, 115, 99, 97, 115, 101, 100]⟩, .str ⟨#[117, 110, 105, 99, 111, 100, 101, 95, 105, 115, 99, 97, 115, 101, 100]⟩ 257, .builtin "_sre.unicode_iscased"⟩, ⟨PyData.keyHash P ⟨#[97, 115, 99, 105, 105, 95, 116, 111, 108, 111, 119, 101, 114]⟩, .str ⟨#[97, 115, 99, 105, 105, 95, 116, 111, 108, 111, 119, 101, 114]⟩ 258, .builtin "_sre.ascii_tolower"⟩, ⟨PyData.keyHash P ⟨#[117, 110, 105, 99, 111, 100, 101, 95, 116, 111, 108, 111, 119, 101, 114]⟩, .str ⟨#[117, 110, 105, 99, 111, 100, 101, 95, 116, 111, 108, 111, 119, 101, 114]⟩ 259, .builtin "_sre.unicode_tolower"⟩, ⟨PyData.keyHash P ⟨#[77, 65, 71, 73, 67]⟩, .str ⟨#[77, 65, 71, 73, 67]⟩ 261, .int 20230612 260⟩, ⟨PyData.keyHash P ⟨#[67, 79, 68, 69, 83, 73, 90, 69]⟩, .str ⟨#[67, 79, 68, 69, 83, 73, 90, 69]⟩ 263, .int 4 262⟩, ⟨PyData.keyHash P ⟨#[77, 65, 88, 82, 69, 80, 69, 65, 84]⟩, .str ⟨#[77, 65, 88, 82, 69, 80, 69, 65, 84]⟩ 265, .int 4294967295 264⟩, ⟨PyData.keyHash P ⟨#[77, 65, 88, 71, 82, 79, 85, 80, 83]⟩, .str ⟨#[77, 65, 88, 71, 82, 79, 85, 80, 83]⟩ 267, .int 1073741823 266⟩, ⟨PyData.keyHash P ⟨#[99, 111, 112, 121, 114, 105, 103, 104, 116]⟩, .str ⟨#[99, 111, 112, 121, 114, 105, 103, 104, 116]⟩ 269, .str ⟨#[32, 83, 82, 69, 32, 50, 46, 50, 46, 50, 32, 67, 111, 112, 121, 114, 105, 103, 104, 116, 32, 40, 99, 41, 32, 49, 57, 57, 55, 45, 50, 48, 48, 50, 32, 98, 121, 32, 83, 101, 99, 114, 101, 116, 32, 76, 97, 98, 115, 32, 65, 66, 32]⟩ 268⟩] 17, #[]⟩
noncomputable abbrev o12 (P : Params) : Obj := ⟨.type "module", (some 11), .plain, #[]⟩
noncomputable abbrev o13 (P : Params) : Obj := ⟨.type "dict", none, .dict #[⟨PyData.keyHash P ⟨#[95, 95, 109, 111, 100, 117, 108, 101, 95, 95]⟩, .str ⟨#[95, 95, 109, 111, 100, 117, 108, 101, 95, 95]⟩ 189, .str ⟨#[95, 102, 114, 111, 122, 101, 110, 95, 105, 109, 112, 111, 114, 116, 108, 105, 98]⟩ 186⟩, ⟨PyData.keyHash P ⟨#[95, 95, 102, 105, 114, 115, 116, 108, 105, 110, 101, 110, 111, 95, 95]⟩, .str ⟨#[95, 95, 102, 105, 114, 115, 116, 108, 105, 110, 101, 110, 111, 95, 95]⟩ 190, .int 971 187⟩, ⟨PyData.keyHash P ⟨#[95, 95, 100, 111, 99, 95, 95]⟩, .str ⟨#[95, 95, 100, 111, 99, 95, 95]⟩ 191, .builtin "_frozen_importlib.BuiltinImporter.__doc__:str#opaque"⟩, ⟨PyData.keyHash P ⟨#[95, 79, 82, 73, 71, 73, 78]⟩, .str ⟨#[95, 79, 82, 73, 71, 73, 78]⟩ 192, .str ⟨#[98, 117, 105, 108, 116, 45, 105, 110]⟩ 188⟩, ⟨PyData.keyHash P ⟨#[102, 105, 110, 100, 95, 115, 112, 101, 99]⟩, .str ⟨#[102, 105, 110, 100, 95, 115, 112, 101, 99]⟩ 193, .builtin "_frozen_importlib.BuiltinImporter.find_spec#opaque"⟩, ⟨PyData.keyHash P ⟨#[99, 114, 101, 97, 116, 101, 95, 109, 111, 100, 117, 108, 101]⟩, .str ⟨#[99, 114, 101, 97, 116, 101, 95, 109, 111, 100, 117, 108, 101]⟩ 194, .builtin "_frozen_importlib.BuiltinImporter.create_module#opaque"⟩, ⟨PyData.keyHash P ⟨#[101, 120, 101, 99, 95, 109, 111, 100, 117, 108, 101]⟩, .str ⟨#[101, 120, 101, 99, 95, 109, 111, 100, 117, 108, 101]⟩ 195, .builtin "_frozen_importlib.BuiltinImporter.exec_module#opaque"⟩, ⟨PyData.keyHash P ⟨#[103, 101, 116, 95, 99, 111, 100, 101]⟩, .str ⟨#[103, 101, 116, 95, 99, 111, 100, 101]⟩ 196, .builtin "_frozen_importlib.BuiltinImporter.get_code#opaque"⟩, ⟨PyData.keyHash P ⟨#[103, 101, 116, 95, 115, 111, 117, 114, 99, 101]⟩, .str ⟨#[103, 101, 116, 95, 115, 111, 117, 114, 99, 101]⟩ 197, .builtin "_frozen_importlib.BuiltinImporter.get_source#opaque"⟩, ⟨PyData.keyHash P ⟨#[105, 115, 95, 112, 97, 99, 107, 97, 103, 101]⟩, .str ⟨#[105, 115, 95, 112, 97, 99, 107, 97, 103, 101]⟩ 198, .builtin "_frozen_importlib.BuiltinImporter.is_package#opaque"⟩, ⟨PyData.keyHash P ⟨#[108, 111, 97, 100, 95, 109, 111, 100, 117, 108, 101]⟩, .str ⟨#[108, 111, 97, 100, 95, 109, 111, 100, 117, 108, 101]⟩ 199, .builtin "_frozen_importlib.BuiltinImporter.load_module#opaque"⟩, ⟨PyData.keyHash P ⟨#[95, 95, 115, 116, 97, 116, 105, 99, 95, 97, 116, 116, 114, 105, 98, 117, 116, 101, 115, 95, 95]⟩, .str ⟨#[95, 95, 115, 116, 97, 116, 105, 99, 95, 97, 116, 116, 114, 105, 98, 117, 116, 101, 115, 95, 95]⟩ 200, .ref 15⟩, ⟨PyData.keyHash P ⟨#[95, 95, 100, 105, 99, 116, 95, 95]⟩, .str ⟨#[95, 95, 100, 105, 99, 116, 95, 95]⟩ 202, .ref 16⟩, ⟨PyData.keyHash P ⟨#[95, 95, 119, 101, 97, 107, 114, 101, 102, 95, 95]⟩, .str ⟨#[95, 95, 119, 101, 97, 107, 114, 101, 102, 95, 95]⟩ 204, .ref 17⟩] 14, #[]⟩
noncomputable abbrev o14 (P : Params) : Obj := ⟨.type "type", none, .cls ⟨⟨#[66, 117, 105, 108, 116, 105, 110, 73, 109, 112, 111, 114, 116, 101, 114]⟩, [.type "object"], [.ref 14, .type "object"], 13, ⟨#[66, 117, 105, 108, 116, 105, 110, 73, 109, 112, 111, 114, 116, 101, 114]⟩, true, [], [], false, none, false⟩, #[]⟩
noncomputable abbrev o15 (P : Params) : Obj := ⟨.type "tuple", none, .seq #[] 0, #[]⟩
noncomputable abbrev o16 (P : Params) : Obj := ⟨.type "getset_descriptor", none, .fields #[.str ⟨#[95, 95, 100, 105, 99, 116, 95, 95]⟩ 201, .ref 14, .builtin "function.__dict__", .builtin "function.__dict__#set"], #[]⟩
noncomputable abbrev o17 (P : Params) : Obj := ⟨.type "getset_descriptor", none, .fields #[.str ⟨#[95, 95, 119, 101, 97, 107, 114, 101, 102, 95, 95]⟩ 203, .ref 14, .builtin "ExceptionGroup.__weakref__", .none], #[]⟩
noncomputable abbrev o18 (P : Params) : Obj := ⟨.none, none, .seq #[.int 13 0, .str ⟨#[6, 189, 10, 95, 95, 109, 111, 100, 117, 108, 101, 95, 95, 6, 186, 17, 95, 102, 114, 111, 122, 101, 110, 95, 105, 109, 112, 111, 114, 116, 108, 105, 98, 6, 190, 15, 95, 95, 102, 105, 114, 115, 116, 108, 105, 110, 101, 110, 111, 95, 95, 4, 187, 0, 971, 6, 191, 7, 95, 95, 100, 111, 99, 95, 95, 9, 52, 95, 102, 114, 111, 122, 101, 110, 95, 105, 109, 112, 111, 114, 116, 108, 105, 98, 46, 66, 117, 105, 108, 116, 105, 110, 73, 109, 112, 111, 114, 116, 101, 114, 46, 95, 95, 100, 111, 99, 95, 95, 58, 115, 116, 114, 35, 111, 112, 97, 113, 117, 101, 6, 192, 7, 95, 79, 82, 73, 71, 73, 78, 6, 188, 8, 98, 117, 105, 108, 116, 45, 105, 110, 6, 193, 9, 102, 105, 110, 100, 95, 115, 112, 101, 99, 9, 50, 95, 102, 114, 111, 122, 101, 110, 95, 105, 109, 112, 111, 114, 116, 108, 105, 98, 46, 66, 117, 105, 108, 116, 105, 110, 73, 109, 112, 111, 114, 116, 101, 114, 46, 102, 105, 110, 100, 95, 115, 112, 101, 99, 35, 111, 112, 97, 113, 117, 101, 6, 194, 13, 99, 114, 101, 97, 116, 101, 95, 109, 111, 100, 117, 108, 101, 9, 54, 95, 102, 114, 111, 122, 101, 110, 95, 105, 109, 112, 111, 114, 116, 108, 105, 98, 46, 66, 117, 105, 108, 116, 105, 110, 73, 109, 112, 111, 114, 116, 101, 114, 46, 99, 114, 101, 97, 116, 101, 95, 109, 111, 100, 117, 108, 101, 35, 111, 112, 97, 113, 117, 101, 6, 195, 11, 101, 120, 101, 99, 95, 109, 111, 100, 117, 108, 101, 9, 52, 95, 102, 114, 111, 122, 101, 110, 95, 105, 109, 112, 111, 114, 116, 108, 105, 98, 46, 66, 117, 105, 108, 116, 105, 110, 73, 109, 112, 111, 114, 116, 101, 114, 46, 101, 120, 101, 99, 95, 109, 111, 100, 117, 108, 101, 35, 111, 112, 97, 113, 117, 101, 6, 196, 8, 103, 101, 116, 95, 99, 111, 100, 101, 9, 49, 95, 102, 114, 111, 122, 101, 110, 95, 105, 109, 112, 111, 114, 116, 108, 105, 98, 46, 66, 117, 105, 108, 116, 105, 110, 73, 109, 112, 111, 114, 116, 101, 114, 46, 103, 101, 116, 95, 99, 111, 100, 101, 35, 111, 112, 97, 113, 117, 101, 6, 197, 10, 103, 101, 116, 95, 115, 111, 117, 114, 99, 101, 9, 51, 95, 102, 114, 111, 122, 101, 110, 95, 105, 109, 112, 111, 114, 116, 108, 105, 98, 46, 66, 117, 105, 108, 116, 105, 110, 73, 109, 112, 111, 114, 116, 101, 114, 46, 103, 101, 116, 95, 115, 111, 117, 114, 99, 101, 35, 111, 112, 97, 113, 117, 101, 6, 198, 10, 105, 115, 95, 112, 97, 99, 107, 97, 103, 101, 9, 51, 95, 102, 114, 111, 122, 101, 110, 95, 105, 109, 112, 111, 114, 116, 108, 105, 98, 46, 66, 117, 105, 108, 116, 105, 110, 73, 109, 112, 111, 114, 116, 101, 114, 46, 105, 115, 95, 112, 97, 99, 107, 97, 103, 101, 35, 111, 112, 97, 113, 117, 101, 6, 199, 11, 108, 111, 97, 100, 95, 109, 111, 100, 117, 108, 101, 9, 52, 95, 102, 114, 111, 122, 101, 110, 95, 105, 109, 112, 111, 114, 116, 108, 105, 98, 46, 66, 117, 105, 108, 116, 105, 110, 73, 109, 112, 111, 114, 116, 101, 114, 46, 108, 111, 97, 100, 95, 109, 111, 100, 117, 108, 101, 35, 111, 112, 97, 113, 117, 101, 6, 200, 21, 95, 95, 115, 116, 97, 116, 105, 99, 95, 97, 116, 116, 114, 105, 98, 117, 116, 101, 115, 95, 95, 4, 0, 0, 15, 6, 202, 8, 95, 95, 100, 105, 99, 116, 95, 95, 4, 0, 0, 16, 6, 204, 11, 95, 95, 119, 101, 97, 107, 114, 101, 102, 95, 95, 4, 0, 0, 17]⟩ 0, .bool true, .bool true, .str ⟨#[]⟩ 205, .int 21 0, .str ⟨#[6, 227, 10, 95, 95, 109, 111, 100, 117, 108, 101, 95, 95, 6, 217, 17, 95, 102, 114, 111, 122, 101, 110, 95, 105, 109, 112, 111, 114, 116, 108, 105, 98, 6, 228, 15, 95, 95, 102, 105, 114, 115, 116, 108, 105, 110, 101, 110, 111, 95, 95, 4, 218, 0, 562, 6, 229, 7, 95, 95, 100, 111, 99, 95, 95, 9, 47, 95, 102, 114, 111, 122, 101, 110, 95, 105, 109, 112, 111, 114, 116, 108, 105, 98, 46, 77, 111, 100, 117, 108, 101, 83, 112, 101, 99, 46, 95, 95, 100, 111, 99, 95, 95, 58, 115, 116, 114, 35, 111, 112, 97, 113, 117, 101, 6, 230, 8, 95, 95, 105, 110, 105, 116, 95, 95, 9, 44, 95, 102, 114, 111, 122, 101, 110, 95, 105, 109, 112, 111, 114, 116, 108, 105, 98, 46, 77, 111, 100, 117, 108, 101, 83, 112, 101, 99, 46, 95, 95, 105, 110, 105, 116, 95, 95, 35, 111, 112, 97, 113, 117, 101, 6, 231, 8, 95, 95, 114, 101, 112, 114, 95, 95, 9, 44, 95, 102, 114, 111, 122, 101, 110, 95, 105, 109, 112, 111, 114, 116, 108, 105, 98, 46, 77, 111, 100, 117, 108, 101, 83, 112, 101, 99, 46, 95, 95, 114, 101, 112, 114, 95, 95, 35, 111, 112, 97, 113, 117, 101, 6, 232, 6, 95, 95, 101, 113, 95, 95, 9, 42, 95, 102, 114, 111, 122, 101, 110, 95, 105, 109, 112, 111, 114, 116, 108, 105, 98, 46, 77, 111, 100, 117, 108, 101, 83, 112, 101, 99, 46, 95, 95, 101, 113, 95, 95, 35, 111, 112, 97, 113, 117, 101, 6, 233, 6, 99, 97, 99, 104, 101, 100, 9, 42, 95, 102, 114, 111, 122, 101, 110, 95, 105, 109, 112, 111, 114, 116, 108, 105, 98, 46, 77, 111, 100, 117, 108, 101, 83, 112, 101, 99, 46, 99, 97, 99, 104, 101, 100, 35, 111, 112, 97, 113, 117, 101, 6, 234, 6, 112, 97, 114, 101, 110, 116, 9, 42, 95, 102, 114, 111, 122, 101, 110, 95, 105, 109, 112, 111, 114, 116, 108, 105, 98, 46, 77, 111, 100, 117, 108, 101, 83, 112, 101, 99, 46, 112, 97, 114, 101, 110, 116, 35, 111, 112, 97, 113, 117, 101, 6, 235, 12, 104, 97, 115, 95, 108, 111, 99, 97, 116, 105, 111, 110, 9, 48, 95, 102, 114, 111, 122, 101, 110, 95, 105, 109, 112, 111, 114, 116, 108, 105, 98, 46, 77, 111, 100, 117, 108, 101, 83, 112, 101, 99, 46, 104, 97, 115, 95, 108, 111, 99, 97, 116, 105, 111, 110, 35, 111, 112, 97, 113, 117, 101, 6, 236, 21, 95, 95, 115, 116, 97, 116, 105, 99, 95, 97, 116, 116, 114, 105, 98, 117, 116, 101, 115, 95, 95, 4, 0, 0, 23, 6, 238, 8, 95, 95, 100, 105, 99, 116, 95, 95, 4, 0, 0, 24, 6, 240, 11, 95, 95, 119, 101, 97, 107, 114, 101, 102, 95, 95, 4, 0, 0, 25, 6, 241, 8, 95, 95, 104, 97, 115, 104, 95, 95, 0]⟩ 0, .bool true, .bool true, .str ⟨#[]⟩ 242] 1, #[]⟩
noncomputable abbrev o19 (P : Params) : Obj := ⟨.type "list", none, .seq #[] 0, #[]⟩
noncomputable abbrev o20 (P : Params) : Obj := ⟨.type "dict", none, .dict #[⟨PyData.keyHash P ⟨#[110, 97, 109, 101]⟩, .str ⟨#[110, 97, 109, 101]⟩ 208, .str ⟨#[95, 115, 114, 101]⟩ 207⟩, ⟨PyData.keyHash P ⟨#[108, 111, 97, 100, 101, 114]⟩, .str ⟨#[108, 111, 97, 100, 101, 114]⟩ 209, .ref 14⟩, ⟨PyData.keyHash P ⟨#[111, 114, 105, 103, 105, 110]⟩, .str ⟨#[111, 114, 105, 103, 105, 110]⟩ 210, .str ⟨#[98, 117, 105, 108, 116, 45, 105, 110]⟩ 184⟩, ⟨PyData.keyHash P ⟨#[108, 111, 97, 100, 101, 114, 95, 115, 116, 97, 116, 101]⟩, .str ⟨#[108, 111, 97, 100, 101, 114, 95, 115, 116, 97, 116, 101]⟩ 211, .none⟩, ⟨PyData.keyHash P ⟨#[115, 117, 98, 109, 111, 100, 117, 108, 101, 95, 115, 101, 97, 114, 99, 104, 95, 108, 111, 99, 97, 116, 105, 111, 110, 115]⟩, .str ⟨#[115, 117, 98, 109, 111, 100, 117, 108, 101, 95, 115, 101, 97, 114, 99, 104, 95, 108, 111, 99, 97, 116, 105, 111, 110, 115]⟩ 212, .none⟩, ⟨PyData.keyHash P ⟨#[95, 117, 110, 105, 110, 105, 116, 105, 97, 108, 105, 122, 101, 100, 95, 115, 117, 98, 109, 111, 100, 117, 108, 101, 115]⟩, .str ⟨#[95, 117, 110, 105, 110, 105, 116, 105, 97, 108, 105, 122, 101, 100, 95, 115, 117, 98, 109, 111, 100, 117, 108, 101, 115]⟩ 213, .ref 19⟩, ⟨PyData.keyHash P ⟨#[95, 115, 101, 116, 95, 102, 105, 108, 101, 97, 116, 116, 114]⟩, .str ⟨#[95, 115, 101, 116, 95, 102, 105, 108, 101, 97, 116, 116, 114]⟩ 214, .bool false⟩, ⟨PyData.keyHash P ⟨#[95, 99, 97, 99, 104, 101, 100]⟩, .str ⟨#[95, 99, 97, 99, 104, 101, 100]⟩ 215, .none⟩, ⟨PyData.keyHash P ⟨#[95, 105, 110, 105, 116, 105, 97, 108, 105, 122, 105, 110, 103]⟩, .str ⟨#[95, 105, 110, 105, 116, 105, 97, 108, 105, 122, 105, 110, 103]⟩ 243, .bool false⟩] 9, #[]⟩
noncomputable abbrev o21 (P : Params) : Obj := ⟨.type "dict", none, .dict #[⟨PyData.keyHash P ⟨#[95, 95, 109, 111, 100, 117, 108, 101, 95, 95]⟩, .str ⟨#[95, 95, 109, 111, 100, 117, 108, 101, 95, 95]⟩ 227, .str ⟨#[95, 102, 114, 111, 122, 101, 110, 95, 105, 109, 112, 111, 114, 116, 108, 105, 98]⟩ 217⟩, ⟨PyData.keyHash P ⟨#[95, 95, 102, 105, 114, 115, 116, 108, 105, 110, 101, 110, 111, 95, 95]⟩, .str ⟨#[95, 95, 102, 105, 114, 115, 116, 108, 105, 110, 101, 110, 111, 95, 95]⟩ 228, .int 562 218⟩, ⟨PyData.keyHash P ⟨#[95, 95, 100, 111, 99, 95, 95]⟩, .str ⟨#[95, 95, 100, 111, 99, 95, 95]⟩ 229, .builtin "_frozen_importlib.ModuleSpec.__doc__:str#opaque"⟩, ⟨PyData.keyHash P ⟨#[95, 95, 105, 110, 105, 116, 95, 95]⟩, .str ⟨#[95, 95, 105, 110, 105, 116, 95, 95]⟩ 230, .builtin "_frozen_importlib.ModuleSpec.__init__#opaque"⟩, ⟨PyData.keyHash P ⟨#[95, 95, 114, 101, 112, 114, 95, 95]⟩, .str ⟨#[95, 95, 114, 101, 112, 114, 95, 95]⟩ 231, .builtin "_frozen_importlib.ModuleSpec.__repr__#opaque"⟩, ⟨PyData.keyHash P ⟨#[95, 95, 101, 113, 95, 95]⟩, .str ⟨#[95, 95, 101, 113, 95, 95]⟩ 232, .builtin "_frozen_importlib.ModuleSpec.__eq__#opaque"⟩, ⟨PyData.keyHash P ⟨#[99, 97, 99, 104, 101, 100]⟩, .str ⟨#[99, 97, 99, 104, 101, 100]⟩ 233, .builtin "_frozen_importlib.ModuleSpec.cached#opaque"⟩, ⟨PyData.keyHash P ⟨#[112, 97, 114, 101, 110, 116]⟩, .str ⟨#[112, 97, 114, 101, 110, 116]⟩ 234, .builtin "_frozen_importlib.ModuleSpec.parent#opaque"⟩, ⟨PyData.keyHash P ⟨#[104, 97, 115, 95, 108, 111, 99, 97, 116, 105, 111, 110]⟩, .str ⟨#[104, 97, 115, 95, 108, 111, 99, 97, 116, 105, 111, 110]⟩ 235, .builtin "_frozen_importlib.ModuleSpec.has_location#opaque"⟩, ⟨PyData.keyHash P ⟨#[95, 95, 115, 116, 97, 116, 105, 99, 95, 97, 116, 116, 114, 105, 98, 117, 116, 101, 115, 95, 95]⟩, .str ⟨#[95, 95, 115, 116, 97, 116, 105, 99, 95, 97, 116, 116, 114, 105, 98, 117, 116, 101, 115, 95, 95]⟩ 236, .ref 23⟩, ⟨PyData.keyHash P ⟨#[95, 95, 100, 105, 99, 116, 95, 95]⟩, .str ⟨#[95, 95, 100, 105, 99, 116, 95, 95]⟩ 238, .ref 24⟩, ⟨PyData.keyHash P ⟨#[95, 95, 119, 101, 97, 107, 114, 101, 102, 95, 95]⟩, .str ⟨#[95, 95, 119, 101, 97, 107, 114, 101, 102, 95, 95]⟩ 240, .ref 25⟩, ⟨PyData.keyHash P ⟨#[95, 95, 104, 97, 115, 104, 95, 95]⟩, .str ⟨#[95, 95, 104, 97, 115, 104, 95, 95]⟩ 241, .none⟩] 13, #[]⟩
noncomputable abbrev o22 (P : Params) : Obj := ⟨.type "type", none, .cls ⟨⟨#[77, 111, 100, 117, 108, 101, 83, 112, 101, 99]⟩, [.type "object"], [.ref 22, .type "object"], 21, ⟨#[77, 111, 100, 117, 108, 101, 83, 112, 101, 99]⟩, true, [], [], false, none, false⟩, #[]⟩
noncomputable abbrev o23 (P : Params) : Obj := ⟨.type "tuple", none, .seq #[.str ⟨#[95, 99, 97, 99, 104, 101, 100]⟩ 219, .str ⟨#[95, 115, 101, 116, 95, 102, 105, 108, 101, 97, 116, 116, 114]⟩ 220, .str ⟨#[95, 117, 110, 105, 110, 105, 116, 105, 97, 108, 105, 122, 101, 100, 95, 115, 117, 98, 109, 111, 100, 117, 108, 101, 115]⟩ 221, .str ⟨#[108, 111, 97, 100, 101, 114]⟩ 222, .str ⟨#[108, 111, 97, 100, 101, 114, 95, 115, 116, 97, 116, 101]⟩ 223, .str ⟨#[110, 97, 109, 101]⟩ 224, .str ⟨#[111, 114, 105, 103, 105, 110]⟩ 225, .str ⟨#[115, 117, 98, 109, 111, 100, 117, 108, 101, 95, 115, 101, 97, 114, 99, 104, 95, 108, 111, 99, 97, 116, 105, 111, 110, 115]⟩ 226] 0, #[]⟩
noncomputable abbrev o24 (P : Params) : Obj := ⟨.type "getset_descriptor", none, .fields #[.str ⟨#[95, 95, 100, 105, 99, 116, 95, 95]⟩ 237, .ref 22, .builtin "function.__dict__", .builtin "function.__dict__#set"], #[]⟩
noncomputable abbrev o25 (P : Params) : Obj := ⟨.type "getset_descriptor", none, .fields #[.str ⟨#[95, 95, 119, 101, 97, 107, 114, 101, 102, 95, 95]⟩ 239, .ref 22, .builtin "ExceptionGroup.__weakref__", .none], #[]⟩
noncomputable abbrev o26 (P : Params) : Obj := ⟨.ref 22, (some 20), .plain, #[]⟩
noncomputable abbrev o27 (P : Params) : Obj := ⟨.none, none, .seq #[.int 11 0, .str ⟨#[6, 247, 8, 95, 95, 110, 97, 109, 101, 95, 95, 6, 246, 4, 95, 115, 114, 101, 6, 248, 7, 95, 95, 100, 111, 99, 95, 95, 0, 6, 250, 11, 95, 95, 112, 97, 99, 107, 97, 103, 101, 95, 95, 6, 249, 0, 6, 251, 10, 95, 95, 108, 111, 97, 100, 101, 114, 95, 95, 4, 0, 0, 14, 6, 252, 8, 95, 95, 115, 112, 101, 99, 95, 95, 4, 0, 0, 26, 6, 253, 7, 99, 111, 109, 112, 105, 108, 101, 9, 12, 95, 115, 114, 101, 46, 99, 111, 109, 112, 105, 108, 101, 6, 254, 8, 116, 101, 109, 112, 108, 97, 116, 101, 9, 13, 95, 115, 114, 101, 46, 116, 101, 109, 112, 108, 97, 116, 101, 6, 255, 11, 103, 101, 116, 99, 111, 100, 101, 115, 105, 122, 101, 9, 16, 95, 115, 114, 101, 46, 103, 101, 116, 99, 111, 100, 101, 115, 105, 122, 101, 6, 256, 13, 97, 115, 99, 105, 105, 95, 105, 115, 99, 97, 115, 101, 100, 9, 18, 95, 115, 114, 101, 46, 97, 115, 99, 105, 105, 95, 105, 115, 99, 97, 115, 101, 100, 6, 257, 15, 117, 110, 105, 99, 111, 100, 101, 95, 105, 115, 99, 97, 115, 101, 100, 9, 20, 95, 115, 114, 101, 46, 117, 110, 105, 99, 111, 100, 101, 95, 105, 115, 99, 97, 115, 101, 100, 6, 258, 13, 97, 115, 99, 105, 105, 95, 116, 111, 108, 111, 119, 101, 114, 9, 18, 95, 115, 114, 101, 46, 97, 115, 99, 105, 105, 95, 116, 111, 108, 111, 119, 101, 114, 6, 259, 15, 117, 110, 105, 99, 111, 100, 101, 95, 116, 111, 108, 111, 119, 101, 114, 9, 20, 95, 115, 114, 101, 46, 117, 110, 105, 99, 111, 100, 101, 95, 116, 111, 108, 111, 119, 101, 114, 6, 261, 5, 77, 65, 71, 73, 67, 4, 260, 0, 20230612, 6, 263, 8, 67, 79, 68, 69, 83, 73, 90, 69, 4, 262, 0, 4, 6, 265, 9, 77, 65, 88, 82, 69, 80, 69, 65, 84, 4, 264, 0, 4294967295, 6, 267, 9, 77, 65, 88, 71, 82, 79, 85, 80, 83, 4, 266, 0, 1073741823, 6, 269, 9, 99, 111, 112, 121, 114, 105, 103, 104, 116, 6, 268, 53, 32, 83, 82, 69, 32, 50, 46, 50, 46, 50, 32, 67, 111, 112, 121, 114, 105, 103, 104, 116, 32, 40, 99, 41, 32, 49, 57, 57, 55, 45, 50, 48, 48, 50, 32, 98, 121, 32, 83, 101, 99, 114, 101, 116, 32, 76, 97, 98, 115, 32, 65, 66, 32]⟩ 0, .bool true, .bool false, .str ⟨#[95, 115, 114, 101]⟩ 271] 0, #[]⟩
noncomputable abbrev o11a (P : Params) : Obj := ⟨.type "dict", none, .dict #[⟨PyData.keyHash P ⟨#[95, 95, 110, 97, 109, 101, 95, 95]⟩, .str ⟨#[95, 95, 110, 97, 109, 101, 95, 95]⟩ 247, .str ⟨#[95, 115, 114, 101]⟩ 246⟩, ⟨PyData.keyHash P ⟨#[95, 95, 100, 111, 99, 95, 95]⟩, .str ⟨#[95, 95, 100, 111, 99, 95, 95]⟩ 248, .none⟩, ⟨PyData.keyHash P ⟨#[95, 95, 112, 97, 99, 107, 97, 103, 101, 95, 95]⟩, .str ⟨#[95, 95, 112, 97, 99, 107, 97, 103, 101, 95, 95]⟩ 250, .str ⟨#[]⟩ 249⟩, ⟨PyData.keyHash P ⟨#[95, 95, 108, 111, 97, 100, 101, 114, 95, 95]⟩, .str ⟨#[95, 95, 108, 111, 97, 100, 101, 114, 95, 95]⟩ 251, .builtin "off-the-table:_sre.__loader__:shared#opaque"⟩, ⟨PyData.keyHash P ⟨#[95, 95, 115, 112, 101, 99, 95, 95]⟩, .str ⟨#[95, 95, 115, 112, 101, 99, 95, 95]⟩ 252, .builtin "off-the-table:_sre.__spec__:shared#opaque"⟩, ⟨PyData.keyHash P ⟨#[99, 111, 109, 112, 105, 108, 101]⟩, .str ⟨#[99, 111, 109, 112, 105, 108, 101]⟩ 253, .builtin "_sre.compile"⟩, ⟨PyData.keyHash P ⟨#[116, 101, 109, 112, 108, 97, 116, 101]⟩, .str ⟨#[116, 101, 109, 112, 108, 97, 116, 101]⟩ 254, .builtin "off-the-table:_sre.template:shared#opaque"⟩, ⟨PyData.keyHash P ⟨#[103, 101, 116, 99, 111, 100, 101, 115, 105, 122, 101]⟩, .str ⟨#[103, 101, 116, 99, 111, 100, 101, 115, 105, 122, 101]⟩ 255, .builtin "off-the-table:_sre.getcodesize:shared#opaque"⟩, ⟨PyData.keyHash P ⟨#[97, 115, 99, 105, 105, 95, 105, 115, 99, 97, 115, 101, 100]⟩, .str ⟨#[97, 115, 99, 105, 105, 95, 105, 115, 99, 97, 115, 101, 100]⟩ 256, .builtin "off-the-table:_sre.ascii_iscased:shared#opaque"⟩, ⟨PyData.keyHash P ⟨#[117, 110, 105, 99, 111, 100, 101, 95, 105, 115, 99, 97, 115, 101, 100]⟩, .str ⟨#[117, 110, 105, 99, 111, 100, 101, 95, 105, 115, 99, 97, 115, 101, 100]⟩ 257, .builtin "off-the-table:_sre.unicode_iscased:shared#opaque"⟩, ⟨PyData.keyHash P ⟨#[97, 115, 99, 105, 105, 95, 116, 111, 108, 111, 119, 101, 114]⟩, .str ⟨#[97, 115, 99, 105, 105, 95, 116, 111, 108, 111, 119, 101, 114]⟩ 258, .builtin "off-the-table:_sre.ascii_tolower:shared#opaque"⟩, ⟨PyData.keyHash P ⟨#[117, 110, 105, 99, 111, 100, 101, 95, 116, 111, 108, 111, 119, 101, 114]⟩, .str ⟨#[117, 110, 105, 99, 111, 100, 101, 95, 116, 111, 108, 111, 119, 101, 114]⟩ 259, .builtin "off-the-table:_sre.unicode_tolower:shared#opaque"⟩, ⟨PyData.keyHash P ⟨#[77, 65, 71, 73, 67]⟩, .str ⟨#[77, 65, 71, 73, 67]⟩ 261, .int 20230612 260⟩, ⟨PyData.keyHash P ⟨#[67, 79, 68, 69, 83, 73, 90, 69]⟩, .str ⟨#[67, 79, 68, 69, 83, 73, 90, 69]⟩ 263, .int 4 262⟩, ⟨PyData.keyHash P ⟨#[77, 65, 88, 82, 69, 80, 69, 65, 84]⟩, .str ⟨#[77, 65, 88, 82, 69, 80, 69, 65, 84]⟩ 265, .int 4294967295 264⟩, ⟨PyData.keyHash P ⟨#[77, 65, 88, 71, 82, 79, 85, 80, 83]⟩, .str ⟨#[77, 65, 88, 71, 82, 79, 85, 80, 83]⟩ 267, .int 1073741823 266⟩, ⟨PyData.keyHash P ⟨#[99, 111, 112, 121, 114, 105, 103, 104, 116]⟩, .str ⟨#[99, 111, 112, 121, 114, 105, 103, 104, 116]⟩ 269, .str ⟨#[32, 83, 82, 69, 32, 50, 46, 50, 46, 50, 32, 67, 111, 112, 121, 114, 105, 103, 104, 116, 32, 40, 99, 41, 32, 49, 57, 57, 55, 45, 50, 48, 48, 50, 32, 98, 121, 32, 83, 101, 99, 114, 101, 116, 32, 76, 97, 98, 115, 32, 65, 66, 32]⟩ 268⟩] 17, #[]⟩
noncomputable abbrev o28 (P : Params) : Obj := ⟨.type "tuple", none, .seq #[] 0, #[]⟩
noncomputable abbrev o29 (P : Params) : Obj := ⟨.none, none, .fields #[], #[]⟩
noncomputable abbrev o30 (P : Params) : Obj := ⟨.type "code", none, .fields #[.str ⟨#[60, 109, 111, 100, 117, 108, 101, 62]⟩ 277, .str ⟨#[60, 109, 111, 100, 117, 108, 101, 62]⟩ 278, .str ⟨#[47, 99, 108, 97, 105, 109, 47, 99, 117, 116, 46, 112, 121]⟩ 279, .int 1 0, .int 0 0, .int 0 0, .int 0 0, .int 0 0, .ref 28, .bool false, .int 276 0, .ref 29, .none, .none, .none, .none, .int 280 0, .int 1 0, .str ⟨#[47, 99, 108, 97, 105, 109, 47, 99, 117, 116, 46, 112, 121]⟩ 281], #[]⟩
noncomputable abbrev o31 (P : Params) : Obj := ⟨.type "frame", none, .plain, #[(some (.ref 30)), (some (.ref 3)), (some (.ref 3)), none, (some (.str ⟨#[95, 95, 109, 97, 105, 110, 95, 95]⟩ 164)), none, (some (.ref 0))]⟩
noncomputable abbrev o3a (P : Params) : Obj := ⟨.type "dict", none, .dict #[⟨PyData.keyHash P ⟨#[95, 95, 110, 97, 109, 101, 95, 95]⟩, .str ⟨#[95, 95, 110, 97, 109, 101, 95, 95]⟩ 165, .str ⟨#[99, 112, 121, 51, 49, 51, 46, 100, 105, 115]⟩ 289⟩, ⟨PyData.keyHash P ⟨#[95, 95, 100, 111, 99, 95, 95]⟩, .str ⟨#[95, 95, 100, 111, 99, 95, 95]⟩ 166, .none⟩, ⟨PyData.keyHash P ⟨#[95, 95, 112, 97, 99, 107, 97, 103, 101, 95, 95]⟩, .str ⟨#[95, 95, 112, 97, 99, 107, 97, 103, 101, 95, 95]⟩ 167, .none⟩, ⟨PyData.keyHash P ⟨#[95, 95, 108, 111, 97, 100, 101, 114, 95, 95]⟩, .str ⟨#[95, 95, 108, 111, 97, 100, 101, 114, 95, 95]⟩ 168, .builtin "__main__.__loader__#opaque"⟩, ⟨PyData.keyHash P ⟨#[95, 95, 115, 112, 101, 99, 95, 95]⟩, .str ⟨#[95, 95, 115, 112, 101, 99, 95, 95]⟩ 169, .none⟩, ⟨PyData.keyHash P ⟨#[95, 95, 97, 110, 110, 111, 116, 97, 116, 105, 111, 110, 115, 95, 95]⟩, .str ⟨#[95, 95, 97, 110, 110, 111, 116, 97, 116, 105, 111, 110, 115, 95, 95]⟩ 170, .ref 6⟩, ⟨PyData.keyHash P ⟨#[95, 95, 98, 117, 105, 108, 116, 105, 110, 115, 95, 95]⟩, .str ⟨#[95, 95, 98, 117, 105, 108, 116, 105, 110, 115, 95, 95]⟩ 171, .ref 4⟩, ⟨PyData.keyHash P ⟨#[95, 95, 102, 105, 108, 101, 95, 95]⟩, .str ⟨#[95, 95, 102, 105, 108, 101, 95, 95]⟩ 173, .str ⟨#[47, 99, 108, 97, 105, 109, 47, 99, 117, 116, 46, 112, 121]⟩ 172⟩, ⟨PyData.keyHash P ⟨#[95, 95, 99, 97, 99, 104, 101, 100, 95, 95]⟩, .str ⟨#[95, 95, 99, 97, 99, 104, 101, 100, 95, 95]⟩ 174, .none⟩, ⟨PyData.keyHash P ⟨#[95, 115, 114, 101]⟩, .str ⟨#[95, 115, 114, 101]⟩ 275, .ref 12⟩, ⟨PyData.keyHash P ⟨#[95, 119, 97, 108, 108]⟩, .str ⟨#[95, 119, 97, 108, 108]⟩ 288, .ref 38⟩] 11, #[]⟩
noncomputable abbrev o29a (P : Params) : Obj := ⟨.none, none, .fields #[.int 2 0, .int 0 0, .ref 37], #[]⟩
noncomputable abbrev o32 (P : Params) : Obj := ⟨.type "tuple", none, .seq #[] 0, #[]⟩
noncomputable abbrev o33 (P : Params) : Obj := ⟨.none, none, .fields #[], #[]⟩
noncomputable abbrev o34 (P : Params) : Obj := ⟨.type "tuple", none, .seq #[.str ⟨#[107]⟩ 285] 0, #[]⟩
noncomputable abbrev o35 (P : Params) : Obj := ⟨.type "tuple", none, .seq #[] 0, #[]⟩
noncomputable abbrev o36 (P : Params) : Obj := ⟨.none, none, .func ⟨⟨#[95, 119, 97, 108, 108]⟩, ⟨#[95, 119, 97, 108, 108]⟩, paramsOf (defAt 1), .stmts (bodyOf (defAt 1)), scopeOf (defAt 1), 0, [], .none, .none, .none, .none, none, .none, .none, 0⟩, #[]⟩
noncomputable abbrev o37 (P : Params) : Obj := ⟨.type "code", none, .fields #[.str ⟨#[95, 119, 97, 108, 108]⟩ 282, .str ⟨#[95, 119, 97, 108, 108]⟩ 283, .str ⟨#[47, 99, 108, 97, 105, 109, 47, 99, 117, 116, 46, 112, 121]⟩ 284, .int 2 0, .int 1 0, .int 0 0, .int 0 0, .int 3 0, .ref 32, .bool true, .int 276 0, .ref 33, .none, .ref 34, .ref 35, .ref 36, .int 286 0, .int 2 0, .str ⟨#[47, 99, 108, 97, 105, 109, 47, 99, 117, 116, 46, 112, 121]⟩ 287], #[]⟩
noncomputable abbrev o38 (P : Params) : Obj := ⟨.type "function", none, .func ⟨⟨#[95, 119, 97, 108, 108]⟩, ⟨#[95, 119, 97, 108, 108]⟩, paramsOf (defAt 1), .stmts (bodyOf (defAt 1)), scopeOf (defAt 1), 3, [], .none, .none, .none, .str ⟨#[95, 95, 109, 97, 105, 110, 95, 95]⟩ 164, none, .ref 37, .none, 0⟩, #[]⟩
noncomputable abbrev o3b (P : Params) : Obj := ⟨.type "dict", none, .dict #[⟨PyData.keyHash P ⟨#[95, 95, 110, 97, 109, 101, 95, 95]⟩, .str ⟨#[95, 95, 110, 97, 109, 101, 95, 95]⟩ 165, .str ⟨#[99, 112, 121, 51, 49, 51, 46, 100, 105, 115]⟩ 289⟩, ⟨PyData.keyHash P ⟨#[95, 95, 100, 111, 99, 95, 95]⟩, .str ⟨#[95, 95, 100, 111, 99, 95, 95]⟩ 166, .none⟩, ⟨PyData.keyHash P ⟨#[95, 95, 112, 97, 99, 107, 97, 103, 101, 95, 95]⟩, .str ⟨#[95, 95, 112, 97, 99, 107, 97, 103, 101, 95, 95]⟩ 167, .none⟩, ⟨PyData.keyHash P ⟨#[95, 95, 108, 111, 97, 100, 101, 114, 95, 95]⟩, .str ⟨#[95, 95, 108, 111, 97, 100, 101, 114, 95, 95]⟩ 168, .builtin "__main__.__loader__#opaque"⟩, ⟨PyData.keyHash P ⟨#[95, 95, 115, 112, 101, 99, 95, 95]⟩, .str ⟨#[95, 95, 115, 112, 101, 99, 95, 95]⟩ 169, .none⟩, ⟨PyData.keyHash P ⟨#[95, 95, 97, 110, 110, 111, 116, 97, 116, 105, 111, 110, 115, 95, 95]⟩, .str ⟨#[95, 95, 97, 110, 110, 111, 116, 97, 116, 105, 111, 110, 115, 95, 95]⟩ 170, .ref 6⟩, ⟨PyData.keyHash P ⟨#[95, 95, 98, 117, 105, 108, 116, 105, 110, 115, 95, 95]⟩, .str ⟨#[95, 95, 98, 117, 105, 108, 116, 105, 110, 115, 95, 95]⟩ 171, .ref 4⟩, ⟨PyData.keyHash P ⟨#[95, 95, 102, 105, 108, 101, 95, 95]⟩, .str ⟨#[95, 95, 102, 105, 108, 101, 95, 95]⟩ 173, .str ⟨#[47, 99, 108, 97, 105, 109, 47, 99, 117, 116, 46, 112, 121]⟩ 172⟩, ⟨PyData.keyHash P ⟨#[95, 95, 99, 97, 99, 104, 101, 100, 95, 95]⟩, .str ⟨#[95, 95, 99, 97, 99, 104, 101, 100, 95, 95]⟩ 174, .none⟩, ⟨PyData.keyHash P ⟨#[95, 115, 114, 101]⟩, .str ⟨#[95, 115, 114, 101]⟩ 275, .ref 12⟩, ⟨PyData.keyHash P ⟨#[95, 119, 97, 108, 108]⟩, .str ⟨#[95, 119, 97, 108, 108]⟩ 288, .ref 38⟩, ⟨PyData.keyHash P ⟨#[67, 79, 77, 80, 73, 76, 69, 82, 95, 70, 76, 65, 71, 95, 78, 65, 77, 69, 83]⟩, .str ⟨#[67, 79, 77, 80, 73, 76, 69, 82, 95, 70, 76, 65, 71, 95, 78, 65, 77, 69, 83]⟩ 321, .ref 39⟩] 12, #[]⟩
noncomputable abbrev o39 (P : Params) : Obj := ⟨.type "dict", none, .dict #[⟨1, .int 1 291, .str ⟨#[79, 80, 84, 73, 77, 73, 90, 69, 68]⟩ 292⟩, ⟨2, .int 2 293, .str ⟨#[78, 69, 87, 76, 79, 67, 65, 76, 83]⟩ 294⟩, ⟨4, .int 4 295, .str ⟨#[86, 65, 82, 65, 82, 71, 83]⟩ 296⟩, ⟨8, .int 8 297, .str ⟨#[86, 65, 82, 75, 69, 89, 87, 79, 82, 68, 83]⟩ 298⟩, ⟨16, .int 16 299, .str ⟨#[78, 69, 83, 84, 69, 68]⟩ 300⟩, ⟨32, .int 32 301, .str ⟨#[71, 69, 78, 69, 82, 65, 84, 79, 82]⟩ 302⟩, ⟨64, .int 64 303, .str ⟨#[78, 79, 70, 82, 69, 69]⟩ 304⟩, ⟨128, .int 128 305, .str ⟨#[67, 79, 82, 79, 85, 84, 73, 78, 69]⟩ 306⟩, ⟨256, .int 256 307, .str ⟨#[73, 84, 69, 82, 65, 66, 76, 69, 95, 67, 79, 82, 79, 85, 84, 73, 78, 69]⟩ 308⟩, ⟨512, .int 512 309, .str ⟨#[65, 83, 89, 78, 67, 95, 71, 69, 78, 69, 82, 65, 84, 79, 82]⟩ 310⟩] 10, #[]⟩
noncomputable abbrev o3c (P : Params) : Obj := ⟨.type "dict", none, .dict #[⟨PyData.keyHash P ⟨#[95, 95, 110, 97, 109, 101, 95, 95]⟩, .str ⟨#[95, 95, 110, 97, 109, 101, 95, 95]⟩ 165, .str ⟨#[99, 112, 121, 51, 49, 51, 46, 115, 116, 114, 105, 110, 103, 112, 114, 101, 112]⟩ 392⟩, ⟨PyData.keyHash P ⟨#[95, 95, 100, 111, 99, 95, 95]⟩, .str ⟨#[95, 95, 100, 111, 99, 95, 95]⟩ 166, .none⟩, ⟨PyData.keyHash P ⟨#[95, 95, 112, 97, 99, 107, 97, 103, 101, 95, 95]⟩, .str ⟨#[95, 95, 112, 97, 99, 107, 97, 103, 101, 95, 95]⟩ 167, .none⟩, ⟨PyData.keyHash P ⟨#[95, 95, 108, 111, 97, 100, 101, 114, 95, 95]⟩, .str ⟨#[95, 95, 108, 111, 97, 100, 101, 114, 95, 95]⟩ 168, .builtin "__main__.__loader__#opaque"⟩, ⟨PyData.keyHash P ⟨#[95, 95, 115, 112, 101, 99, 95, 95]⟩, .str ⟨#[95, 95, 115, 112, 101, 99, 95, 95]⟩ 169, .none⟩, ⟨PyData.keyHash P ⟨#[95, 95, 97, 110, 110, 111, 116, 97, 116, 105, 111, 110, 115, 95, 95]⟩, .str ⟨#[95, 95, 97, 110, 110, 111, 116, 97, 116, 105, 111, 110, 115, 95, 95]⟩ 170, .ref 6⟩, ⟨PyData.keyHash P ⟨#[95, 95, 98, 117, 105, 108, 116, 105, 110, 115, 95, 95]⟩, .str ⟨#[95, 95, 98, 117, 105, 108, 116, 105, 110, 115, 95, 95]⟩ 171, .ref 4⟩, ⟨PyData.keyHash P ⟨#[95, 95, 102, 105, 108, 101, 95, 95]⟩, .str ⟨#[95, 95, 102, 105, 108, 101, 95, 95]⟩ 173, .str ⟨#[47, 99, 108, 97, 105, 109, 47, 99, 117, 116, 46, 112, 121]⟩ 172⟩, ⟨PyData.keyHash P ⟨#[95, 95, 99, 97, 99, 104, 101, 100, 95, 95]⟩, .str ⟨#[95, 95, 99, 97, 99, 104, 101, 100, 95, 95]⟩ 174, .none⟩, ⟨PyData.keyHash P ⟨#[95, 115, 114, 101]⟩, .str ⟨#[95, 115, 114, 101]⟩ 275, .ref 12⟩, ⟨PyData.keyHash P ⟨#[95, 119, 97, 108, 108]⟩, .str ⟨#[95, 119, 97, 108, 108]⟩ 288, .ref 38⟩, ⟨PyData.keyHash P ⟨#[67, 79, 77, 80, 73, 76, 69, 82, 95, 70, 76, 65, 71, 95, 78, 65, 77, 69, 83]⟩, .str ⟨#[67, 79, 77, 80, 73, 76, 69, 82, 95, 70, 76, 65, 71, 95, 78, 65, 77, 69, 83]⟩ 321, .ref 39⟩, ⟨PyData.keyHash P ⟨#[112, 114, 101, 116, 116, 121, 95, 102, 108, 97, 103, 115]⟩, .str ⟨#[112, 114, 101, 116, 116, 121, 95, 102, 108, 97, 103, 115]⟩ 331, .ref 46⟩, ⟨PyData.keyHash P ⟨#[95, 110, 101, 116, 114, 99, 108, 101, 120]⟩, .str ⟨#[95, 110, 101, 116, 114, 99, 108, 101, 120]⟩ 391, .ref 84⟩] 14, #[]⟩
noncomputable abbrev o29b (P : Params) : Obj := ⟨.none, none, .fields #[.int 2 0, .int 0 0, .ref 37, .int 7 0, .int 0 0, .ref 45, .int 20 0, .int 0 0, .ref 52], #[]⟩
noncomputable abbrev o40 (P : Params) : Obj := ⟨.type "tuple", none, .seq #[] 0, #[]⟩
noncomputable abbrev o41 (P : Params) : Obj := ⟨.none, none, .fields #[], #[]⟩
noncomputable abbrev o42 (P : Params) : Obj := ⟨.type "tuple", none, .seq #[.str ⟨#[102, 108, 97, 103, 115]⟩ 325, .str ⟨#[110, 97, 109, 101, 115]⟩ 326, .str ⟨#[105]⟩ 327, .str ⟨#[102, 108, 97, 103]⟩ 328] 0, #[]⟩
noncomputable abbrev o43 (P : Params) : Obj := ⟨.type "tuple", none, .seq #[] 0, #[]⟩
noncomputable abbrev o44 (P : Params) : Obj := ⟨.none, none, .func ⟨⟨#[112, 114, 101, 116, 116, 121, 95, 102, 108, 97, 103, 115]⟩, ⟨#[112, 114, 101, 116, 116, 121, 95, 102, 108, 97, 103, 115]⟩, paramsOf (defAt 4), .stmts (bodyOf (defAt 4)), scopeOf (defAt 4), 0, [], .none, .none, .none, .none, none, .none, .none, 0⟩, #[]⟩
noncomputable abbrev o45 (P : Params) : Obj := ⟨.type "code", none, .fields #[.str ⟨#[112, 114, 101, 116, 116, 121, 95, 102, 108, 97, 103, 115]⟩ 322, .str ⟨#[112, 114, 101, 116, 116, 121, 95, 102, 108, 97, 103, 115]⟩ 323, .str ⟨#[47, 99, 108, 97, 105, 109, 47, 99, 117, 116, 46, 112, 121]⟩ 324, .int 7 0, .int 1 0, .int 0 0, .int 0 0, .int 3 0, .ref 40, .bool true, .int 276 0, .ref 41, .none, .ref 42, .ref 43, .ref 44, .int 329 0, .int 7 0, .str ⟨#[47, 99, 108, 97, 105, 109, 47, 99, 117, 116, 46, 112, 121]⟩ 330], #[]⟩
noncomputable abbrev o46 (P : Params) : Obj := ⟨.type "function", none, .func ⟨⟨#[112, 114, 101, 116, 116, 121, 95, 102, 108, 97, 103, 115]⟩, ⟨#[112, 114, 101, 116, 116, 121, 95, 102, 108, 97, 103, 115]⟩, paramsOf (defAt 4), .stmts (bodyOf (defAt 4)), scopeOf (defAt 4), 3, [], .none, .none, .none, .str ⟨#[99, 112, 121, 51, 49, 51, 46, 100, 105, 115]⟩ 289, none, .ref 45, .none, 0⟩, #[]⟩
noncomputable abbrev o47 (P : Params) : Obj := ⟨.type "tuple", none, .seq #[] 0, #[]⟩
noncomputable abbrev o48 (P : Params) : Obj := ⟨.type "builtin_function_or_method", none, .fields #[.builtin "type.__prepare__", .type "type"], #[]⟩
noncomputable abbrev o49 (P : Params) : Obj := ⟨.type "dict", none, .dict #[⟨PyData.keyHash P ⟨#[95, 95, 109, 111, 100, 117, 108, 101, 95, 95]⟩, .str ⟨#[95, 95, 109, 111, 100, 117, 108, 101, 95, 95]⟩ 341, .str ⟨#[99, 112, 121, 51, 49, 51, 46, 110, 101, 116, 114, 99]⟩ 332⟩, ⟨PyData.keyHash P ⟨#[95, 95, 113, 117, 97, 108, 110, 97, 109, 101, 95, 95]⟩, .str ⟨#[95, 95, 113, 117, 97, 108, 110, 97, 109, 101, 95, 95]⟩ 343, .str ⟨#[95, 110, 101, 116, 114, 99, 108, 101, 120]⟩ 342⟩, ⟨PyData.keyHash P ⟨#[95, 95, 102, 105, 114, 115, 116, 108, 105, 110, 101, 110, 111, 95, 95]⟩, .str ⟨#[95, 95, 102, 105, 114, 115, 116, 108, 105, 110, 101, 110, 111, 95, 95]⟩ 345, .int 20 344⟩, ⟨PyData.keyHash P ⟨#[95, 95, 105, 110, 105, 116, 95, 95]⟩, .str ⟨#[95, 95, 105, 110, 105, 116, 95, 95]⟩ 353, .ref 60⟩, ⟨PyData.keyHash P ⟨#[95, 114, 101, 97, 100, 95, 99, 104, 97, 114]⟩, .str ⟨#[95, 114, 101, 97, 100, 95, 99, 104, 97, 114]⟩ 361, .ref 67⟩, ⟨PyData.keyHash P ⟨#[103, 101, 116, 95, 116, 111, 107, 101, 110]⟩, .str ⟨#[103, 101, 116, 95, 116, 111, 107, 101, 110]⟩ 371, .ref 74⟩, ⟨PyData.keyHash P ⟨#[112, 117, 115, 104, 95, 116, 111, 107, 101, 110]⟩, .str ⟨#[112, 117, 115, 104, 95, 116, 111, 107, 101, 110]⟩ 379, .ref 81⟩, ⟨PyData.keyHash P ⟨#[95, 95, 115, 116, 97, 116, 105, 99, 95, 97, 116, 116, 114, 105, 98, 117, 116, 101, 115, 95, 95]⟩, .str ⟨#[95, 95, 115, 116, 97, 116, 105, 99, 95, 97, 116, 116, 114, 105, 98, 117, 116, 101, 115, 95, 95]⟩ 384, .ref 82⟩] 8, #[]⟩
noncomputable abbrev o50 (P : Params) : Obj := ⟨.type "tuple", none, .seq #[] 0, #[]⟩
noncomputable abbrev o51 (P : Params) : Obj := ⟨.none, none, .fields #[.int 22 0, .int 4 0, .ref 59, .int 28 0, .int 4 0, .ref 66, .int 34 0, .int 4 0, .ref 73, .int 61 0, .int 4 0, .ref 80], #[]⟩
noncomputable abbrev o52 (P : Params) : Obj := ⟨.type "code", none, .fields #[.str ⟨#[95, 110, 101, 116, 114, 99, 108, 101, 120]⟩ 336, .str ⟨#[95, 110, 101, 116, 114, 99, 108, 101, 120]⟩ 337, .str ⟨#[47, 99, 108, 97, 105, 109, 47, 99, 117, 116, 46, 112, 121]⟩ 338, .int 20 0, .int 0 0, .int 0 0, .int 0 0, .int 0 0, .ref 50, .bool false, .int 276 0, .ref 51, .none, .none, .none, .none, .int 339 0, .int 20 0, .str ⟨#[47, 99, 108, 97, 105, 109, 47, 99, 117, 116, 46, 112, 121]⟩ 340], #[]⟩
noncomputable abbrev o53 (P : Params) : Obj := ⟨.type "frame", none, .plain, #[(some (.ref 52)), (some (.ref 3)), (some (.ref 49)), none, (some (.str ⟨#[99, 112, 121, 51, 49, 51, 46, 110, 101, 116, 114, 99]⟩ 332)), none, (some (.ref 0))]⟩
noncomputable abbrev o54 (P : Params) : Obj := ⟨.type "tuple", none, .seq #[] 0, #[]⟩
noncomputable abbrev o55 (P : Params) : Obj := ⟨.none, none, .fields #[], #[]⟩
noncomputable abbrev o56 (P : Params) : Obj := ⟨.type "tuple", none, .seq #[.str ⟨#[115, 101, 108, 102]⟩ 349, .str ⟨#[102, 112]⟩ 350] 0, #[]⟩
noncomputable abbrev o57 (P : Params) : Obj := ⟨.type "tuple", none, .seq #[] 0, #[]⟩
noncomputable abbrev o58 (P : Params) : Obj := ⟨.none, none, .func ⟨⟨#[95, 95, 105, 110, 105, 116, 95, 95]⟩, ⟨#[95, 110, 101, 116, 114, 99, 108, 101, 120, 46, 95, 95, 105, 110, 105, 116, 95, 95]⟩, paramsOf (methAt 6 0), .stmts (bodyOf (methAt 6 0)), scopeOf (methAt 6 0), 0, [], .none, .none, .none, .none, none, .none, .none, 0⟩, #[]⟩
noncomputable abbrev o59 (P : Params) : Obj := ⟨.type "code", none, .fields #[.str ⟨#[95, 95, 105, 110, 105, 116, 95, 95]⟩ 346, .str ⟨#[95, 110, 101, 116, 114, 99, 108, 101, 120, 46, 95, 95, 105, 110, 105, 116, 95, 95]⟩ 347, .str ⟨#[47, 99, 108, 97, 105, 109, 47, 99, 117, 116, 46, 112, 121]⟩ 348, .int 22 0, .int 2 0, .int 0 0, .int 0 0, .int 3 0, .ref 54, .bool true, .int 276 0, .ref 55, .none, .ref 56, .ref 57, .ref 58, .int 351 0, .int 22 0, .str ⟨#[47, 99, 108, 97, 105, 109, 47, 99, 117, 116, 46, 112, 121]⟩ 352], #[]⟩
noncomputable abbrev o60 (P : Params) : Obj := ⟨.type "function", none, .func ⟨⟨#[95, 95, 105, 110, 105, 116, 95, 95]⟩, ⟨#[95, 110, 101, 116, 114, 99, 108, 101, 120, 46, 95, 95, 105, 110, 105, 116, 95, 95]⟩, paramsOf (methAt 6 0), .stmts (bodyOf (methAt 6 0)), scopeOf (methAt 6 0), 3, [], .none, .none, .none, .str ⟨#[99, 112, 121, 51, 49, 51, 46, 110, 101, 116, 114, 99]⟩ 332, none, .ref 59, .none, 0⟩, #[]⟩
noncomputable abbrev o61 (P : Params) : Obj := ⟨.type "tuple", none, .seq #[] 0, #[]⟩
noncomputable abbrev o62 (P : Params) : Obj := ⟨.none, none, .fields #[], #[]⟩
noncomputable abbrev o63 (P : Params) : Obj := ⟨.type "tuple", none, .seq #[.str ⟨#[115, 101, 108, 102]⟩ 357, .str ⟨#[99, 104]⟩ 358] 0, #[]⟩
noncomputable abbrev o64 (P : Params) : Obj := ⟨.type "tuple", none, .seq #[] 0, #[]⟩
noncomputable abbrev o65 (P : Params) : Obj := ⟨.none, none, .func ⟨⟨#[95, 114, 101, 97, 100, 95, 99, 104, 97, 114]⟩, ⟨#[95, 110, 101, 116, 114, 99, 108, 101, 120, 46, 95, 114, 101, 97, 100, 95, 99, 104, 97, 114]⟩, paramsOf (methAt 6 1), .stmts (bodyOf (methAt 6 1)), scopeOf (methAt 6 1), 0, [], .none, .none, .none, .none, none, .none, .none, 0⟩, #[]⟩
noncomputable abbrev o66 (P : Params) : Obj := ⟨.type "code", none, .fields #[.str ⟨#[95, 114, 101, 97, 100, 95, 99, 104, 97, 114]⟩ 354, .str ⟨#[95, 110, 101, 116, 114, 99, 108, 101, 120, 46, 95, 114, 101, 97, 100, 95, 99, 104, 97, 114]⟩ 355, .str ⟨#[47, 99, 108, 97, 105, 109, 47, 99, 117, 116, 46, 112, 121]⟩ 356, .int 28 0, .int 1 0, .int 0 0, .int 0 0, .int 3 0, .ref 61, .bool true, .int 276 0, .ref 62, .none, .ref 63, .ref 64, .ref 65, .int 359 0, .int 28 0, .str ⟨#[47, 99, 108, 97, 105, 109, 47, 99, 117, 116, 46, 112, 121]⟩ 360], #[]⟩
noncomputable abbrev o67 (P : Params) : Obj := ⟨.type "function", none, .func ⟨⟨#[95, 114, 101, 97, 100, 95, 99, 104, 97, 114]⟩, ⟨#[95, 110, 101, 116, 114, 99, 108, 101, 120, 46, 95, 114, 101, 97, 100, 95, 99, 104, 97, 114]⟩, paramsOf (methAt 6 1), .stmts (bodyOf (methAt 6 1)), scopeOf (methAt 6 1), 3, [], .none, .none, .none, .str ⟨#[99, 112, 121, 51, 49, 51, 46, 110, 101, 116, 114, 99]⟩ 332, none, .ref 66, .none, 0⟩, #[]⟩
noncomputable abbrev o68 (P : Params) : Obj := ⟨.type "tuple", none, .seq #[] 0, #[]⟩
noncomputable abbrev o69 (P : Params) : Obj := ⟨.none, none, .fields #[], #[]⟩
noncomputable abbrev o70 (P : Params) : Obj := ⟨.type "tuple", none, .seq #[.str ⟨#[115, 101, 108, 102]⟩ 365, .str ⟨#[116, 111, 107, 101, 110]⟩ 366, .str ⟨#[102, 105, 116, 101, 114]⟩ 367, .str ⟨#[99, 104]⟩ 368] 0, #[]⟩
noncomputable abbrev o71 (P : Params) : Obj := ⟨.type "tuple", none, .seq #[] 0, #[]⟩
noncomputable abbrev o72 (P : Params) : Obj := ⟨.none, none, .func ⟨⟨#[103, 101, 116, 95, 116, 111, 107, 101, 110]⟩, ⟨#[95, 110, 101, 116, 114, 99, 108, 101, 120, 46, 103, 101, 116, 95, 116, 111, 107, 101, 110]⟩, paramsOf (methAt 6 2), .stmts (bodyOf (methAt 6 2)), scopeOf (methAt 6 2), 0, [], .none, .none, .none, .none, none, .none, .none, 0⟩, #[]⟩
noncomputable abbrev o73 (P : Params) : Obj := ⟨.type "code", none, .fields #[.str ⟨#[103, 101, 116, 95, 116, 111, 107, 101, 110]⟩ 362, .str ⟨#[95, 110, 101, 116, 114, 99, 108, 101, 120, 46, 103, 101, 116, 95, 116, 111, 107, 101, 110]⟩ 363, .str ⟨#[47, 99, 108, 97, 105, 109, 47, 99, 117, 116, 46, 112, 121]⟩ 364, .int 34 0, .int 1 0, .int 0 0, .int 0 0, .int 3 0, .ref 68, .bool true, .int 276 0, .ref 69, .none, .ref 70, .ref 71, .ref 72, .int 369 0, .int 34 0, .str ⟨#[47, 99, 108, 97, 105, 109, 47, 99, 117, 116, 46, 112, 121]⟩ 370], #[]⟩
noncomputable abbrev o74 (P : Params) : Obj := ⟨.type "function", none, .func ⟨⟨#[103, 101, 116, 95, 116, 111, 107, 101, 110]⟩, ⟨#[95, 110, 101, 116, 114, 99, 108, 101, 120, 46, 103, 101, 116, 95, 116, 111, 107, 101, 110]⟩, paramsOf (methAt 6 2), .stmts (bodyOf (methAt 6 2)), scopeOf (methAt 6 2), 3, [], .none, .none, .none, .str ⟨#[99, 112, 121, 51, 49, 51, 46, 110, 101, 116, 114, 99]⟩ 332, none, .ref 73, .none, 0⟩, #[]⟩
noncomputable abbrev o75 (P : Params) : Obj := ⟨.type "tuple", none, .seq #[] 0, #[]⟩
noncomputable abbrev o76 (P : Params) : Obj := ⟨.none, none, .fields #[], #[]⟩
noncomputable abbrev o77 (P : Params) : Obj := ⟨.type "tuple", none, .seq #[.str ⟨#[115, 101, 108, 102]⟩ 375, .str ⟨#[116, 111, 107, 101, 110]⟩ 376] 0, #[]⟩
noncomputable abbrev o78 (P : Params) : Obj := ⟨.type "tuple", none, .seq #[] 0, #[]⟩
noncomputable abbrev o79 (P : Params) : Obj := ⟨.none, none, .func ⟨⟨#[112, 117, 115, 104, 95, 116, 111, 107, 101, 110]⟩, ⟨#[95, 110, 101, 116, 114, 99, 108, 101, 120, 46, 112, 117, 115, 104, 95, 116, 111, 107, 101, 110]⟩, paramsOf (methAt 6 3), .stmts (bodyOf (methAt 6 3)), scopeOf (methAt 6 3), 0, [], .none, .none, .none, .none, none, .none, .none, 0⟩, #[]⟩
noncomputable abbrev o80 (P : Params) : Obj := ⟨.type "code", none, .fields #[.str ⟨#[112, 117, 115, 104, 95, 116, 111, 107, 101, 110]⟩ 372, .str ⟨#[95, 110, 101, 116, 114, 99, 108, 101, 120, 46, 112, 117, 115, 104, 95, 116, 111, 107, 101, 110]⟩ 373, .str ⟨#[47, 99, 108, 97, 105, 109, 47, 99, 117, 116, 46, 112, 121]⟩ 374, .int 61 0, .int 2 0, .int 0 0, .int 0 0, .int 3 0, .ref 75, .bool true, .int 276 0, .ref 76, .none, .ref 77, .ref 78, .ref 79, .int 377 0, .int 61 0, .str ⟨#[47, 99, 108, 97, 105, 109, 47, 99, 117, 116, 46, 112, 121]⟩ 378], #[]⟩
noncomputable abbrev o81 (P : Params) : Obj := ⟨.type "function", none, .func ⟨⟨#[112, 117, 115, 104, 95, 116, 111, 107, 101, 110]⟩, ⟨#[95, 110, 101, 116, 114, 99, 108, 101, 120, 46, 112, 117, 115, 104, 95, 116, 111, 107, 101, 110]⟩, paramsOf (methAt 6 3), .stmts (bodyOf (methAt 6 3)), scopeOf (methAt 6 3), 3, [], .none, .none, .none, .str ⟨#[99, 112, 121, 51, 49, 51, 46, 110, 101, 116, 114, 99]⟩ 332, none, .ref 80, .none, 0⟩, #[]⟩
noncomputable abbrev o82 (P : Params) : Obj := ⟨.type "tuple", none, .seq #[.str ⟨#[105, 110, 115, 116, 114, 101, 97, 109]⟩ 380, .str ⟨#[108, 105, 110, 101, 110, 111]⟩ 381, .str ⟨#[112, 117, 115, 104, 98, 97, 99, 107]⟩ 382, .str ⟨#[119, 104, 105, 116, 101, 115, 112, 97, 99, 101]⟩ 383] 0, #[]⟩
noncomputable abbrev o83 (P : Params) : Obj := ⟨.type "dict", none, .dict #[⟨PyData.keyHash P ⟨#[95, 95, 109, 111, 100, 117, 108, 101, 95, 95]⟩, .str ⟨#[95, 95, 109, 111, 100, 117, 108, 101, 95, 95]⟩ 341, .str ⟨#[99, 112, 121, 51, 49, 51, 46, 110, 101, 116, 114, 99]⟩ 332⟩, ⟨PyData.keyHash P ⟨#[95, 95, 102, 105, 114, 115, 116, 108, 105, 110, 101, 110, 111, 95, 95]⟩, .str ⟨#[95, 95, 102, 105, 114, 115, 116, 108, 105, 110, 101, 110, 111, 95, 95]⟩ 345, .int 20 344⟩, ⟨PyData.keyHash P ⟨#[95, 95, 105, 110, 105, 116, 95, 95]⟩, .str ⟨#[95, 95, 105, 110, 105, 116, 95, 95]⟩ 353, .ref 60⟩, ⟨PyData.keyHash P ⟨#[95, 114, 101, 97, 100, 95, 99, 104, 97, 114]⟩, .str ⟨#[95, 114, 101, 97, 100, 95, 99, 104, 97, 114]⟩ 361, .ref 67⟩, ⟨PyData.keyHash P ⟨#[103, 101, 116, 95, 116, 111, 107, 101, 110]⟩, .str ⟨#[103, 101, 116, 95, 116, 111, 107, 101, 110]⟩ 371, .ref 74⟩, ⟨PyData.keyHash P ⟨#[112, 117, 115, 104, 95, 116, 111, 107, 101, 110]⟩, .str ⟨#[112, 117, 115, 104, 95, 116, 111, 107, 101, 110]⟩ 379, .ref 81⟩, ⟨PyData.keyHash P ⟨#[95, 95, 115, 116, 97, 116, 105, 99, 95, 97, 116, 116, 114, 105, 98, 117, 116, 101, 115, 95, 95]⟩, .str ⟨#[95, 95, 115, 116, 97, 116, 105, 99, 95, 97, 116, 116, 114, 105, 98, 117, 116, 101, 115, 95, 95]⟩ 384, .ref 82⟩, ⟨PyData.keyHash P ⟨#[95, 95, 100, 105, 99, 116, 95, 95]⟩, .str ⟨#[95, 95, 100, 105, 99, 116, 95, 95]⟩ 386, .ref 85⟩, ⟨PyData.keyHash P ⟨#[95, 95, 119, 101, 97, 107, 114, 101, 102, 95, 95]⟩, .str ⟨#[95, 95, 119, 101, 97, 107, 114, 101, 102, 95, 95]⟩ 388, .ref 86⟩, ⟨PyData.keyHash P ⟨#[95, 95, 100, 111, 99, 95, 95]⟩, .str ⟨#[95, 95, 100, 111, 99, 95, 95]⟩ 389, .none⟩] 4, #[]⟩
noncomputable abbrev o84 (P : Params) : Obj := ⟨.type "type", none, .cls ⟨⟨#[95, 110, 101, 116, 114, 99, 108, 101, 120]⟩, [.type "object"], [.ref 84, .type "object"], 83, ⟨#[95, 110, 101, 116, 114, 99, 108, 101, 120]⟩, true, [], [], false, none, false⟩, #[none, none, (some (.str ⟨#[95, 110, 101, 116, 114, 99, 108, 101, 120]⟩ 334)), (some (.str ⟨#[95, 110, 101, 116, 114, 99, 108, 101, 120]⟩ 342)), (some (.builtin "object.__new__")), (some (.bool true))]⟩
noncomputable abbrev o85 (P : Params) : Obj := ⟨.type "getset_descriptor", none, .fields #[.str ⟨#[95, 95, 100, 105, 99, 116, 95, 95]⟩ 385, .ref 84, .builtin "function.__dict__", .builtin "function.__dict__#set"], #[]⟩
noncomputable abbrev o86 (P : Params) : Obj := ⟨.type "getset_descriptor", none, .fields #[.str ⟨#[95, 95, 119, 101, 97, 107, 114, 101, 102, 95, 95]⟩ 387, .ref 84, .builtin "ExceptionGroup.__weakref__", .none], #[]⟩
noncomputable abbrev o87 (P : Params) : Obj := ⟨.type "super", none, .fields #[.ref 84, .ref 84, .ref 84], #[]⟩
noncomputable abbrev o88 (P : Params) : Obj := ⟨.type "builtin_function_or_method", none, .fields #[.builtin "object.__init_subclass__", .ref 84], #[]⟩
noncomputable abbrev o3d (P : Params) : Obj := ⟨.type "dict", none, .dict #[⟨PyData.keyHash P ⟨#[95, 95, 110, 97, 109, 101, 95, 95]⟩, .str ⟨#[95, 95, 110, 97, 109, 101, 95, 95]⟩ 165, .str ⟨#[99, 112, 121, 51, 49, 51, 46, 115, 116, 114, 105, 110, 103, 112, 114, 101, 112]⟩ 392⟩, ⟨PyData.keyHash P ⟨#[95, 95, 100, 111, 99, 95, 95]⟩, .str ⟨#[95, 95, 100, 111, 99, 95, 95]⟩ 166, .none⟩, ⟨PyData.keyHash P ⟨#[95, 95, 112, 97, 99, 107, 97, 103, 101, 95, 95]⟩, .str ⟨#[95, 95, 112, 97, 99, 107, 97, 103, 101, 95, 95]⟩ 167, .none⟩, ⟨PyData.keyHash P ⟨#[95, 95, 108, 111, 97, 100, 101, 114, 95, 95]⟩, .str ⟨#[95, 95, 108, 111, 97, 100, 101, 114, 95, 95]⟩ 168, .builtin "__main__.__loader__#opaque"⟩, ⟨PyData.keyHash P ⟨#[95, 95, 115, 112, 101, 99, 95, 95]⟩, .str ⟨#[95, 95, 115, 112, 101, 99, 95, 95]⟩ 169, .none⟩, ⟨PyData.keyHash P ⟨#[95, 95, 97, 110, 110, 111, 116, 97, 116, 105, 111, 110, 115, 95, 95]⟩, .str ⟨#[95, 95, 97, 110, 110, 111, 116, 97, 116, 105, 111, 110, 115, 95, 95]⟩ 170, .ref 6⟩, ⟨PyData.keyHash P ⟨#[95, 95, 98, 117, 105, 108, 116, 105, 110, 115, 95, 95]⟩, .str ⟨#[95, 95, 98, 117, 105, 108, 116, 105, 110, 115, 95, 95]⟩ 171, .ref 4⟩, ⟨PyData.keyHash P ⟨#[95, 95, 102, 105, 108, 101, 95, 95]⟩, .str ⟨#[95, 95, 102, 105, 108, 101, 95, 95]⟩ 173, .str ⟨#[47, 99, 108, 97, 105, 109, 47, 99, 117, 116, 46, 112, 121]⟩ 172⟩, ⟨PyData.keyHash P ⟨#[95, 95, 99, 97, 99, 104, 101, 100, 95, 95]⟩, .str ⟨#[95, 95, 99, 97, 99, 104, 101, 100, 95, 95]⟩ 174, .none⟩, ⟨PyData.keyHash P ⟨#[95, 115, 114, 101]⟩, .str ⟨#[95, 115, 114, 101]⟩ 275, .ref 12⟩, ⟨PyData.keyHash P ⟨#[95, 119, 97, 108, 108]⟩, .str ⟨#[95, 119, 97, 108, 108]⟩ 288, .ref 38⟩, ⟨PyData.keyHash P ⟨#[67, 79, 77, 80, 73, 76, 69, 82, 95, 70, 76, 65, 71, 95, 78, 65, 77, 69, 83]⟩, .str ⟨#[67, 79, 77, 80, 73, 76, 69, 82, 95, 70, 76, 65, 71, 95, 78, 65, 77, 69, 83]⟩ 321, .ref 39⟩, ⟨PyData.keyHash P ⟨#[112, 114, 101, 116, 116, 121, 95, 102, 108, 97, 103, 115]⟩, .str ⟨#[112, 114, 101, 116, 116, 121, 95, 102, 108, 97, 103, 115]⟩ 331, .ref 46⟩, ⟨PyData.keyHash P ⟨#[95, 110, 101, 116, 114, 99, 108, 101, 120]⟩, .str ⟨#[95, 110, 101, 116, 114, 99, 108, 101, 120]⟩ 391, .ref 84⟩, ⟨PyData.keyHash P ⟨#[98, 49, 95, 115, 101, 116]⟩, .str ⟨#[98, 49, 95, 115, 101, 116]⟩ 453, .ref 96⟩] 15, #[]⟩
noncomputable abbrev o89 (P : Params) : Obj := ⟨.type "list", none, .seq #[.int 173 394, .int 847 395, .int 6150 396, .int 6155 397, .int 6156 398, .int 6157 399, .int 8203 400, .int 8204 401, .int 8205 402, .int 8288 403, .int 65279 404] 0, #[]⟩
noncomputable abbrev o90 (P : Params) : Obj := ⟨.type "range", none, .fields #[.int 65024 405, .int 65040 406, .int 1 407], #[]⟩
noncomputable abbrev o91 (P : Params) : Obj := ⟨.type "list", none, .seq #[.int 65024 410, .int 65025 411, .int 65026 412, .int 65027 413, .int 65028 414, .int 65029 415, .int 65030 416, .int 65031 417, .int 65032 418, .int 65033 419, .int 65034 420, .int 65035 421, .int 65036 422, .int 65037 423, .int 65038 424, .int 65039 425] 18, #[]⟩
noncomputable abbrev o92 (P : Params) : Obj := ⟨.type "range_iterator", none, .fields #[.int 65040 0, .int 0 0, .int 1 0], #[]⟩
noncomputable abbrev o93 (P : Params) : Obj := ⟨.type "tuple", none, .seq #[] 0, #[]⟩
noncomputable abbrev o94 (P : Params) : Obj := ⟨.type "StopIteration", none, .fields #[.ref 93, .none, .none, .none, .bool false, .none], #[]⟩
noncomputable abbrev o95 (P : Params) : Obj := ⟨.type "list", none, .seq #[.int 173 394, .int 847 395, .int 6150 396, .int 6155 397, .int 6156 398, .int 6157 399, .int 8203 400, .int 8204 401, .int 8205 402, .int 8288 403, .int 65279 404, .int 65024 410, .int 65025 411, .int 65026 412, .int 65027 413, .int 65028 414, .int 65029 415, .int 65030 416, .int 65031 417, .int 65032 418, .int 65033 419, .int 65034 420, .int 65035 421, .int 65036 422, .int 65037 423, .int 65038 424, .int 65039 425] 0, #[]⟩
noncomputable abbrev o96 (P : Params) : Obj := ⟨.type "set", none, .set #[(65024, .int 65024 410), (65025, .int 65025 411), (65026, .int 65026 412), (65027, .int 65027 413), (65028, .int 65028 414), (65029, .int 65029 415), (6150, .int 6150 396), (65030, .int 65030 416), (65031, .int 65031 417), (65032, .int 65032 418), (65033, .int 65033 419), (6155, .int 6155 397), (6156, .int 6156 398), (6157, .int 6157 399), (8203, .int 8203 400), (8204, .int 8204 401), (8205, .int 8205 402), (65034, .int 65034 420), (65035, .int 65035 421), (65036, .int 65036 422), (65037, .int 65037 423), (65038, .int 65038 424), (65039, .int 65039 425), (173, .int 173 394), (847, .int 847 395), (8288, .int 8288 403), (65279, .int 65279 404)] 29 ⟨127, #[0, 1, 2, 3, 4, 5, 6, 7, 8, 9, 10, 11, 12, 13, 14, 15, 16, 17, 18, 19, 20, 21, 22, 45, 79, 96, 127], #[], 0, !P.followText "set-order", 2, true⟩, #[]⟩
noncomputable abbrev o97 (P : Params) : Obj := ⟨.type "list_iterator", none, .fields #[.none, .int 27 0], #[]⟩
noncomputable abbrev o98 (P : Params) : Obj := ⟨.type "tuple", none, .seq #[] 0, #[]⟩
noncomputable abbrev o99 (P : Params) : Obj := ⟨.type "StopIteration", none, .fields #[.ref 98, .none, .none, .none, .bool false, .none], #[]⟩
noncomputable abbrev o3e (P : Params) : Obj := ⟨.type "dict", none, .dict #[⟨PyData.keyHash P ⟨#[95, 95, 110, 97, 109, 101, 95, 95]⟩, .str ⟨#[95, 95, 110, 97, 109, 101, 95, 95]⟩ 165, .str ⟨#[99, 112, 121, 51, 49, 51, 46, 115, 116, 114, 105, 110, 103, 112, 114, 101, 112]⟩ 392⟩, ⟨PyData.keyHash P ⟨#[95, 95, 100, 111, 99, 95, 95]⟩, .str ⟨#[95, 95, 100, 111, 99, 95, 95]⟩ 166, .none⟩, ⟨PyData.keyHash P ⟨#[95, 95, 112, 97, 99, 107, 97, 103, 101, 95, 95]⟩, .str ⟨#[95, 95, 112, 97, 99, 107, 97, 103, 101, 95, 95]⟩ 167, .none⟩, ⟨PyData.keyHash P ⟨#[95, 95, 108, 111, 97, 100, 101, 114, 95, 95]⟩, .str ⟨#[95, 95, 108, 111, 97, 100, 101, 114, 95, 95]⟩ 168, .builtin "__main__.__loader__#opaque"⟩, ⟨PyData.keyHash P ⟨#[95, 95, 115, 112, 101, 99, 95, 95]⟩, .str ⟨#[95, 95, 115, 112, 101, 99, 95, 95]⟩ 169, .none⟩, ⟨PyData.keyHash P ⟨#[95, 95, 97, 110, 110, 111, 116, 97, 116, 105, 111, 110, 115, 95, 95]⟩, .str ⟨#[95, 95, 97, 110, 110, 111, 116, 97, 116, 105, 111, 110, 115, 95, 95]⟩ 170, .ref 6⟩, ⟨PyData.keyHash P ⟨#[95, 95, 98, 117, 105, 108, 116, 105, 110, 115, 95, 95]⟩, .str ⟨#[95, 95, 98, 117, 105, 108, 116, 105, 110, 115, 95, 95]⟩ 171, .ref 4⟩, ⟨PyData.keyHash P ⟨#[95, 95, 102, 105, 108, 101, 95, 95]⟩, .str ⟨#[95, 95, 102, 105, 108, 101, 95, 95]⟩ 173, .str ⟨#[47, 99, 108, 97, 105, 109, 47, 99, 117, 116, 46, 112, 121]⟩ 172⟩, ⟨PyData.keyHash P ⟨#[95, 95, 99, 97, 99, 104, 101, 100, 95, 95]⟩, .str ⟨#[95, 95, 99, 97, 99, 104, 101, 100, 95, 95]⟩ 174, .none⟩, ⟨PyData.keyHash P ⟨#[95, 115, 114, 101]⟩, .str ⟨#[95, 115, 114, 101]⟩ 275, .ref 12⟩, ⟨PyData.keyHash P ⟨#[95, 119, 97, 108, 108]⟩, .str ⟨#[95, 119, 97, 108, 108]⟩ 288, .ref 38⟩, ⟨PyData.keyHash P ⟨#[67, 79, 77, 80, 73, 76, 69, 82, 95, 70, 76, 65, 71, 95, 78, 65, 77, 69, 83]⟩, .str ⟨#[67, 79, 77, 80, 73, 76, 69, 82, 95, 70, 76, 65, 71, 95, 78, 65, 77, 69, 83]⟩ 321, .ref 39⟩, ⟨PyData.keyHash P ⟨#[112, 114, 101, 116, 116, 121, 95, 102, 108, 97, 103, 115]⟩, .str ⟨#[112, 114, 101, 116, 116, 121, 95, 102, 108, 97, 103, 115]⟩ 331, .ref 46⟩, ⟨PyData.keyHash P ⟨#[95, 110, 101, 116, 114, 99, 108, 101, 120]⟩, .str ⟨#[95, 110, 101, 116, 114, 99, 108, 101, 120]⟩ 391, .ref 84⟩, ⟨PyData.keyHash P ⟨#[98, 49, 95, 115, 101, 116]⟩, .str ⟨#[98, 49, 95, 115, 101, 116]⟩ 453, .ref 96⟩, ⟨PyData.keyHash P ⟨#[105, 110, 95, 116, 97, 98, 108, 101, 95, 98, 49]⟩, .str ⟨#[105, 110, 95, 116, 97, 98, 108, 101, 95, 98, 49]⟩ 460, .ref 106⟩] 16, #[]⟩
noncomputable abbrev o29c (P : Params) : Obj := ⟨.none, none, .fields #[.int 2 0, .int 0 0, .ref 37, .int 7 0, .int 0 0, .ref 45, .int 20 0, .int 0 0, .ref 52, .int 65 0, .int 0 0, .ref 105], #[]⟩
noncomputable abbrev o100 (P : Params) : Obj := ⟨.type "tuple", none, .seq #[] 0, #[]⟩
noncomputable abbrev o101 (P : Params) : Obj := ⟨.none, none, .fields #[], #[]⟩
noncomputable abbrev o102 (P : Params) : Obj := ⟨.type "tuple", none, .seq #[.str ⟨#[99, 111, 100, 101]⟩ 457] 0, #[]⟩
noncomputable abbrev o103 (P : Params) : Obj := ⟨.type "tuple", none, .seq #[] 0, #[]⟩
noncomputable abbrev o104 (P : Params) : Obj := ⟨.none, none, .func ⟨⟨#[105, 110, 95, 116, 97, 98, 108, 101, 95, 98, 49]⟩, ⟨#[105, 110, 95, 116, 97, 98, 108, 101, 95, 98, 49]⟩, paramsOf (defAt 9), .stmts (bodyOf (defAt 9)), scopeOf (defAt 9), 0, [], .none, .none, .none, .none, none, .none, .none, 0⟩, #[]⟩
noncomputable abbrev o105 (P : Params) : Obj := ⟨.type "code", none, .fields #[.str ⟨#[105, 110, 95, 116, 97, 98, 108, 101, 95, 98, 49]⟩ 454, .str ⟨#[105, 110, 95, 116, 97, 98, 108, 101, 95, 98, 49]⟩ 455, .str ⟨#[47, 99, 108, 97, 105, 109, 47, 99, 117, 116, 46, 112, 121]⟩ 456, .int 65 0, .int 1 0, .int 0 0, .int 0 0, .int 3 0, .ref 100, .bool true, .int 276 0, .ref 101, .none, .ref 102, .ref 103, .ref 104, .int 458 0, .int 65 0, .str ⟨#[47, 99, 108, 97, 105, 109, 47, 99, 117, 116, 46, 112, 121]⟩ 459], #[]⟩
noncomputable abbrev o106 (P : Params) : Obj := ⟨.type "function", none, .func ⟨⟨#[105, 110, 95, 116, 97, 98, 108, 101, 95, 98, 49]⟩, ⟨#[105, 110, 95, 116, 97, 98, 108, 101, 95, 98, 49]⟩, paramsOf (defAt 9), .stmts (bodyOf (defAt 9)), scopeOf (defAt 9), 3, [], .none, .none, .none, .str ⟨#[99, 112, 121, 51, 49, 51, 46, 115, 116, 114, 105, 110, 103, 112, 114, 101, 112]⟩ 392, none, .ref 105, .none, 0⟩, #[]⟩
noncomputable abbrev o3f (P : Params) : Obj := ⟨.type "dict", none, .dict #[⟨PyData.keyHash P ⟨#[95, 95, 110, 97, 109, 101, 95, 95]⟩, .str ⟨#[95, 95, 110, 97, 109, 101, 95, 95]⟩ 165, .str ⟨#[99, 112, 121, 51, 49, 51, 46, 115, 116, 114, 105, 110, 103, 112, 114, 101, 112]⟩ 392⟩, ⟨PyData.keyHash P ⟨#[95, 95, 100, 111, 99, 95, 95]⟩, .str ⟨#[95, 95, 100, 111, 99, 95, 95]⟩ 166, .none⟩, ⟨PyData.keyHash P ⟨#[95, 95, 112, 97, 99, 107, 97, 103, 101, 95, 95]⟩, .str ⟨#[95, 95, 112, 97, 99, 107, 97, 103, 101, 95, 95]⟩ 167, .none⟩, ⟨PyData.keyHash P ⟨#[95, 95, 108, 111, 97, 100, 101, 114, 95, 95]⟩, .str ⟨#[95, 95, 108, 111, 97, 100, 101, 114, 95, 95]⟩ 168, .builtin "__main__.__loader__#opaque"⟩, ⟨PyData.keyHash P ⟨#[95, 95, 115, 112, 101, 99, 95, 95]⟩, .str ⟨#[95, 95, 115, 112, 101, 99, 95, 95]⟩ 169, .none⟩, ⟨PyData.keyHash P ⟨#[95, 95, 97, 110, 110, 111, 116, 97, 116, 105, 111, 110, 115, 95, 95]⟩, .str ⟨#[95, 95, 97, 110, 110, 111, 116, 97, 116, 105, 111, 110, 115, 95, 95]⟩ 170, .ref 6⟩, ⟨PyData.keyHash P ⟨#[95, 95, 98, 117, 105, 108, 116, 105, 110, 115, 95, 95]⟩, .str ⟨#[95, 95, 98, 117, 105, 108, 116, 105, 110, 115, 95, 95]⟩ 171, .ref 4⟩, ⟨PyData.keyHash P ⟨#[95, 95, 102, 105, 108, 101, 95, 95]⟩, .str ⟨#[95, 95, 102, 105, 108, 101, 95, 95]⟩ 173, .str ⟨#[47, 99, 108, 97, 105, 109, 47, 99, 117, 116, 46, 112, 121]⟩ 172⟩, ⟨PyData.keyHash P ⟨#[95, 95, 99, 97, 99, 104, 101, 100, 95, 95]⟩, .str ⟨#[95, 95, 99, 97, 99, 104, 101, 100, 95, 95]⟩ 174, .none⟩, ⟨PyData.keyHash P ⟨#[95, 115, 114, 101]⟩, .str ⟨#[95, 115, 114, 101]⟩ 275, .ref 12⟩, ⟨PyData.keyHash P ⟨#[95, 119, 97, 108, 108]⟩, .str ⟨#[95, 119, 97, 108, 108]⟩ 288, .ref 38⟩, ⟨PyData.keyHash P ⟨#[67, 79, 77, 80, 73, 76, 69, 82, 95, 70, 76, 65, 71, 95, 78, 65, 77, 69, 83]⟩, .str ⟨#[67, 79, 77, 80, 73, 76, 69, 82, 95, 70, 76, 65, 71, 95, 78, 65, 77, 69, 83]⟩ 321, .ref 39⟩, ⟨PyData.keyHash P ⟨#[112, 114, 101, 116, 116, 121, 95, 102, 108, 97, 103, 115]⟩, .str ⟨#[112, 114, 101, 116, 116, 121, 95, 102, 108, 97, 103, 115]⟩ 331, .ref 46⟩, ⟨PyData.keyHash P ⟨#[95, 110, 101, 116, 114, 99, 108, 101, 120]⟩, .str ⟨#[95, 110, 101, 116, 114, 99, 108, 101, 120]⟩ 391, .ref 84⟩, ⟨PyData.keyHash P ⟨#[98, 49, 95, 115, 101, 116]⟩, .str ⟨#[98, 49, 95, 115, 101, 116]⟩ 453, .ref 96⟩, ⟨PyData.keyHash P ⟨#[105, 110, 95, 116, 97, 98, 108, 101, 95, 98, 49]⟩, .str ⟨#[105, 110, 95, 116, 97, 98, 108, 101, 95, 98, 49]⟩ 460, .ref 106⟩, ⟨PyData.keyHash P ⟨#[98, 51, 95, 101, 120, 99, 101, 112, 116, 105, 111, 110, 115]⟩, .str ⟨#[98, 51, 95, 101, 120, 99, 101, 112, 116, 105, 111, 110, 115]⟩ 2411, .ref 107⟩] 17, #[]⟩
noncomputable abbrev o3g (P : Params) : Obj := ⟨.type "dict", none, .dict #[⟨PyData.keyHash P ⟨#[95, 95, 110, 97, 109, 101, 95, 95]⟩, .str ⟨#[95, 95, 110, 97, 109, 101, 95, 95]⟩ 165, .str ⟨#[99, 112, 121, 51, 49, 51, 46, 119, 115, 103, 105, 114, 101, 102, 46, 104, 101, 97, 100, 101, 114, 115]⟩ 2420⟩, ⟨PyData.keyHash P ⟨#[95, 95, 100, 111, 99, 95, 95]⟩, .str ⟨#[95, 95, 100, 111, 99, 95, 95]⟩ 166, .none⟩, ⟨PyData.keyHash P ⟨#[95, 95, 112, 97, 99, 107, 97, 103, 101, 95, 95]⟩, .str ⟨#[95, 95, 112, 97, 99, 107, 97, 103, 101, 95, 95]⟩ 167, .none⟩, ⟨PyData.keyHash P ⟨#[95, 95, 108, 111, 97, 100, 101, 114, 95, 95]⟩, .str ⟨#[95, 95, 108, 111, 97, 100, 101, 114, 95, 95]⟩ 168, .builtin "__main__.__loader__#opaque"⟩, ⟨PyData.keyHash P ⟨#[95, 95, 115, 112, 101, 99, 95, 95]⟩, .str ⟨#[95, 95, 115, 112, 101, 99, 95, 95]⟩ 169, .none⟩, ⟨PyData.keyHash P ⟨#[95, 95, 97, 110, 110, 111, 116, 97, 116, 105, 111, 110, 115, 95, 95]⟩, .str ⟨#[95, 95, 97, 110, 110, 111, 116, 97, 116, 105, 111, 110, 115, 95, 95]⟩ 170, .ref 6⟩, ⟨PyData.keyHash P ⟨#[95, 95, 98, 117, 105, 108, 116, 105, 110, 115, 95, 95]⟩, .str ⟨#[95, 95, 98, 117, 105, 108, 116, 105, 110, 115, 95, 95]⟩ 171, .ref 4⟩, ⟨PyData.keyHash P ⟨#[95, 95, 102, 105, 108, 101, 95, 95]⟩, .str ⟨#[95, 95, 102, 105, 108, 101, 95, 95]⟩ 173, .str ⟨#[47, 99, 108, 97, 105, 109, 47, 99, 117, 116, 46, 112, 121]⟩ 172⟩, ⟨PyData.keyHash P ⟨#[95, 95, 99, 97, 99, 104, 101, 100, 95, 95]⟩, .str ⟨#[95, 95, 99, 97, 99, 104, 101, 100, 95, 95]⟩ 174, .none⟩, ⟨PyData.keyHash P ⟨#[95, 115, 114, 101]⟩, .str ⟨#[95, 115, 114, 101]⟩ 275, .ref 12⟩, ⟨PyData.keyHash P ⟨#[95, 119, 97, 108, 108]⟩, .str ⟨#[95, 119, 97, 108, 108]⟩ 288, .ref 38⟩, ⟨PyData.keyHash P ⟨#[67, 79, 77, 80, 73, 76, 69, 82, 95, 70, 76, 65, 71, 95, 78, 65, 77, 69, 83]⟩, .str ⟨#[67, 79, 77, 80, 73, 76, 69, 82, 95, 70, 76, 65, 71, 95, 78, 65, 77, 69, 83]⟩ 321, .ref 39⟩, ⟨PyData.keyHash P ⟨#[112, 114, 101, 116, 116, 121, 95, 102, 108, 97, 103, 115]⟩, .str ⟨#[112, 114, 101, 116, 116, 121, 95, 102, 108, 97, 103, 115]⟩ 331, .ref 46⟩, ⟨PyData.keyHash P ⟨#[95, 110, 101, 116, 114, 99, 108, 101, 120]⟩, .str ⟨#[95, 110, 101, 116, 114, 99, 108, 101, 120]⟩ 391, .ref 84⟩, ⟨PyData.keyHash P ⟨#[98, 49, 95, 115, 101, 116]⟩, .str ⟨#[98, 49, 95, 115, 101, 116]⟩ 453, .ref 96⟩, ⟨PyData.keyHash P ⟨#[105, 110, 95, 116, 97, 98, 108, 101, 95, 98, 49]⟩, .str ⟨#[105, 110, 95, 116, 97, 98, 108, 101, 95, 98, 49]⟩ 460, .ref 106⟩, ⟨PyData.keyHash P ⟨#[98, 51, 95, 101, 120, 99, 101, 112, 116, 105, 111, 110, 115]⟩, .str ⟨#[98, 51, 95, 101, 120, 99, 101, 112, 116, 105, 111, 110, 115]⟩ 2411, .ref 107⟩, ⟨PyData.keyHash P ⟨#[109, 97, 112, 95, 116, 97, 98, 108, 101, 95, 98, 51]⟩, .str ⟨#[109, 97, 112, 95, 116, 97, 98, 108, 101, 95, 98, 51]⟩ 2419, .ref 152⟩, ⟨PyData.keyHash P ⟨#[116, 115, 112, 101, 99, 105, 97, 108, 115]⟩, .str ⟨#[116, 115, 112, 101, 99, 105, 97, 108, 115]⟩ 2455, .ref 157⟩, ⟨PyData.keyHash P ⟨#[95, 110, 97, 109, 101, 95, 100, 105, 115, 97, 108, 108, 111, 119, 101, 100, 95, 114, 101]⟩, .str ⟨#[95, 110, 97, 109, 101, 95, 100, 105, 115, 97, 108, 108, 111, 119, 101, 100, 95, 114, 101]⟩ 2481, .ref 162⟩, ⟨PyData.keyHash P ⟨#[95, 118, 97, 108, 117, 101, 95, 100, 105, 115, 97, 108, 108, 111, 119, 101, 100, 95, 114, 101]⟩, .str ⟨#[95, 118, 97, 108, 117, 101, 95, 100, 105, 115, 97, 108, 108, 111, 119, 101, 100, 95, 114, 101]⟩ 2515, .ref 167⟩, ⟨PyData.keyHash P ⟨#[95, 102, 111, 114, 109, 97, 116, 112, 97, 114, 97, 109]⟩, .str ⟨#[95, 102, 111, 114, 109, 97, 116, 112, 97, 114, 97, 109]⟩ 2525, .ref 175⟩] 22, #[]⟩
noncomputable abbrev o29d (P : Params) : Obj := ⟨.none, none, .fields #[.int 2 0, .int 0 0, .ref 37, .int 7 0, .int 0 0, .ref 45, .int 20 0, .int 0 0, .ref 52, .int 65 0, .int 0 0, .ref 105, .int 68 0, .int 0 0, .ref 151, .int 77 0, .int 0 0, .ref 174], #[]⟩
noncomputable abbrev o146 (P : Params) : Obj := ⟨.type "tuple", none, .seq #[] 0, #[]⟩
noncomputable abbrev o147 (P : Params) : Obj := ⟨.none, none, .fields #[], #[]⟩
noncomputable abbrev o148 (P : Params) : Obj := ⟨.type "tuple", none, .seq #[.str ⟨#[99, 111, 100, 101]⟩ 2415, .str ⟨#[114]⟩ 2416] 0, #[]⟩
noncomputable abbrev o149 (P : Params) : Obj := ⟨.type "tuple", none, .seq #[] 0, #[]⟩
noncomputable abbrev o150 (P : Params) : Obj := ⟨.none, none, .func ⟨⟨#[109, 97, 112, 95, 116, 97, 98, 108, 101, 95, 98, 51]⟩, ⟨#[109, 97, 112, 95, 116, 97, 98, 108, 101, 95, 98, 51]⟩, paramsOf (defAt 11), .stmts (bodyOf (defAt 11)), scopeOf (defAt 11), 0, [], .none, .none, .none, .none, none, .none, .none, 0⟩, #[]⟩
noncomputable abbrev o151 (P : Params) : Obj := ⟨.type "code", none, .fields #[.str ⟨#[109, 97, 112, 95, 116, 97, 98, 108, 101, 95, 98, 51]⟩ 2412, .str ⟨#[109, 97, 112, 95, 116, 97, 98, 108, 101, 95, 98, 51]⟩ 2413, .str ⟨#[47, 99, 108, 97, 105, 109, 47, 99, 117, 116, 46, 112, 121]⟩ 2414, .int 68 0, .int 1 0, .int 0 0, .int 0 0, .int 3 0, .ref 146, .bool true, .int 276 0, .ref 147, .none, .ref 148, .ref 149, .ref 150, .int 2417 0, .int 68 0, .str ⟨#[47, 99, 108, 97, 105, 109, 47, 99, 117, 116, 46, 112, 121]⟩ 2418], #[]⟩
noncomputable abbrev o152 (P : Params) : Obj := ⟨.type "function", none, .func ⟨⟨#[109, 97, 112, 95, 116, 97, 98, 108, 101, 95, 98, 51]⟩, ⟨#[109, 97, 112, 95, 116, 97, 98, 108, 101, 95, 98, 51]⟩, paramsOf (defAt 11), .stmts (bodyOf (defAt 11)), scopeOf (defAt 11), 3, [], .none, .none, .none, .str ⟨#[99, 112, 121, 51, 49, 51, 46, 115, 116, 114, 105, 110, 103, 112, 114, 101, 112]⟩ 392, none, .ref 151, .none, 0⟩, #[]⟩
noncomputable abbrev o153 (P : Params) : Obj := ⟨.type "list", none, .seq #[.int 14 2425, .int 14 2426, .int 4 2427, .int 1 2428, .int 1 2429, .int 9 2430, .int 0 2431, .int 4227896069 2432, .int 939524097 2433, .int 0 2434, .int 0 2435, .int 0 2436, .int 0 2437, .int 0 2438, .int 0 2439, .int 13 2440, .int 11 2441, .int 9 2442, .int 0 2443, .int 4227896069 2444, .int 939524097 2445, .int 0 2446, .int 0 2447, .int 0 2448, .int 0 2449, .int 0 2450, .int 0 2451, .int 1 2452] 0, #[]⟩
noncomputable abbrev o154 (P : Params) : Obj := ⟨.type "dict", none, .dict #[] 0, #[]⟩
noncomputable abbrev o155 (P : Params) : Obj := ⟨.type "tuple", none, .seq #[.none] 0, #[]⟩
noncomputable abbrev o156 (P : Params) : Obj := ⟨.type "tuple", none, .seq #[.int 14 0, .int 14 0, .int 4 0, .int 1 0, .int 1 0, .int 9 0, .int 0 0, .int 4227896069 0, .int 939524097 0, .int 0 0, .int 0 0, .int 0 0, .int 0 0, .int 0 0, .int 0 0, .int 13 0, .int 11 0, .int 9 0, .int 0 0, .int 4227896069 0, .int 939524097 0, .int 0 0, .int 0 0, .int 0 0, .int 0 0, .int 0 0, .int 0 0, .int 1 0] 0, #[]⟩
noncomputable abbrev o157 (P : Params) : Obj := ⟨.type "re.Pattern", none, .fields #[.str ⟨#[91, 32, 92, 40, 92, 41, 60, 62, 64, 44, 59, 58, 92, 92, 34, 47, 92, 91, 92, 93, 92, 63, 61, 93]⟩ 2423, .int 32 2454, .int 0 0, .none, .none, .ref 156, .int 0 0], #[]⟩
noncomputable abbrev o158 (P : Params) : Obj := ⟨.type "list", none, .seq #[.int 14 2459, .int 10 2460, .int 4 2461, .int 1 2462, .int 1 2463, .int 22 2464, .int 0 2465, .int 31 2466, .int 16 2467, .int 127 2468, .int 0 2469, .int 13 2470, .int 7 2471, .int 22 2472, .int 0 2473, .int 31 2474, .int 16 2475, .int 127 2476, .int 0 2477, .int 1 2478] 0, #[]⟩
noncomputable abbrev o159 (P : Params) : Obj := ⟨.type "dict", none, .dict #[] 0, #[]⟩
noncomputable abbrev o160 (P : Params) : Obj := ⟨.type "tuple", none, .seq #[.none] 0, #[]⟩
noncomputable abbrev o161 (P : Params) : Obj := ⟨.type "tuple", none, .seq #[.int 14 0, .int 10 0, .int 4 0, .int 1 0, .int 1 0, .int 22 0, .int 0 0, .int 31 0, .int 16 0, .int 127 0, .int 0 0, .int 13 0, .int 7 0, .int 22 0, .int 0 0, .int 31 0, .int 16 0, .int 127 0, .int 0 0, .int 1 0] 0, #[]⟩
noncomputable abbrev o162 (P : Params) : Obj := ⟨.type "re.Pattern", none, .fields #[.str ⟨#[91, 92, 120, 48, 48, 45, 92, 120, 49, 70, 92, 120, 55, 70, 93]⟩ 2457, .int 32 2480, .int 0 0, .none, .none, .ref 161, .int 0 0], #[]⟩
noncomputable abbrev o163 (P : Params) : Obj := ⟨.type "list", none, .seq #[.int 14 2485, .int 14 2486, .int 4 2487, .int 1 2488, .int 1 2489, .int 9 2490, .int 4294966783 2491, .int 0 2492, .int 0 2493, .int 2147483648 2494, .int 0 2495, .int 0 2496, .int 0 2497, .int 0 2498, .int 0 2499, .int 13 2500, .int 11 2501, .int 9 2502, .int 4294966783 2503, .int 0 2504, .int 0 2505, .int 2147483648 2506, .int 0 2507, .int 0 2508, .int 0 2509, .int 0 2510, .int 0 2511, .int 1 2512] 0, #[]⟩
noncomputable abbrev o164 (P : Params) : Obj := ⟨.type "dict", none, .dict #[] 0, #[]⟩
noncomputable abbrev o165 (P : Params) : Obj := ⟨.type "tuple", none, .seq #[.none] 0, #[]⟩
noncomputable abbrev o166 (P : Params) : Obj := ⟨.type "tuple", none, .seq #[.int 14 0, .int 14 0, .int 4 0, .int 1 0, .int 1 0, .int 9 0, .int 4294966783 0, .int 0 0, .int 0 0, .int 2147483648 0, .int 0 0, .int 0 0, .int 0 0, .int 0 0, .int 0 0, .int 13 0, .int 11 0, .int 9 0, .int 4294966783 0, .int 0 0, .int 0 0, .int 2147483648 0, .int 0 0, .int 0 0, .int 0 0, .int 0 0, .int 0 0, .int 1 0] 0, #[]⟩
noncomputable abbrev o167 (P : Params) : Obj := ⟨.type "re.Pattern", none, .fields #[.str ⟨#[91, 92, 120, 48, 48, 45, 92, 120, 48, 56, 92, 120, 48, 65, 45, 92, 120, 49, 70, 92, 120, 55, 70, 93]⟩ 2483, .int 32 2514, .int 0 0, .none, .none, .ref 166, .int 0 0], #[]⟩
noncomputable abbrev o168 (P : Params) : Obj := ⟨.type "tuple", none, .seq #[.none, .int 1 2516] 0, #[]⟩
noncomputable abbrev o169 (P : Params) : Obj := ⟨.type "tuple", none, .seq #[] 0, #[]⟩
noncomputable abbrev o170 (P : Params) : Obj := ⟨.none, none, .fields #[], #[]⟩
noncomputable abbrev o171 (P : Params) : Obj := ⟨.type "tuple", none, .seq #[.str ⟨#[112, 97, 114, 97, 109]⟩ 2520, .str ⟨#[118, 97, 108, 117, 101]⟩ 2521, .str ⟨#[113, 117, 111, 116, 101]⟩ 2522] 0, #[]⟩
noncomputable abbrev o172 (P : Params) : Obj := ⟨.type "tuple", none, .seq #[] 0, #[]⟩
noncomputable abbrev o173 (P : Params) : Obj := ⟨.none, none, .func ⟨⟨#[95, 102, 111, 114, 109, 97, 116, 112, 97, 114, 97, 109]⟩, ⟨#[95, 102, 111, 114, 109, 97, 116, 112, 97, 114, 97, 109]⟩, paramsOf (defAt 16), .stmts (bodyOf (defAt 16)), scopeOf (defAt 16), 0, [], .none, .none, .none, .none, none, .none, .none, 0⟩, #[]⟩
noncomputable abbrev o174 (P : Params) : Obj := ⟨.type "code", none, .fields #[.str ⟨#[95, 102, 111, 114, 109, 97, 116, 112, 97, 114, 97, 109]⟩ 2517, .str ⟨#[95, 102, 111, 114, 109, 97, 116, 112, 97, 114, 97, 109]⟩ 2518, .str ⟨#[47, 99, 108, 97, 105, 109, 47, 99, 117, 116, 46, 112, 121]⟩ 2519, .int 77 0, .int 3 0, .int 0 0, .int 0 0, .int 3 0, .ref 169, .bool true, .int 276 0, .ref 170, .none, .ref 171, .ref 172, .ref 173, .int 2523 0, .int 77 0, .str ⟨#[47, 99, 108, 97, 105, 109, 47, 99, 117, 116, 46, 112, 121]⟩ 2524], #[]⟩
noncomputable abbrev o175 (P : Params) : Obj := ⟨.type "function", none, .func ⟨⟨#[95, 102, 111, 114, 109, 97, 116, 112, 97, 114, 97, 109]⟩, ⟨#[95, 102, 111, 114, 109, 97, 116, 112, 97, 114, 97, 109]⟩, paramsOf (defAt 16), .stmts (bodyOf (defAt 16)), scopeOf (defAt 16), 3, [], .ref 168, .none, .none, .str ⟨#[99, 112, 121, 51, 49, 51, 46, 119, 115, 103, 105, 114, 101, 102, 46, 104, 101, 97, 100, 101, 114, 115]⟩ 2420, none, .ref 174, .none, 0⟩, #[]⟩
noncomputable abbrev o3h (P : Params) : Obj := ⟨.type "dict", none, .dict #[⟨PyData.keyHash P ⟨#[95, 95, 110, 97, 109, 101, 95, 95]⟩, .str ⟨#[95, 95, 110, 97, 109, 101, 95, 95]⟩ 165, .str ⟨#[99, 112, 121, 51, 49, 51, 46, 119, 115, 103, 105, 114, 101, 102, 46, 104, 101, 97, 100, 101, 114, 115]⟩ 2420⟩, ⟨PyData.keyHash P ⟨#[95, 95, 100, 111, 99, 95, 95]⟩, .str ⟨#[95, 95, 100, 111, 99, 95, 95]⟩ 166, .none⟩, ⟨PyData.keyHash P ⟨#[95, 95, 112, 97, 99, 107, 97, 103, 101, 95, 95]⟩, .str ⟨#[95, 95, 112, 97, 99, 107, 97, 103, 101, 95, 95]⟩ 167, .none⟩, ⟨PyData.keyHash P ⟨#[95, 95, 108, 111, 97, 100, 101, 114, 95, 95]⟩, .str ⟨#[95, 95, 108, 111, 97, 100, 101, 114, 95, 95]⟩ 168, .builtin "__main__.__loader__#opaque"⟩, ⟨PyData.keyHash P ⟨#[95, 95, 115, 112, 101, 99, 95, 95]⟩, .str ⟨#[95, 95, 115, 112, 101, 99, 95, 95]⟩ 169, .none⟩, ⟨PyData.keyHash P ⟨#[95, 95, 97, 110, 110, 111, 116, 97, 116, 105, 111, 110, 115, 95, 95]⟩, .str ⟨#[95, 95, 97, 110, 110, 111, 116, 97, 116, 105, 111, 110, 115, 95, 95]⟩ 170, .ref 6⟩, ⟨PyData.keyHash P ⟨#[95, 95, 98, 117, 105, 108, 116, 105, 110, 115, 95, 95]⟩, .str ⟨#[95, 95, 98, 117, 105, 108, 116, 105, 110, 115, 95, 95]⟩ 171, .ref 4⟩, ⟨PyData.keyHash P ⟨#[95, 95, 102, 105, 108, 101, 95, 95]⟩, .str ⟨#[95, 95, 102, 105, 108, 101, 95, 95]⟩ 173, .str ⟨#[47, 99, 108, 97, 105, 109, 47, 99, 117, 116, 46, 112, 121]⟩ 172⟩, ⟨PyData.keyHash P ⟨#[95, 95, 99, 97, 99, 104, 101, 100, 95, 95]⟩, .str ⟨#[95, 95, 99, 97, 99, 104, 101, 100, 95, 95]⟩ 174, .none⟩, ⟨PyData.keyHash P ⟨#[95, 115, 114, 101]⟩, .str ⟨#[95, 115, 114, 101]⟩ 275, .ref 12⟩, ⟨PyData.keyHash P ⟨#[95, 119, 97, 108, 108]⟩, .str ⟨#[95, 119, 97, 108, 108]⟩ 288, .ref 38⟩, ⟨PyData.keyHash P ⟨#[67, 79, 77, 80, 73, 76, 69, 82, 95, 70, 76, 65, 71, 95, 78, 65, 77, 69, 83]⟩, .str ⟨#[67, 79, 77, 80, 73, 76, 69, 82, 95, 70, 76, 65, 71, 95, 78, 65, 77, 69, 83]⟩ 321, .ref 39⟩, ⟨PyData.keyHash P ⟨#[112, 114, 101, 116, 116, 121, 95, 102, 108, 97, 103, 115]⟩, .str ⟨#[112, 114, 101, 116, 116, 121, 95, 102, 108, 97, 103, 115]⟩ 331, .ref 46⟩, ⟨PyData.keyHash P ⟨#[95, 110, 101, 116, 114, 99, 108, 101, 120]⟩, .str ⟨#[95, 110, 101, 116, 114, 99, 108, 101, 120]⟩ 391, .ref 84⟩, ⟨PyData.keyHash P ⟨#[98, 49, 95, 115, 101, 116]⟩, .str ⟨#[98, 49, 95, 115, 101, 116]⟩ 453, .ref 96⟩, ⟨PyData.keyHash P ⟨#[105, 110, 95, 116, 97, 98, 108, 101, 95, 98, 49]⟩, .str ⟨#[105, 110, 95, 116, 97, 98, 108, 101, 95, 98, 49]⟩ 460, .ref 106⟩, ⟨PyData.keyHash P ⟨#[98, 51, 95, 101, 120, 99, 101, 112, 116, 105, 111, 110, 115]⟩, .str ⟨#[98, 51, 95, 101, 120, 99, 101, 112, 116, 105, 111, 110, 115]⟩ 2411, .ref 107⟩, ⟨PyData.keyHash P ⟨#[109, 97, 112, 95, 116, 97, 98, 108, 101, 95, 98, 51]⟩, .str ⟨#[109, 97, 112, 95, 116, 97, 98, 108, 101, 95, 98, 51]⟩ 2419, .ref 152⟩, ⟨PyData.keyHash P ⟨#[116, 115, 112, 101, 99, 105, 97, 108, 115]⟩, .str ⟨#[116, 115, 112, 101, 99, 105, 97, 108, 115]⟩ 2455, .ref 157⟩, ⟨PyData.keyHash P ⟨#[95, 110, 97, 109, 101, 95, 100, 105, 115, 97, 108, 108, 111, 119, 101, 100, 95, 114, 101]⟩, .str ⟨#[95, 110, 97, 109, 101, 95, 100, 105, 115, 97, 108, 108, 111, 119, 101, 100, 95, 114, 101]⟩ 2481, .ref 162⟩, ⟨PyData.keyHash P ⟨#[95, 118, 97, 108, 117, 101, 95, 100, 105, 115, 97, 108, 108, 111, 119, 101, 100, 95, 114, 101]⟩, .str ⟨#[95, 118, 97, 108, 117, 101, 95, 100, 105, 115, 97, 108, 108, 111, 119, 101, 100, 95, 114, 101]⟩ 2515, .ref 167⟩, ⟨PyData.keyHash P ⟨#[95, 102, 111, 114, 109, 97, 116, 112, 97, 114, 97, 109]⟩, .str ⟨#[95, 102, 111, 114, 109, 97, 116, 112, 97, 114, 97, 109]⟩ 2525, .ref 175⟩, ⟨PyData.keyHash P ⟨#[72, 101, 97, 100, 101, 114, 115]⟩, .str ⟨#[72, 101, 97, 100, 101, 114, 115]⟩ 2682, .ref 296⟩] 23, #[]⟩
noncomputable abbrev o29e (P : Params) : Obj := ⟨.none, none, .fields #[.int 2 0, .int 0 0, .ref 37, .int 7 0, .int 0 0, .ref 45, .int 20 0, .int 0 0, .ref 52, .int 65 0, .int 0 0, .ref 105, .int 68 0, .int 0 0, .ref 151, .int 77 0, .int 0 0, .ref 174, .int 86 0, .int 0 0, .ref 181], #[]⟩
noncomputable abbrev o176 (P : Params) : Obj := ⟨.type "tuple", none, .seq #[] 0, #[]⟩
noncomputable abbrev o177 (P : Params) : Obj := ⟨.type "builtin_function_or_method", none, .fields #[.builtin "type.__prepare__", .type "type"], #[]⟩
noncomputable abbrev o178 (P : Params) : Obj := ⟨.type "dict", none, .dict #[⟨PyData.keyHash P ⟨#[95, 95, 109, 111, 100, 117, 108, 101, 95, 95]⟩, .str ⟨#[95, 95, 109, 111, 100, 117, 108, 101, 95, 95]⟩ 2533, .str ⟨#[99, 112, 121, 51, 49, 51, 46, 119, 115, 103, 105, 114, 101, 102, 46, 104, 101, 97, 100, 101, 114, 115]⟩ 2420⟩, ⟨PyData.keyHash P ⟨#[95, 95, 113, 117, 97, 108, 110, 97, 109, 101, 95, 95]⟩, .str ⟨#[95, 95, 113, 117, 97, 108, 110, 97, 109, 101, 95, 95]⟩ 2535, .str ⟨#[72, 101, 97, 100, 101, 114, 115]⟩ 2534⟩, ⟨PyData.keyHash P ⟨#[95, 95, 102, 105, 114, 115, 116, 108, 105, 110, 101, 110, 111, 95, 95]⟩, .str ⟨#[95, 95, 102, 105, 114, 115, 116, 108, 105, 110, 101, 110, 111, 95, 95]⟩ 2537, .int 86 2536⟩, ⟨PyData.keyHash P ⟨#[95, 95, 105, 110, 105, 116, 95, 95]⟩, .str ⟨#[95, 95, 105, 110, 105, 116, 95, 95]⟩ 2547, .ref 190⟩, ⟨PyData.keyHash P ⟨#[95, 99, 111, 110, 118, 101, 114, 116, 95, 115, 116, 114, 105, 110, 103, 95, 116, 121, 112, 101]⟩, .str ⟨#[95, 99, 111, 110, 118, 101, 114, 116, 95, 115, 116, 114, 105, 110, 103, 95, 116, 121, 112, 101]⟩ 2557, .ref 197⟩, ⟨PyData.keyHash P ⟨#[95, 95, 108, 101, 110, 95, 95]⟩, .str ⟨#[95, 95, 108, 101, 110, 95, 95]⟩ 2564, .ref 204⟩, ⟨PyData.keyHash P ⟨#[95, 95, 115, 101, 116, 105, 116, 101, 109, 95, 95]⟩, .str ⟨#[95, 95, 115, 101, 116, 105, 116, 101, 109, 95, 95]⟩ 2573, .ref 211⟩, ⟨PyData.keyHash P ⟨#[95, 95, 100, 101, 108, 105, 116, 101, 109, 95, 95]⟩, .str ⟨#[95, 95, 100, 101, 108, 105, 116, 101, 109, 95, 95]⟩ 2579, .ref 216⟩, ⟨PyData.keyHash P ⟨#[95, 95, 103, 101, 116, 105, 116, 101, 109, 95, 95]⟩, .str ⟨#[95, 95, 103, 101, 116, 105, 116, 101, 109, 95, 95]⟩ 2587, .ref 223⟩, ⟨PyData.keyHash P ⟨#[95, 95, 99, 111, 110, 116, 97, 105, 110, 115, 95, 95]⟩, .str ⟨#[95, 95, 99, 111, 110, 116, 97, 105, 110, 115, 95, 95]⟩ 2595, .ref 230⟩, ⟨PyData.keyHash P ⟨#[103, 101, 116, 95, 97, 108, 108]⟩, .str ⟨#[103, 101, 116, 95, 97, 108, 108]⟩ 2601, .ref 235⟩, ⟨PyData.keyHash P ⟨#[103, 101, 116]⟩, .str ⟨#[103, 101, 116]⟩ 2612, .ref 243⟩, ⟨PyData.keyHash P ⟨#[107, 101, 121, 115]⟩, .str ⟨#[107, 101, 121, 115]⟩ 2618, .ref 248⟩, ⟨PyData.keyHash P ⟨#[118, 97, 108, 117, 101, 115]⟩, .str ⟨#[118, 97, 108, 117, 101, 115]⟩ 2624, .ref 253⟩, ⟨PyData.keyHash P ⟨#[105, 116, 101, 109, 115]⟩, .str ⟨#[105, 116, 101, 109, 115]⟩ 2631, .ref 260⟩, ⟨PyData.keyHash P ⟨#[95, 95, 114, 101, 112, 114, 95, 95]⟩, .str ⟨#[95, 95, 114, 101, 112, 114, 95, 95]⟩ 2638, .ref 267⟩, ⟨PyData.keyHash P ⟨#[95, 95, 115, 116, 114, 95, 95]⟩, .str ⟨#[95, 95, 115, 116, 114, 95, 95]⟩ 2644, .ref 272⟩, ⟨PyData.keyHash P ⟨#[95, 95, 98, 121, 116, 101, 115, 95, 95]⟩, .str ⟨#[95, 95, 98, 121, 116, 101, 115, 95, 95]⟩ 2651, .ref 279⟩, ⟨PyData.keyHash P ⟨#[115, 101, 116, 100, 101, 102, 97, 117, 108, 116]⟩, .str ⟨#[115, 101, 116, 100, 101, 102, 97, 117, 108, 116]⟩ 2660, .ref 286⟩, ⟨PyData.keyHash P ⟨#[97, 100, 100, 95, 104, 101, 97, 100, 101, 114]⟩, .str ⟨#[97, 100, 100, 95, 104, 101, 97, 100, 101, 114]⟩ 2673, .ref 293⟩, ⟨PyData.keyHash P ⟨#[95, 95, 115, 116, 97, 116, 105, 99, 95, 97, 116, 116, 114, 105, 98, 117, 116, 101, 115, 95, 95]⟩, .str ⟨#[95, 95, 115, 116, 97, 116, 105, 99, 95, 97, 116, 116, 114, 105, 98, 117, 116, 101, 115, 95, 95]⟩ 2675, .ref 294⟩] 21, #[]⟩
noncomputable abbrev o179 (P : Params) : Obj := ⟨.type "tuple", none, .seq #[] 0, #[]⟩
noncomputable abbrev o180 (P : Params) : Obj := ⟨.none, none, .fields #[.int 88 0, .int 4 0, .ref 189, .int 98 0, .int 4 0, .ref 196, .int 106 0, .int 4 0, .ref 203, .int 109 0, .int 4 0, .ref 210, .int 113 0, .int 4 0, .ref 215, .int 117 0, .int 4 0, .ref 222, .int 120 0, .int 4 0, .ref 229, .int 123 0, .int 4 0, .ref 234, .int 127 0, .int 4 0, .ref 242, .int 134 0, .int 4 0, .ref 247, .int 137 0, .int 4 0, .ref 252, .int 140 0, .int 4 0, .ref 259, .int 143 0, .int 4 0, .ref 266, .int 146 0, .int 4 0, .ref 271, .int 149 0, .int 4 0, .ref 278, .int 152 0, .int 4 0, .ref 285, .int 155 0, .int 4 0, .ref 292], #[]⟩
noncomputable abbrev o181 (P : Params) : Obj := ⟨.type "code", none, .fields #[.str ⟨#[72, 101, 97, 100, 101, 114, 115]⟩ 2528, .str ⟨#[72, 101, 97, 100, 101, 114, 115]⟩ 2529, .str ⟨#[47, 99, 108, 97, 105, 109, 47, 99, 117, 116, 46, 112, 121]⟩ 2530, .int 86 0, .int 0 0, .int 0 0, .int 0 0, .int 0 0, .ref 179, .bool false, .int 276 0, .ref 180, .none, .none, .none, .none, .int 2531 0, .int 86 0, .str ⟨#[47, 99, 108, 97, 105, 109, 47, 99, 117, 116, 46, 112, 121]⟩ 2532], #[]⟩
noncomputable abbrev o182 (P : Params) : Obj := ⟨.type "frame", none, .plain, #[(some (.ref 181)), (some (.ref 3)), (some (.ref 178)), none, (some (.str ⟨#[99, 112, 121, 51, 49, 51, 46, 119, 115, 103, 105, 114, 101, 102, 46, 104, 101, 97, 100, 101, 114, 115]⟩ 2420)), none, (some (.ref 0))]⟩
noncomputable abbrev o183 (P : Params) : Obj := ⟨.type "tuple", none, .seq #[.none] 0, #[]⟩
noncomputable abbrev o184 (P : Params) : Obj := ⟨.type "tuple", none, .seq #[] 0, #[]⟩
noncomputable abbrev o185 (P : Params) : Obj := ⟨.none, none, .fields #[], #[]⟩
noncomputable abbrev o186 (P : Params) : Obj := ⟨.type "tuple", none, .seq #[.str ⟨#[115, 101, 108, 102]⟩ 2541, .str ⟨#[104, 101, 97, 100, 101, 114, 115]⟩ 2542, .str ⟨#[107]⟩ 2543, .str ⟨#[118]⟩ 2544] 0, #[]⟩
noncomputable abbrev o187 (P : Params) : Obj := ⟨.type "tuple", none, .seq #[] 0, #[]⟩
noncomputable abbrev o188 (P : Params) : Obj := ⟨.none, none, .func ⟨⟨#[95, 95, 105, 110, 105, 116, 95, 95]⟩, ⟨#[72, 101, 97, 100, 101, 114, 115, 46, 95, 95, 105, 110, 105, 116, 95, 95]⟩, paramsOf (methAt 17 0), .stmts (bodyOf (methAt 17 0)), scopeOf (methAt 17 0), 0, [], .none, .none, .none, .none, none, .none, .none, 0⟩, #[]⟩
noncomputable abbrev o189 (P : Params) : Obj := ⟨.type "code", none, .fields #[.str ⟨#[95, 95, 105, 110, 105, 116, 95, 95]⟩ 2538, .str ⟨#[72, 101, 97, 100, 101, 114, 115, 46, 95, 95, 105, 110, 105, 116, 95, 95]⟩ 2539, .str ⟨#[47, 99, 108, 97, 105, 109, 47, 99, 117, 116, 46, 112, 121]⟩ 2540, .int 88 0, .int 2 0, .int 0 0, .int 0 0, .int 3 0, .ref 184, .bool true, .int 276 0, .ref 185, .none, .ref 186, .ref 187, .ref 188, .int 2545 0, .int 88 0, .str ⟨#[47, 99, 108, 97, 105, 109, 47, 99, 117, 116, 46, 112, 121]⟩ 2546], #[]⟩
noncomputable abbrev o190 (P : Params) : Obj := ⟨.type "function", none, .func ⟨⟨#[95, 95, 105, 110, 105, 116, 95, 95]⟩, ⟨#[72, 101, 97, 100, 101, 114, 115, 46, 95, 95, 105, 110, 105, 116, 95, 95]⟩, paramsOf (methAt 17 0), .stmts (bodyOf (methAt 17 0)), scopeOf (methAt 17 0), 3, [], .ref 183, .none, .none, .str ⟨#[99, 112, 121, 51, 49, 51, 46, 119, 115, 103, 105, 114, 101, 102, 46, 104, 101, 97, 100, 101, 114, 115]⟩ 2420, none, .ref 189, .none, 0⟩, #[]⟩
noncomputable abbrev o191 (P : Params) : Obj := ⟨.type "tuple", none, .seq #[] 0, #[]⟩
noncomputable abbrev o192 (P : Params) : Obj := ⟨.none, none, .fields #[], #[]⟩
noncomputable abbrev o193 (P : Params) : Obj := ⟨.type "tuple", none, .seq #[.str ⟨#[115, 101, 108, 102]⟩ 2551, .str ⟨#[118, 97, 108, 117, 101]⟩ 2552, .str ⟨#[110, 97, 109, 101]⟩ 2553, .str ⟨#[114, 101, 103, 101, 120]⟩ 2554] 0, #[]⟩
noncomputable abbrev o194 (P : Params) : Obj := ⟨.type "tuple", none, .seq #[] 0, #[]⟩
noncomputable abbrev o195 (P : Params) : Obj := ⟨.none, none, .func ⟨⟨#[95, 99, 111, 110, 118, 101, 114, 116, 95, 115, 116, 114, 105, 110, 103, 95, 116, 121, 112, 101]⟩, ⟨#[72, 101, 97, 100, 101, 114, 115, 46, 95, 99, 111, 110, 118, 101, 114, 116, 95, 115, 116, 114, 105, 110, 103, 95, 116, 121, 112, 101]⟩, paramsOf (methAt 17 1), .stmts (bodyOf (methAt 17 1)), scopeOf (methAt 17 1), 0, [], .none, .none, .none, .none, none, .none, .none, 0⟩, #[]⟩
noncomputable abbrev o196 (P : Params) : Obj := ⟨.type "code", none, .fields #[.str ⟨#[95, 99, 111, 110, 118, 101, 114, 116, 95, 115, 116, 114, 105, 110, 103, 95, 116, 121, 112, 101]⟩ 2548, .str ⟨#[72, 101, 97, 100, 101, 114, 115, 46, 95, 99, 111, 110, 118, 101, 114, 116, 95, 115, 116, 114, 105, 110, 103, 95, 116, 121, 112, 101]⟩ 2549, .str ⟨#[47, 99, 108, 97, 105, 109, 47, 99, 117, 116, 46, 112, 121]⟩ 2550, .int 98 0, .int 2 0, .int 0 0, .int 1 0, .int 3 0, .ref 191, .bool true, .int 276 0, .ref 192, .none, .ref 193, .ref 194, .ref 195, .int 2555 0, .int 98 0, .str ⟨#[47, 99, 108, 97, 105, 109, 47, 99, 117, 116, 46, 112, 121]⟩ 2556], #[]⟩
noncomputable abbrev o197 (P : Params) : Obj := ⟨.type "function", none, .func ⟨⟨#[95, 99, 111, 110, 118, 101, 114, 116, 95, 115, 116, 114, 105, 110, 103, 95, 116, 121, 112, 101]⟩, ⟨#[72, 101, 97, 100, 101, 114, 115, 46, 95, 99, 111, 110, 118, 101, 114, 116, 95, 115, 116, 114, 105, 110, 103, 95, 116, 121, 112, 101]⟩, paramsOf (methAt 17 1), .stmts (bodyOf (methAt 17 1)), scopeOf (methAt 17 1), 3, [], .none, .none, .none, .str ⟨#[99, 112, 121, 51, 49, 51, 46, 119, 115, 103, 105, 114, 101, 102, 46, 104, 101, 97, 100, 101, 114, 115]⟩ 2420, none, .ref 196, .none, 0⟩, #[]⟩
noncomputable abbrev o198 (P : Params) : Obj := ⟨.type "tuple", none, .seq #[] 0, #[]⟩
noncomputable abbrev o199 (P : Params) : Obj := ⟨.none, none, .fields #[], #[]⟩
noncomputable abbrev o200 (P : Params) : Obj := ⟨.type "tuple", none, .seq #[.str ⟨#[115, 101, 108, 102]⟩ 2561] 0, #[]⟩
noncomputable abbrev o201 (P : Params) : Obj := ⟨.type "tuple", none, .seq #[] 0, #[]⟩
noncomputable abbrev o202 (P : Params) : Obj := ⟨.none, none, .func ⟨⟨#[95, 95, 108, 101, 110, 95, 95]⟩, ⟨#[72, 101, 97, 100, 101, 114, 115, 46, 95, 95, 108, 101, 110, 95, 95]⟩, paramsOf (methAt 17 2), .stmts (bodyOf (methAt 17 2)), scopeOf (methAt 17 2), 0, [], .none, .none, .none, .none, none, .none, .none, 0⟩, #[]⟩
noncomputable abbrev o203 (P : Params) : Obj := ⟨.type "code", none, .fields #[.str ⟨#[95, 95, 108, 101, 110, 95, 95]⟩ 2558, .str ⟨#[72, 101, 97, 100, 101, 114, 115, 46, 95, 95, 108, 101, 110, 95, 95]⟩ 2559, .str ⟨#[47, 99, 108, 97, 105, 109, 47, 99, 117, 116, 46, 112, 121]⟩ 2560, .int 106 0, .int 1 0, .int 0 0, .int 0 0, .int 3 0, .ref 198, .bool true, .int 276 0, .ref 199, .none, .ref 200, .ref 201, .ref 202, .int 2562 0, .int 106 0, .str ⟨#[47, 99, 108, 97, 105, 109, 47, 99, 117, 116, 46, 112, 121]⟩ 2563], #[]⟩
noncomputable abbrev o204 (P : Params) : Obj := ⟨.type "function", none, .func ⟨⟨#[95, 95, 108, 101, 110, 95, 95]⟩, ⟨#[72, 101, 97, 100, 101, 114, 115, 46, 95, 95, 108, 101, 110, 95, 95]⟩, paramsOf (methAt 17 2), .stmts (bodyOf (methAt 17 2)), scopeOf (methAt 17 2), 3, [], .none, .none, .none, .str ⟨#[99, 112, 121, 51, 49, 51, 46, 119, 115, 103, 105, 114, 101, 102, 46, 104, 101, 97, 100, 101, 114, 115]⟩ 2420, none, .ref 203, .none, 0⟩, #[]⟩
noncomputable abbrev o205 (P : Params) : Obj := ⟨.type "tuple", none, .seq #[] 0, #[]⟩
noncomputable abbrev o206 (P : Params) : Obj := ⟨.none, none, .fields #[], #[]⟩
noncomputable abbrev o207 (P : Params) : Obj := ⟨.type "tuple", none, .seq #[.str ⟨#[115, 101, 108, 102]⟩ 2568, .str ⟨#[110, 97, 109, 101]⟩ 2569, .str ⟨#[118, 97, 108]⟩ 2570] 0, #[]⟩
noncomputable abbrev o208 (P : Params) : Obj := ⟨.type "tuple", none, .seq #[] 0, #[]⟩
noncomputable abbrev o209 (P : Params) : Obj := ⟨.none, none, .func ⟨⟨#[95, 95, 115, 101, 116, 105, 116, 101, 109, 95, 95]⟩, ⟨#[72, 101, 97, 100, 101, 114, 115, 46, 95, 95, 115, 101, 116, 105, 116, 101, 109, 95, 95]⟩, paramsOf (methAt 17 3), .stmts (bodyOf (methAt 17 3)), scopeOf (methAt 17 3), 0, [], .none, .none, .none, .none, none, .none, .none, 0⟩, #[]⟩
noncomputable abbrev o210 (P : Params) : Obj := ⟨.type "code", none, .fields #[.str ⟨#[95, 95, 115, 101, 116, 105, 116, 101, 109, 95, 95]⟩ 2565, .str ⟨#[72, 101, 97, 100, 101, 114, 115, 46, 95, 95, 115, 101, 116, 105, 116, 101, 109, 95, 95]⟩ 2566, .str ⟨#[47, 99, 108, 97, 105, 109, 47, 99, 117, 116, 46, 112, 121]⟩ 2567, .int 109 0, .int 3 0, .int 0 0, .int 0 0, .int 3 0, .ref 205, .bool true, .int 276 0, .ref 206, .none, .ref 207, .ref 208, .ref 209, .int 2571 0, .int 109 0, .str ⟨#[47, 99, 108, 97, 105, 109, 47, 99, 117, 116, 46, 112, 121]⟩ 2572], #[]⟩
noncomputable abbrev o211 (P : Params) : Obj := ⟨.type "function", none, .func ⟨⟨#[95, 95, 115, 101, 116, 105, 116, 101, 109, 95, 95]⟩, ⟨#[72, 101, 97, 100, 101, 114, 115, 46, 95, 95, 115, 101, 116, 105, 116, 101, 109, 95, 95]⟩, paramsOf (methAt 17 3), .stmts (bodyOf (methAt 17 3)), scopeOf (methAt 17 3), 3, [], .none, .none, .none, .str ⟨#[99, 112, 121, 51, 49, 51, 46, 119, 115, 103, 105, 114, 101, 102, 46, 104, 101, 97, 100, 101, 114, 115]⟩ 2420, none, .ref 210, .none, 0⟩, #[]⟩
noncomputable abbrev o212 (P : Params) : Obj := ⟨.type "tuple", none, .seq #[] 0, #[]⟩
noncomputable abbrev o213 (P : Params) : Obj := ⟨.none, none, .fields #[], #[]⟩
noncomputable abbrev o214 (P : Params) : Obj := ⟨.none, none, .func ⟨⟨#[95, 95, 100, 101, 108, 105, 116, 101, 109, 95, 95]⟩, ⟨#[72, 101, 97, 100, 101, 114, 115, 46, 95, 95, 100, 101, 108, 105, 116, 101, 109, 95, 95]⟩, paramsOf (methAt 17 4), .stmts (bodyOf (methAt 17 4)), scopeOf (methAt 17 4), 0, [], .none, .none, .none, .none, none, .none, .none, 0⟩, #[]⟩
noncomputable abbrev o215 (P : Params) : Obj := ⟨.type "code", none, .fields #[.str ⟨#[95, 95, 100, 101, 108, 105, 116, 101, 109, 95, 95]⟩ 2574, .str ⟨#[72, 101, 97, 100, 101, 114, 115, 46, 95, 95, 100, 101, 108, 105, 116, 101, 109, 95, 95]⟩ 2575, .str ⟨#[47, 99, 108, 97, 105, 109, 47, 99, 117, 116, 46, 112, 121]⟩ 2576, .int 113 0, .int 2 0, .int 0 0, .int 0 0, .int 3 0, .ref 212, .bool true, .int 276 0, .ref 213, .none, .none, .none, .ref 214, .int 2577 0, .int 113 0, .str ⟨#[47, 99, 108, 97, 105, 109, 47, 99, 117, 116, 46, 112, 121]⟩ 2578], #[]⟩
noncomputable abbrev o216 (P : Params) : Obj := ⟨.type "function", none, .func ⟨⟨#[95, 95, 100, 101, 108, 105, 116, 101, 109, 95, 95]⟩, ⟨#[72, 101, 97, 100, 101, 114, 115, 46, 95, 95, 100, 101, 108, 105, 116, 101, 109, 95, 95]⟩, paramsOf (methAt 17 4), .stmts (bodyOf (methAt 17 4)), scopeOf (methAt 17 4), 3, [], .none, .none, .none, .str ⟨#[99, 112, 121, 51, 49, 51, 46, 119, 115, 103, 105, 114, 101, 102, 46, 104, 101, 97, 100, 101, 114, 115]⟩ 2420, none, .ref 215, .none, 0⟩, #[]⟩
noncomputable abbrev o217 (P : Params) : Obj := ⟨.type "tuple", none, .seq #[] 0, #[]⟩
noncomputable abbrev o218 (P : Params) : Obj := ⟨.none, none, .fields #[], #[]⟩
noncomputable abbrev o219 (P : Params) : Obj := ⟨.type "tuple", none, .seq #[.str ⟨#[115, 101, 108, 102]⟩ 2583, .str ⟨#[110, 97, 109, 101]⟩ 2584] 0, #[]⟩
noncomputable abbrev o220 (P : Params) : Obj := ⟨.type "tuple", none, .seq #[] 0, #[]⟩
noncomputable abbrev o221 (P : Params) : Obj := ⟨.none, none, .func ⟨⟨#[95, 95, 103, 101, 116, 105, 116, 101, 109, 95, 95]⟩, ⟨#[72, 101, 97, 100, 101, 114, 115, 46, 95, 95, 103, 101, 116, 105, 116, 101, 109, 95, 95]⟩, paramsOf (methAt 17 5), .stmts (bodyOf (methAt 17 5)), scopeOf (methAt 17 5), 0, [], .none, .none, .none, .none, none, .none, .none, 0⟩, #[]⟩
noncomputable abbrev o222 (P : Params) : Obj := ⟨.type "code", none, .fields #[.str ⟨#[95, 95, 103, 101, 116, 105, 116, 101, 109, 95, 95]⟩ 2580, .str ⟨#[72, 101, 97, 100, 101, 114, 115, 46, 95, 95, 103, 101, 116, 105, 116, 101, 109, 95, 95]⟩ 2581, .str ⟨#[47, 99, 108, 97, 105, 109, 47, 99, 117, 116, 46, 112, 121]⟩ 2582, .int 117 0, .int 2 0, .int 0 0, .int 0 0, .int 3 0, .ref 217, .bool true, .int 276 0, .ref 218, .none, .ref 219, .ref 220, .ref 221, .int 2585 0, .int 117 0, .str ⟨#[47, 99, 108, 97, 105, 109, 47, 99, 117, 116, 46, 112, 121]⟩ 2586], #[]⟩
noncomputable abbrev o223 (P : Params) : Obj := ⟨.type "function", none, .func ⟨⟨#[95, 95, 103, 101, 116, 105, 116, 101, 109, 95, 95]⟩, ⟨#[72, 101, 97, 100, 101, 114, 115, 46, 95, 95, 103, 101, 116, 105, 116, 101, 109, 95, 95]⟩, paramsOf (methAt 17 5), .stmts (bodyOf (methAt 17 5)), scopeOf (methAt 17 5), 3, [], .none, .none, .none, .str ⟨#[99, 112, 121, 51, 49, 51, 46, 119, 115, 103, 105, 114, 101, 102, 46, 104, 101, 97, 100, 101, 114, 115]⟩ 2420, none, .ref 222, .none, 0⟩, #[]⟩
noncomputable abbrev o224 (P : Params) : Obj := ⟨.type "tuple", none, .seq #[] 0, #[]⟩
noncomputable abbrev o225 (P : Params) : Obj := ⟨.none, none, .fields #[], #[]⟩
noncomputable abbrev o226 (P : Params) : Obj := ⟨.type "tuple", none, .seq #[.str ⟨#[115, 101, 108, 102]⟩ 2591, .str ⟨#[110, 97, 109, 101]⟩ 2592] 0, #[]⟩
noncomputable abbrev o227 (P : Params) : Obj := ⟨.type "tuple", none, .seq #[] 0, #[]⟩
noncomputable abbrev o228 (P : Params) : Obj := ⟨.none, none, .func ⟨⟨#[95, 95, 99, 111, 110, 116, 97, 105, 110, 115, 95, 95]⟩, ⟨#[72, 101, 97, 100, 101, 114, 115, 46, 95, 95, 99, 111, 110, 116, 97, 105, 110, 115, 95, 95]⟩, paramsOf (methAt 17 6), .stmts (bodyOf (methAt 17 6)), scopeOf (methAt 17 6), 0, [], .none, .none, .none, .none, none, .none, .none, 0⟩, #[]⟩
noncomputable abbrev o229 (P : Params) : Obj := ⟨.type "code", none, .fields #[.str ⟨#[95, 95, 99, 111, 110, 116, 97, 105, 110, 115, 95, 95]⟩ 2588, .str ⟨#[72, 101, 97, 100, 101, 114, 115, 46, 95, 95, 99, 111, 110, 116, 97, 105, 110, 115, 95, 95]⟩ 2589, .str ⟨#[47, 99, 108, 97, 105, 109, 47, 99, 117, 116, 46, 112, 121]⟩ 2590, .int 120 0, .int 2 0, .int 0 0, .int 0 0, .int 3 0, .ref 224, .bool true, .int 276 0, .ref 225, .none, .ref 226, .ref 227, .ref 228, .int 2593 0, .int 120 0, .str ⟨#[47, 99, 108, 97, 105, 109, 47, 99, 117, 116, 46, 112, 121]⟩ 2594], #[]⟩
noncomputable abbrev o230 (P : Params) : Obj := ⟨.type "function", none, .func ⟨⟨#[95, 95, 99, 111, 110, 116, 97, 105, 110, 115, 95, 95]⟩, ⟨#[72, 101, 97, 100, 101, 114, 115, 46, 95, 95, 99, 111, 110, 116, 97, 105, 110, 115, 95, 95]⟩, paramsOf (methAt 17 6), .stmts (bodyOf (methAt 17 6)), scopeOf (methAt 17 6), 3, [], .none, .none, .none, .str ⟨#[99, 112, 121, 51, 49, 51, 46, 119, 115, 103, 105, 114, 101, 102, 46, 104, 101, 97, 100, 101, 114, 115]⟩ 2420, none, .ref 229, .none, 0⟩, #[]⟩
noncomputable abbrev o231 (P : Params) : Obj := ⟨.type "tuple", none, .seq #[] 0, #[]⟩
noncomputable abbrev o232 (P : Params) : Obj := ⟨.none, none, .fields #[], #[]⟩
noncomputable abbrev o233 (P : Params) : Obj := ⟨.none, none, .func ⟨⟨#[103, 101, 116, 95, 97, 108, 108]⟩, ⟨#[72, 101, 97, 100, 101, 114, 115, 46, 103, 101, 116, 95, 97, 108, 108]⟩, paramsOf (methAt 17 7), .stmts (bodyOf (methAt 17 7)), scopeOf (methAt 17 7), 0, [], .none, .none, .none, .none, none, .none, .none, 0⟩, #[]⟩
noncomputable abbrev o234 (P : Params) : Obj := ⟨.type "code", none, .fields #[.str ⟨#[103, 101, 116, 95, 97, 108, 108]⟩ 2596, .str ⟨#[72, 101, 97, 100, 101, 114, 115, 46, 103, 101, 116, 95, 97, 108, 108]⟩ 2597, .str ⟨#[47, 99, 108, 97, 105, 109, 47, 99, 117, 116, 46, 112, 121]⟩ 2598, .int 123 0, .int 2 0, .int 0 0, .int 0 0, .int 3 0, .ref 231, .bool true, .int 276 0, .ref 232, .none, .none, .none, .ref 233, .int 2599 0, .int 123 0, .str ⟨#[47, 99, 108, 97, 105, 109, 47, 99, 117, 116, 46, 112, 121]⟩ 2600], #[]⟩
noncomputable abbrev o235 (P : Params) : Obj := ⟨.type "function", none, .func ⟨⟨#[103, 101, 116, 95, 97, 108, 108]⟩, ⟨#[72, 101, 97, 100, 101, 114, 115, 46, 103, 101, 116, 95, 97, 108, 108]⟩, paramsOf (methAt 17 7), .stmts (bodyOf (methAt 17 7)), scopeOf (methAt 17 7), 3, [], .none, .none, .none, .str ⟨#[99, 112, 121, 51, 49, 51, 46, 119, 115, 103, 105, 114, 101, 102, 46, 104, 101, 97, 100, 101, 114, 115]⟩ 2420, none, .ref 234, .none, 0⟩, #[]⟩
noncomputable abbrev o236 (P : Params) : Obj := ⟨.type "tuple", none, .seq #[.none] 0, #[]⟩
noncomputable abbrev o237 (P : Params) : Obj := ⟨.type "tuple", none, .seq #[] 0, #[]⟩
noncomputable abbrev o238 (P : Params) : Obj := ⟨.none, none, .fields #[], #[]⟩
noncomputable abbrev o239 (P : Params) : Obj := ⟨.type "tuple", none, .seq #[.str ⟨#[115, 101, 108, 102]⟩ 2605, .str ⟨#[110, 97, 109, 101]⟩ 2606, .str ⟨#[100, 101, 102, 97, 117, 108, 116]⟩ 2607, .str ⟨#[107]⟩ 2608, .str ⟨#[118]⟩ 2609] 0, #[]⟩
noncomputable abbrev o240 (P : Params) : Obj := ⟨.type "tuple", none, .seq #[] 0, #[]⟩
noncomputable abbrev o241 (P : Params) : Obj := ⟨.none, none, .func ⟨⟨#[103, 101, 116]⟩, ⟨#[72, 101, 97, 100, 101, 114, 115, 46, 103, 101, 116]⟩, paramsOf (methAt 17 8), .stmts (bodyOf (methAt 17 8)), scopeOf (methAt 17 8), 0, [], .none, .none, .none, .none, none, .none, .none, 0⟩, #[]⟩
noncomputable abbrev o242 (P : Params) : Obj := ⟨.type "code", none, .fields #[.str ⟨#[103, 101, 116]⟩ 2602, .str ⟨#[72, 101, 97, 100, 101, 114, 115, 46, 103, 101, 116]⟩ 2603, .str ⟨#[47, 99, 108, 97, 105, 109, 47, 99, 117, 116, 46, 112, 121]⟩ 2604, .int 127 0, .int 3 0, .int 0 0, .int 0 0, .int 3 0, .ref 237, .bool true, .int 276 0, .ref 238, .none, .ref 239, .ref 240, .ref 241, .int 2610 0, .int 127 0, .str ⟨#[47, 99, 108, 97, 105, 109, 47, 99, 117, 116, 46, 112, 121]⟩ 2611], #[]⟩
noncomputable abbrev o243 (P : Params) : Obj := ⟨.type "function", none, .func ⟨⟨#[103, 101, 116]⟩, ⟨#[72, 101, 97, 100, 101, 114, 115, 46, 103, 101, 116]⟩, paramsOf (methAt 17 8), .stmts (bodyOf (methAt 17 8)), scopeOf (methAt 17 8), 3, [], .ref 236, .none, .none, .str ⟨#[99, 112, 121, 51, 49, 51, 46, 119, 115, 103, 105, 114, 101, 102, 46, 104, 101, 97, 100, 101, 114, 115]⟩ 2420, none, .ref 242, .none, 0⟩, #[]⟩
noncomputable abbrev o244 (P : Params) : Obj := ⟨.type "tuple", none, .seq #[] 0, #[]⟩
noncomputable abbrev o245 (P : Params) : Obj := ⟨.none, none, .fields #[], #[]⟩
noncomputable abbrev o246 (P : Params) : Obj := ⟨.none, none, .func ⟨⟨#[107, 101, 121, 115]⟩, ⟨#[72, 101, 97, 100, 101, 114, 115, 46, 107, 101, 121, 115]⟩, paramsOf (methAt 17 9), .stmts (bodyOf (methAt 17 9)), scopeOf (methAt 17 9), 0, [], .none, .none, .none, .none, none, .none, .none, 0⟩, #[]⟩
noncomputable abbrev o247 (P : Params) : Obj := ⟨.type "code", none, .fields #[.str ⟨#[107, 101, 121, 115]⟩ 2613, .str ⟨#[72, 101, 97, 100, 101, 114, 115, 46, 107, 101, 121, 115]⟩ 2614, .str ⟨#[47, 99, 108, 97, 105, 109, 47, 99, 117, 116, 46, 112, 121]⟩ 2615, .int 134 0, .int 1 0, .int 0 0, .int 0 0, .int 3 0, .ref 244, .bool true, .int 276 0, .ref 245, .none, .none, .none, .ref 246, .int 2616 0, .int 134 0, .str ⟨#[47, 99, 108, 97, 105, 109, 47, 99, 117, 116, 46, 112, 121]⟩ 2617], #[]⟩
noncomputable abbrev o248 (P : Params) : Obj := ⟨.type "function", none, .func ⟨⟨#[107, 101, 121, 115]⟩, ⟨#[72, 101, 97, 100, 101, 114, 115, 46, 107, 101, 121, 115]⟩, paramsOf (methAt 17 9), .stmts (bodyOf (methAt 17 9)), scopeOf (methAt 17 9), 3, [], .none, .none, .none, .str ⟨#[99, 112, 121, 51, 49, 51, 46, 119, 115, 103, 105, 114, 101, 102, 46, 104, 101, 97, 100, 101, 114, 115]⟩ 2420, none, .ref 247, .none, 0⟩, #[]⟩
noncomputable abbrev o249 (P : Params) : Obj := ⟨.type "tuple", none, .seq #[] 0, #[]⟩
noncomputable abbrev o250 (P : Params) : Obj := ⟨.none, none, .fields #[], #[]⟩
noncomputable abbrev o251 (P : Params) : Obj := ⟨.none, none, .func ⟨⟨#[118, 97, 108, 117, 101, 115]⟩, ⟨#[72, 101, 97, 100, 101, 114, 115, 46, 118, 97, 108, 117, 101, 115]⟩, paramsOf (methAt 17 10), .stmts (bodyOf (methAt 17 10)), scopeOf (methAt 17 10), 0, [], .none, .none, .none, .none, none, .none, .none, 0⟩, #[]⟩
noncomputable abbrev o252 (P : Params) : Obj := ⟨.type "code", none, .fields #[.str ⟨#[118, 97, 108, 117, 101, 115]⟩ 2619, .str ⟨#[72, 101, 97, 100, 101, 114, 115, 46, 118, 97, 108, 117, 101, 115]⟩ 2620, .str ⟨#[47, 99, 108, 97, 105, 109, 47, 99, 117, 116, 46, 112, 121]⟩ 2621, .int 137 0, .int 1 0, .int 0 0, .int 0 0, .int 3 0, .ref 249, .bool true, .int 276 0, .ref 250, .none, .none, .none, .ref 251, .int 2622 0, .int 137 0, .str ⟨#[47, 99, 108, 97, 105, 109, 47, 99, 117, 116, 46, 112, 121]⟩ 2623], #[]⟩
noncomputable abbrev o253 (P : Params) : Obj := ⟨.type "function", none, .func ⟨⟨#[118, 97, 108, 117, 101, 115]⟩, ⟨#[72, 101, 97, 100, 101, 114, 115, 46, 118, 97, 108, 117, 101, 115]⟩, paramsOf (methAt 17 10), .stmts (bodyOf (methAt 17 10)), scopeOf (methAt 17 10), 3, [], .none, .none, .none, .str ⟨#[99, 112, 121, 51, 49, 51, 46, 119, 115, 103, 105, 114, 101, 102, 46, 104, 101, 97, 100, 101, 114, 115]⟩ 2420, none, .ref 252, .none, 0⟩, #[]⟩
noncomputable abbrev o254 (P : Params) : Obj := ⟨.type "tuple", none, .seq #[] 0, #[]⟩
noncomputable abbrev o255 (P : Params) : Obj := ⟨.none, none, .fields #[], #[]⟩
noncomputable abbrev o256 (P : Params) : Obj := ⟨.type "tuple", none, .seq #[.str ⟨#[115, 101, 108, 102]⟩ 2628] 0, #[]⟩
noncomputable abbrev o257 (P : Params) : Obj := ⟨.type "tuple", none, .seq #[] 0, #[]⟩
noncomputable abbrev o258 (P : Params) : Obj := ⟨.none, none, .func ⟨⟨#[105, 116, 101, 109, 115]⟩, ⟨#[72, 101, 97, 100, 101, 114, 115, 46, 105, 116, 101, 109, 115]⟩, paramsOf (methAt 17 11), .stmts (bodyOf (methAt 17 11)), scopeOf (methAt 17 11), 0, [], .none, .none, .none, .none, none, .none, .none, 0⟩, #[]⟩
noncomputable abbrev o259 (P : Params) : Obj := ⟨.type "code", none, .fields #[.str ⟨#[105, 116, 101, 109, 115]⟩ 2625, .str ⟨#[72, 101, 97, 100, 101, 114, 115, 46, 105, 116, 101, 109, 115]⟩ 2626, .str ⟨#[47, 99, 108, 97, 105, 109, 47, 99, 117, 116, 46, 112, 121]⟩ 2627, .int 140 0, .int 1 0, .int 0 0, .int 0 0, .int 3 0, .ref 254, .bool true, .int 276 0, .ref 255, .none, .ref 256, .ref 257, .ref 258, .int 2629 0, .int 140 0, .str ⟨#[47, 99, 108, 97, 105, 109, 47, 99, 117, 116, 46, 112, 121]⟩ 2630], #[]⟩
noncomputable abbrev o260 (P : Params) : Obj := ⟨.type "function", none, .func ⟨⟨#[105, 116, 101, 109, 115]⟩, ⟨#[72, 101, 97, 100, 101, 114, 115, 46, 105, 116, 101, 109, 115]⟩, paramsOf (methAt 17 11), .stmts (bodyOf (methAt 17 11)), scopeOf (methAt 17 11), 3, [], .none, .none, .none, .str ⟨#[99, 112, 121, 51, 49, 51, 46, 119, 115, 103, 105, 114, 101, 102, 46, 104, 101, 97, 100, 101, 114, 115]⟩ 2420, none, .ref 259, .none, 0⟩, #[]⟩
noncomputable abbrev o261 (P : Params) : Obj := ⟨.type "tuple", none, .seq #[] 0, #[]⟩
noncomputable abbrev o262 (P : Params) : Obj := ⟨.none, none, .fields #[], #[]⟩
noncomputable abbrev o263 (P : Params) : Obj := ⟨.type "tuple", none, .seq #[.str ⟨#[115, 101, 108, 102]⟩ 2635] 0, #[]⟩
noncomputable abbrev o264 (P : Params) : Obj := ⟨.type "tuple", none, .seq #[] 0, #[]⟩
noncomputable abbrev o265 (P : Params) : Obj := ⟨.none, none, .func ⟨⟨#[95, 95, 114, 101, 112, 114, 95, 95]⟩, ⟨#[72, 101, 97, 100, 101, 114, 115, 46, 95, 95, 114, 101, 112, 114, 95, 95]⟩, paramsOf (methAt 17 12), .stmts (bodyOf (methAt 17 12)), scopeOf (methAt 17 12), 0, [], .none, .none, .none, .none, none, .none, .none, 0⟩, #[]⟩
noncomputable abbrev o266 (P : Params) : Obj := ⟨.type "code", none, .fields #[.str ⟨#[95, 95, 114, 101, 112, 114, 95, 95]⟩ 2632, .str ⟨#[72, 101, 97, 100, 101, 114, 115, 46, 95, 95, 114, 101, 112, 114, 95, 95]⟩ 2633, .str ⟨#[47, 99, 108, 97, 105, 109, 47, 99, 117, 116, 46, 112, 121]⟩ 2634, .int 143 0, .int 1 0, .int 0 0, .int 0 0, .int 3 0, .ref 261, .bool true, .int 276 0, .ref 262, .none, .ref 263, .ref 264, .ref 265, .int 2636 0, .int 143 0, .str ⟨#[47, 99, 108, 97, 105, 109, 47, 99, 117, 116, 46, 112, 121]⟩ 2637], #[]⟩
noncomputable abbrev o267 (P : Params) : Obj := ⟨.type "function", none, .func ⟨⟨#[95, 95, 114, 101, 112, 114, 95, 95]⟩, ⟨#[72, 101, 97, 100, 101, 114, 115, 46, 95, 95, 114, 101, 112, 114, 95, 95]⟩, paramsOf (methAt 17 12), .stmts (bodyOf (methAt 17 12)), scopeOf (methAt 17 12), 3, [], .none, .none, .none, .str ⟨#[99, 112, 121, 51, 49, 51, 46, 119, 115, 103, 105, 114, 101, 102, 46, 104, 101, 97, 100, 101, 114, 115]⟩ 2420, none, .ref 266, .none, 0⟩, #[]⟩
noncomputable abbrev o268 (P : Params) : Obj := ⟨.type "tuple", none, .seq #[] 0, #[]⟩
noncomputable abbrev o269 (P : Params) : Obj := ⟨.none, none, .fields #[], #[]⟩
noncomputable abbrev o270 (P : Params) : Obj := ⟨.none, none, .func ⟨⟨#[95, 95, 115, 116, 114, 95, 95]⟩, ⟨#[72, 101, 97, 100, 101, 114, 115, 46, 95, 95, 115, 116, 114, 95, 95]⟩, paramsOf (methAt 17 13), .stmts (bodyOf (methAt 17 13)), scopeOf (methAt 17 13), 0, [], .none, .none, .none, .none, none, .none, .none, 0⟩, #[]⟩
noncomputable abbrev o271 (P : Params) : Obj := ⟨.type "code", none, .fields #[.str ⟨#[95, 95, 115, 116, 114, 95, 95]⟩ 2639, .str ⟨#[72, 101, 97, 100, 101, 114, 115, 46, 95, 95, 115, 116, 114, 95, 95]⟩ 2640, .str ⟨#[47, 99, 108, 97, 105, 109, 47, 99, 117, 116, 46, 112, 121]⟩ 2641, .int 146 0, .int 1 0, .int 0 0, .int 0 0, .int 3 0, .ref 268, .bool true, .int 276 0, .ref 269, .none, .none, .none, .ref 270, .int 2642 0, .int 146 0, .str ⟨#[47, 99, 108, 97, 105, 109, 47, 99, 117, 116, 46, 112, 121]⟩ 2643], #[]⟩
noncomputable abbrev o272 (P : Params) : Obj := ⟨.type "function", none, .func ⟨⟨#[95, 95, 115, 116, 114, 95, 95]⟩, ⟨#[72, 101, 97, 100, 101, 114, 115, 46, 95, 95, 115, 116, 114, 95, 95]⟩, paramsOf (methAt 17 13), .stmts (bodyOf (methAt 17 13)), scopeOf (methAt 17 13), 3, [], .none, .none, .none, .str ⟨#[99, 112, 121, 51, 49, 51, 46, 119, 115, 103, 105, 114, 101, 102, 46, 104, 101, 97, 100, 101, 114, 115]⟩ 2420, none, .ref 271, .none, 0⟩, #[]⟩
noncomputable abbrev o273 (P : Params) : Obj := ⟨.type "tuple", none, .seq #[] 0, #[]⟩
noncomputable abbrev o274 (P : Params) : Obj := ⟨.none, none, .fields #[], #[]⟩
noncomputable abbrev o275 (P : Params) : Obj := ⟨.type "tuple", none, .seq #[.str ⟨#[115, 101, 108, 102]⟩ 2648] 0, #[]⟩
noncomputable abbrev o276 (P : Params) : Obj := ⟨.type "tuple", none, .seq #[] 0, #[]⟩
noncomputable abbrev o277 (P : Params) : Obj := ⟨.none, none, .func ⟨⟨#[95, 95, 98, 121, 116, 101, 115, 95, 95]⟩, ⟨#[72, 101, 97, 100, 101, 114, 115, 46, 95, 95, 98, 121, 116, 101, 115, 95, 95]⟩, paramsOf (methAt 17 14), .stmts (bodyOf (methAt 17 14)), scopeOf (methAt 17 14), 0, [], .none, .none, .none, .none, none, .none, .none, 0⟩, #[]⟩
noncomputable abbrev o278 (P : Params) : Obj := ⟨.type "code", none, .fields #[.str ⟨#[95, 95, 98, 121, 116, 101, 115, 95, 95]⟩ 2645, .str ⟨#[72, 101, 97, 100, 101, 114, 115, 46, 95, 95, 98, 121, 116, 101, 115, 95, 95]⟩ 2646, .str ⟨#[47, 99, 108, 97, 105, 109, 47, 99, 117, 116, 46, 112, 121]⟩ 2647, .int 149 0, .int 1 0, .int 0 0, .int 0 0, .int 3 0, .ref 273, .bool true, .int 276 0, .ref 274, .none, .ref 275, .ref 276, .ref 277, .int 2649 0, .int 149 0, .str ⟨#[47, 99, 108, 97, 105, 109, 47, 99, 117, 116, 46, 112, 121]⟩ 2650], #[]⟩
noncomputable abbrev o279 (P : Params) : Obj := ⟨.type "function", none, .func ⟨⟨#[95, 95, 98, 121, 116, 101, 115, 95, 95]⟩, ⟨#[72, 101, 97, 100, 101, 114, 115, 46, 95, 95, 98, 121, 116, 101, 115, 95, 95]⟩, paramsOf (methAt 17 14), .stmts (bodyOf (methAt 17 14)), scopeOf (methAt 17 14), 3, [], .none, .none, .none, .str ⟨#[99, 112, 121, 51, 49, 51, 46, 119, 115, 103, 105, 114, 101, 102, 46, 104, 101, 97, 100, 101, 114, 115]⟩ 2420, none, .ref 278, .none, 0⟩, #[]⟩
noncomputable abbrev o280 (P : Params) : Obj := ⟨.type "tuple", none, .seq #[] 0, #[]⟩
noncomputable abbrev o281 (P : Params) : Obj := ⟨.none, none, .fields #[], #[]⟩
noncomputable abbrev o282 (P : Params) : Obj := ⟨.type "tuple", none, .seq #[.str ⟨#[115, 101, 108, 102]⟩ 2655, .str ⟨#[110, 97, 109, 101]⟩ 2656, .str ⟨#[118, 97, 108, 117, 101]⟩ 2657] 0, #[]⟩
noncomputable abbrev o283 (P : Params) : Obj := ⟨.type "tuple", none, .seq #[] 0, #[]⟩
noncomputable abbrev o284 (P : Params) : Obj := ⟨.none, none, .func ⟨⟨#[115, 101, 116, 100, 101, 102, 97, 117, 108, 116]⟩, ⟨#[72, 101, 97, 100, 101, 114, 115, 46, 115, 101, 116, 100, 101, 102, 97, 117, 108, 116]⟩, paramsOf (methAt 17 15), .stmts (bodyOf (methAt 17 15)), scopeOf (methAt 17 15), 0, [], .none, .none, .none, .none, none, .none, .none, 0⟩, #[]⟩
noncomputable abbrev o285 (P : Params) : Obj := ⟨.type "code", none, .fields #[.str ⟨#[115, 101, 116, 100, 101, 102, 97, 117, 108, 116]⟩ 2652, .str ⟨#[72, 101, 97, 100, 101, 114, 115, 46, 115, 101, 116, 100, 101, 102, 97, 117, 108, 116]⟩ 2653, .str ⟨#[47, 99, 108, 97, 105, 109, 47, 99, 117, 116, 46, 112, 121]⟩ 2654, .int 152 0, .int 3 0, .int 0 0, .int 0 0, .int 3 0, .ref 280, .bool true, .int 276 0, .ref 281, .none, .ref 282, .ref 283, .ref 284, .int 2658 0, .int 152 0, .str ⟨#[47, 99, 108, 97, 105, 109, 47, 99, 117, 116, 46, 112, 121]⟩ 2659], #[]⟩
noncomputable abbrev o286 (P : Params) : Obj := ⟨.type "function", none, .func ⟨⟨#[115, 101, 116, 100, 101, 102, 97, 117, 108, 116]⟩, ⟨#[72, 101, 97, 100, 101, 114, 115, 46, 115, 101, 116, 100, 101, 102, 97, 117, 108, 116]⟩, paramsOf (methAt 17 15), .stmts (bodyOf (methAt 17 15)), scopeOf (methAt 17 15), 3, [], .none, .none, .none, .str ⟨#[99, 112, 121, 51, 49, 51, 46, 119, 115, 103, 105, 114, 101, 102, 46, 104, 101, 97, 100, 101, 114, 115]⟩ 2420, none, .ref 285, .none, 0⟩, #[]⟩
noncomputable abbrev o287 (P : Params) : Obj := ⟨.type "tuple", none, .seq #[] 0, #[]⟩
noncomputable abbrev o288 (P : Params) : Obj := ⟨.none, none, .fields #[], #[]⟩
noncomputable abbrev o289 (P : Params) : Obj := ⟨.type "tuple", none, .seq #[.str ⟨#[115, 101, 108, 102]⟩ 2664, .str ⟨#[95, 110, 97, 109, 101]⟩ 2665, .str ⟨#[95, 118, 97, 108, 117, 101]⟩ 2666, .str ⟨#[95, 112, 97, 114, 97, 109, 115]⟩ 2667, .str ⟨#[112, 97, 114, 116, 115]⟩ 2668, .str ⟨#[107]⟩ 2669, .str ⟨#[118]⟩ 2670] 0, #[]⟩
noncomputable abbrev o290 (P : Params) : Obj := ⟨.type "tuple", none, .seq #[] 0, #[]⟩
noncomputable abbrev o291 (P : Params) : Obj := ⟨.none, none, .func ⟨⟨#[97, 100, 100, 95, 104, 101, 97, 100, 101, 114]⟩, ⟨#[72, 101, 97, 100, 101, 114, 115, 46, 97, 100, 100, 95, 104, 101, 97, 100, 101, 114]⟩, paramsOf (methAt 17 16), .stmts (bodyOf (methAt 17 16)), scopeOf (methAt 17 16), 0, [], .none, .none, .none, .none, none, .none, .none, 0⟩, #[]⟩
noncomputable abbrev o292 (P : Params) : Obj := ⟨.type "code", none, .fields #[.str ⟨#[97, 100, 100, 95, 104, 101, 97, 100, 101, 114]⟩ 2661, .str ⟨#[72, 101, 97, 100, 101, 114, 115, 46, 97, 100, 100, 95, 104, 101, 97, 100, 101, 114]⟩ 2662, .str ⟨#[47, 99, 108, 97, 105, 109, 47, 99, 117, 116, 46, 112, 121]⟩ 2663, .int 155 0, .int 3 0, .int 0 0, .int 0 0, .int 11 0, .ref 287, .bool true, .int 276 0, .ref 288, .none, .ref 289, .ref 290, .ref 291, .int 2671 0, .int 155 0, .str ⟨#[47, 99, 108, 97, 105, 109, 47, 99, 117, 116, 46, 112, 121]⟩ 2672], #[]⟩
noncomputable abbrev o293 (P : Params) : Obj := ⟨.type "function", none, .func ⟨⟨#[97, 100, 100, 95, 104, 101, 97, 100, 101, 114]⟩, ⟨#[72, 101, 97, 100, 101, 114, 115, 46, 97, 100, 100, 95, 104, 101, 97, 100, 101, 114]⟩, paramsOf (methAt 17 16), .stmts (bodyOf (methAt 17 16)), scopeOf (methAt 17 16), 3, [], .none, .none, .none, .str ⟨#[99, 112, 121, 51, 49, 51, 46, 119, 115, 103, 105, 114, 101, 102, 46, 104, 101, 97, 100, 101, 114, 115]⟩ 2420, none, .ref 292, .none, 0⟩, #[]⟩
noncomputable abbrev o294 (P : Params) : Obj := ⟨.type "tuple", none, .seq #[.str ⟨#[95, 104, 101, 97, 100, 101, 114, 115]⟩ 2674] 0, #[]⟩
noncomputable abbrev o295 (P : Params) : Obj := ⟨.type "dict", none, .dict #[⟨PyData.keyHash P ⟨#[95, 95, 109, 111, 100, 117, 108, 101, 95, 95]⟩, .str ⟨#[95, 95, 109, 111, 100, 117, 108, 101, 95, 95]⟩ 2533, .str ⟨#[99, 112, 121, 51, 49, 51, 46, 119, 115, 103, 105, 114, 101, 102, 46, 104, 101, 97, 100, 101, 114, 115]⟩ 2420⟩, ⟨PyData.keyHash P ⟨#[95, 95, 102, 105, 114, 115, 116, 108, 105, 110, 101, 110, 111, 95, 95]⟩, .str ⟨#[95, 95, 102, 105, 114, 115, 116, 108, 105, 110, 101, 110, 111, 95, 95]⟩ 2537, .int 86 2536⟩, ⟨PyData.keyHash P ⟨#[95, 95, 105, 110, 105, 116, 95, 95]⟩, .str ⟨#[95, 95, 105, 110, 105, 116, 95, 95]⟩ 2547, .ref 190⟩, ⟨PyData.keyHash P ⟨#[95, 99, 111, 110, 118, 101, 114, 116, 95, 115, 116, 114, 105, 110, 103, 95, 116, 121, 112, 101]⟩, .str ⟨#[95, 99, 111, 110, 118, 101, 114, 116, 95, 115, 116, 114, 105, 110, 103, 95, 116, 121, 112, 101]⟩ 2557, .ref 197⟩, ⟨PyData.keyHash P ⟨#[95, 95, 108, 101, 110, 95, 95]⟩, .str ⟨#[95, 95, 108, 101, 110, 95, 95]⟩ 2564, .ref 204⟩, ⟨PyData.keyHash P ⟨#[95, 95, 115, 101, 116, 105, 116, 101, 109, 95, 95]⟩, .str ⟨#[95, 95, 115, 101, 116, 105, 116, 101, 109, 95, 95]⟩ 2573, .ref 211⟩, ⟨PyData.keyHash P ⟨#[95, 95, 100, 101, 108, 105, 116, 101, 109, 95, 95]⟩, .str ⟨#[95, 95, 100, 101, 108, 105, 116, 101, 109, 95, 95]⟩ 2579, .ref 216⟩, ⟨PyData.keyHash P ⟨#[95, 95, 103, 101, 116, 105, 116, 101, 109, 95, 95]⟩, .str ⟨#[95, 95, 103, 101, 116, 105, 116, 101, 109, 95, 95]⟩ 2587, .ref 223⟩, ⟨PyData.keyHash P ⟨#[95, 95, 99, 111, 110, 116, 97, 105, 110, 115, 95, 95]⟩, .str ⟨#[95, 95, 99, 111, 110, 116, 97, 105, 110, 115, 95, 95]⟩ 2595, .ref 230⟩, ⟨PyData.keyHash P ⟨#[103, 101, 116, 95, 97, 108, 108]⟩, .str ⟨#[103, 101, 116, 95, 97, 108, 108]⟩ 2601, .ref 235⟩, ⟨PyData.keyHash P ⟨#[103, 101, 116]⟩, .str ⟨#[103, 101, 116]⟩ 2612, .ref 243⟩, ⟨PyData.keyHash P ⟨#[107, 101, 121, 115]⟩, .str ⟨#[107, 101, 121, 115]⟩ 2618, .ref 248⟩, ⟨PyData.keyHash P ⟨#[118, 97, 108, 117, 101, 115]⟩, .str ⟨#[118, 97, 108, 117, 101, 115]⟩ 2624, .ref 253⟩, ⟨PyData.keyHash P ⟨#[105, 116, 101, 109, 115]⟩, .str ⟨#[105, 116, 101, 109, 115]⟩ 2631, .ref 260⟩, ⟨PyData.keyHash P ⟨#[95, 95, 114, 101, 112, 114, 95, 95]⟩, .str ⟨#[95, 95, 114, 101, 112, 114, 95, 95]⟩ 2638, .ref 267⟩, ⟨PyData.keyHash P ⟨#[95, 95, 115, 116, 114, 95, 95]⟩, .str ⟨#[95, 95, 115, 116, 114, 95, 95]⟩ 2644, .ref 272⟩, ⟨PyData.keyHash P ⟨#[95, 95, 98, 121, 116, 101, 115, 95, 95]⟩, .str ⟨#[95, 95, 98, 121, 116, 101, 115, 95, 95]⟩ 2651, .ref 279⟩, ⟨PyData.keyHash P ⟨#[115, 101, 116, 100, 101, 102, 97, 117, 108, 116]⟩, .str ⟨#[115, 101, 116, 100, 101, 102, 97, 117, 108, 116]⟩ 2660, .ref 286⟩, ⟨PyData.keyHash P ⟨#[97, 100, 100, 95, 104, 101, 97, 100, 101, 114]⟩, .str ⟨#[97, 100, 100, 95, 104, 101, 97, 100, 101, 114]⟩ 2673, .ref 293⟩, ⟨PyData.keyHash P ⟨#[95, 95, 115, 116, 97, 116, 105, 99, 95, 97, 116, 116, 114, 105, 98, 117, 116, 101, 115, 95, 95]⟩, .str ⟨#[95, 95, 115, 116, 97, 116, 105, 99, 95, 97, 116, 116, 114, 105, 98, 117, 116, 101, 115, 95, 95]⟩ 2675, .ref 294⟩, ⟨PyData.keyHash P ⟨#[95, 95, 100, 105, 99, 116, 95, 95]⟩, .str ⟨#[95, 95, 100, 105, 99, 116, 95, 95]⟩ 2677, .ref 297⟩, ⟨PyData.keyHash P ⟨#[95, 95, 119, 101, 97, 107, 114, 101, 102, 95, 95]⟩, .str ⟨#[95, 95, 119, 101, 97, 107, 114, 101, 102, 95, 95]⟩ 2679, .ref 298⟩, ⟨PyData.keyHash P ⟨#[95, 95, 100, 111, 99, 95, 95]⟩, .str ⟨#[95, 95, 100, 111, 99, 95, 95]⟩ 2680, .none⟩] 4, #[]⟩
noncomputable abbrev o296 (P : Params) : Obj := ⟨.type "type", none, .cls ⟨⟨#[72, 101, 97, 100, 101, 114, 115]⟩, [.type "object"], [.ref 296, .type "object"], 295, ⟨#[72, 101, 97, 100, 101, 114, 115]⟩, true, [], [], false, none, false⟩, #[none, none, (some (.str ⟨#[72, 101, 97, 100, 101, 114, 115]⟩ 2526)), (some (.str ⟨#[72, 101, 97, 100, 101, 114, 115]⟩ 2534)), (some (.builtin "object.__new__")), (some (.bool true))]⟩
noncomputable abbrev o297 (P : Params) : Obj := ⟨.type "getset_descriptor", none, .fields #[.str ⟨#[95, 95, 100, 105, 99, 116, 95, 95]⟩ 2676, .ref 296, .builtin "function.__dict__", .builtin "function.__dict__#set"], #[]⟩
noncomputable abbrev o298 (P : Params) : Obj := ⟨.type "getset_descriptor", none, .fields #[.str ⟨#[95, 95, 119, 101, 97, 107, 114, 101, 102, 95, 95]⟩ 2678, .ref 296, .builtin "ExceptionGroup.__weakref__", .none], #[]⟩
noncomputable abbrev o299 (P : Params) : Obj := ⟨.type "super", none, .fields #[.ref 296, .ref 296, .ref 296], #[]⟩
noncomputable abbrev o300 (P : Params) : Obj := ⟨.type "builtin_function_or_method", none, .fields #[.builtin "object.__init_subclass__", .ref 296], #[]⟩
noncomputable abbrev o3i (P : Params) : Obj := ⟨.type "dict", none, .dict #[⟨PyData.keyHash P ⟨#[95, 95, 110, 97, 109, 101, 95, 95]⟩, .str ⟨#[95, 95, 110, 97, 109, 101, 95, 95]⟩ 165, .str ⟨#[108, 97, 119, 95, 117, 99, 48, 48, 53, 54, 95, 48, 49]⟩ 2683⟩, ⟨PyData.keyHash P ⟨#[95, 95, 100, 111, 99, 95, 95]⟩, .str ⟨#[95, 95, 100, 111, 99, 95, 95]⟩ 166, .none⟩, ⟨PyData.keyHash P ⟨#[95, 95, 112, 97, 99, 107, 97, 103, 101, 95, 95]⟩, .str ⟨#[95, 95, 112, 97, 99, 107, 97, 103, 101, 95, 95]⟩ 167, .none⟩, ⟨PyData.keyHash P ⟨#[95, 95, 108, 111, 97, 100, 101, 114, 95, 95]⟩, .str ⟨#[95, 95, 108, 111, 97, 100, 101, 114, 95, 95]⟩ 168, .builtin "__main__.__loader__#opaque"⟩, ⟨PyData.keyHash P ⟨#[95, 95, 115, 112, 101, 99, 95, 95]⟩, .str ⟨#[95, 95, 115, 112, 101, 99, 95, 95]⟩ 169, .none⟩, ⟨PyData.keyHash P ⟨#[95, 95, 97, 110, 110, 111, 116, 97, 116, 105, 111, 110, 115, 95, 95]⟩, .str ⟨#[95, 95, 97, 110, 110, 111, 116, 97, 116, 105, 111, 110, 115, 95, 95]⟩ 170, .ref 6⟩, ⟨PyData.keyHash P ⟨#[95, 95, 98, 117, 105, 108, 116, 105, 110, 115, 95, 95]⟩, .str ⟨#[95, 95, 98, 117, 105, 108, 116, 105, 110, 115, 95, 95]⟩ 171, .ref 4⟩, ⟨PyData.keyHash P ⟨#[95, 95, 102, 105, 108, 101, 95, 95]⟩, .str ⟨#[95, 95, 102, 105, 108, 101, 95, 95]⟩ 173, .str ⟨#[47, 99, 108, 97, 105, 109, 47, 99, 117, 116, 46, 112, 121]⟩ 172⟩, ⟨PyData.keyHash P ⟨#[95, 95, 99, 97, 99, 104, 101, 100, 95, 95]⟩, .str ⟨#[95, 95, 99, 97, 99, 104, 101, 100, 95, 95]⟩ 174, .none⟩, ⟨PyData.keyHash P ⟨#[95, 115, 114, 101]⟩, .str ⟨#[95, 115, 114, 101]⟩ 275, .ref 12⟩, ⟨PyData.keyHash P ⟨#[95, 119, 97, 108, 108]⟩, .str ⟨#[95, 119, 97, 108, 108]⟩ 288, .ref 38⟩, ⟨PyData.keyHash P ⟨#[67, 79, 77, 80, 73, 76, 69, 82, 95, 70, 76, 65, 71, 95, 78, 65, 77, 69, 83]⟩, .str ⟨#[67, 79, 77, 80, 73, 76, 69, 82, 95, 70, 76, 65, 71, 95, 78, 65, 77, 69, 83]⟩ 321, .ref 39⟩, ⟨PyData.keyHash P ⟨#[112, 114, 101, 116, 116, 121, 95, 102, 108, 97, 103, 115]⟩, .str ⟨#[112, 114, 101, 116, 116, 121, 95, 102, 108, 97, 103, 115]⟩ 331, .ref 46⟩, ⟨PyData.keyHash P ⟨#[95, 110, 101, 116, 114, 99, 108, 101, 120]⟩, .str ⟨#[95, 110, 101, 116, 114, 99, 108, 101, 120]⟩ 391, .ref 84⟩, ⟨PyData.keyHash P ⟨#[98, 49, 95, 115, 101, 116]⟩, .str ⟨#[98, 49, 95, 115, 101, 116]⟩ 453, .ref 96⟩, ⟨PyData.keyHash P ⟨#[105, 110, 95, 116, 97, 98, 108, 101, 95, 98, 49]⟩, .str ⟨#[105, 110, 95, 116, 97, 98, 108, 101, 95, 98, 49]⟩ 460, .ref 106⟩, ⟨PyData.keyHash P ⟨#[98, 51, 95, 101, 120, 99, 101, 112, 116, 105, 111, 110, 115]⟩, .str ⟨#[98, 51, 95, 101, 120, 99, 101, 112, 116, 105, 111, 110, 115]⟩ 2411, .ref 107⟩, ⟨PyData.keyHash P ⟨#[109, 97, 112, 95, 116, 97, 98, 108, 101, 95, 98, 51]⟩, .str ⟨#[109, 97, 112, 95, 116, 97, 98, 108, 101, 95, 98, 51]⟩ 2419, .ref 152⟩, ⟨PyData.keyHash P ⟨#[116, 115, 112, 101, 99, 105, 97, 108, 115]⟩, .str ⟨#[116, 115, 112, 101, 99, 105, 97, 108, 115]⟩ 2455, .ref 157⟩, ⟨PyData.keyHash P ⟨#[95, 110, 97, 109, 101, 95, 100, 105, 115, 97, 108, 108, 111, 119, 101, 100, 95, 114, 101]⟩, .str ⟨#[95, 110, 97, 109, 101, 95, 100, 105, 115, 97, 108, 108, 111, 119, 101, 100, 95, 114, 101]⟩ 2481, .ref 162⟩, ⟨PyData.keyHash P ⟨#[95, 118, 97, 108, 117, 101, 95, 100, 105, 115, 97, 108, 108, 111, 119, 101, 100, 95, 114, 101]⟩, .str ⟨#[95, 118, 97, 108, 117, 101, 95, 100, 105, 115, 97, 108, 108, 111, 119, 101, 100, 95, 114, 101]⟩ 2515, .ref 167⟩, ⟨PyData.keyHash P ⟨#[95, 102, 111, 114, 109, 97, 116, 112, 97, 114, 97, 109]⟩, .str ⟨#[95, 102, 111, 114, 109, 97, 116, 112, 97, 114, 97, 109]⟩ 2525, .ref 175⟩, ⟨PyData.keyHash P ⟨#[72, 101, 97, 100, 101, 114, 115]⟩, .str ⟨#[72, 101, 97, 100, 101, 114, 115]⟩ 2682, .ref 296⟩, ⟨PyData.keyHash P ⟨#[95, 108, 97, 119, 95, 108, 101, 120, 101, 114]⟩, .str ⟨#[95, 108, 97, 119, 95, 108, 101, 120, 101, 114]⟩ 2695, .ref 307⟩, ⟨PyData.keyHash P ⟨#[95, 108, 97, 119, 95, 112, 114, 101, 112, 97, 114, 101, 100]⟩, .str ⟨#[95, 108, 97, 119, 95, 112, 114, 101, 112, 97, 114, 101, 100]⟩ 2701, .ref 312⟩, ⟨PyData.keyHash P ⟨#[95, 108, 97, 119, 95, 116, 121, 112, 101, 100]⟩, .str ⟨#[95, 108, 97, 119, 95, 116, 121, 112, 101, 100]⟩ 2714, .ref 319⟩, ⟨PyData.keyHash P ⟨#[95, 108, 97, 119, 95, 119, 114, 105, 116, 116, 101, 110]⟩, .str ⟨#[95, 108, 97, 119, 95, 119, 114, 105, 116, 116, 101, 110]⟩ 2720, .ref 324⟩, ⟨PyData.keyHash P ⟨#[95, 108, 97, 119, 95, 100, 114, 97, 119, 110]⟩, .str ⟨#[95, 108, 97, 119, 95, 100, 114, 97, 119, 110]⟩ 2726, .ref 329⟩, ⟨PyData.keyHash P ⟨#[95, 108, 97, 119, 95, 119, 111, 114, 100]⟩, .str ⟨#[95, 108, 97, 119, 95, 119, 111, 114, 100]⟩ 2734, .ref 336⟩, ⟨PyData.keyHash P ⟨#[95, 108, 97, 119, 95, 115, 104, 101, 108, 118, 101, 100]⟩, .str ⟨#[95, 108, 97, 119, 95, 115, 104, 101, 108, 118, 101, 100]⟩ 2740, .ref 341⟩, ⟨PyData.keyHash P ⟨#[95, 108, 97, 119, 95, 111, 118, 101, 114, 108, 97, 112, 115]⟩, .str ⟨#[95, 108, 97, 119, 95, 111, 118, 101, 114, 108, 97, 112, 115]⟩ 2746, .ref 346⟩, ⟨PyData.keyHash P ⟨#[95, 108, 97, 119, 95, 100, 117, 101]⟩, .str ⟨#[95, 108, 97, 119, 95, 100, 117, 101]⟩ 2752, .ref 351⟩, ⟨PyData.keyHash P ⟨#[108, 97, 119]⟩, .str ⟨#[108, 97, 119]⟩ 2758, .ref 356⟩] 33, #[]⟩
noncomputable abbrev o29f (P : Params) : Obj := ⟨.none, none, .fields #[.int 2 0, .int 0 0, .ref 37, .int 7 0, .int 0 0, .ref 45, .int 20 0, .int 0 0, .ref 52, .int 65 0, .int 0 0, .ref 105, .int 68 0, .int 0 0, .ref 151, .int 77 0, .int 0 0, .ref 174, .int 86 0, .int 0 0, .ref 181, .int 169 0, .int 0 0, .ref 306, .int 179 0, .int 0 0, .ref 311, .int 181 0, .int 0 0, .ref 318, .int 196 0, .int 0 0, .ref 323, .int 201 0, .int 0 0, .ref 328, .int 215 0, .int 0 0, .ref 335, .int 218 0, .int 0 0, .ref 340, .int 238 0, .int 0 0, .ref 345, .int 240 0, .int 0 0, .ref 350, .int 250 0, .int 0 0, .ref 355], #[]⟩
noncomputable abbrev o301 (P : Params) : Obj := ⟨.type "tuple", none, .seq #[] 0, #[]⟩
noncomputable abbrev o302 (P : Params) : Obj := ⟨.none, none, .fields #[], #[]⟩
noncomputable abbrev o303 (P : Params) : Obj := ⟨.type "tuple", none, .seq #[.str ⟨#[116, 101, 120, 116]⟩ 2688, .str ⟨#[116, 97, 112, 101]⟩ 2689, .str ⟨#[114, 101, 97, 100]⟩ 2690] 0, #[]⟩
noncomputable abbrev o304 (P : Params) : Obj := ⟨.type "tuple", none, .seq #[.str ⟨#[116, 101, 120, 116]⟩ 2691, .str ⟨#[112, 108, 97, 99, 101]⟩ 2692] 0, #[]⟩
noncomputable abbrev o305 (P : Params) : Obj := ⟨.none, none, .func ⟨⟨#[95, 108, 97, 119, 95, 108, 101, 120, 101, 114]⟩, ⟨#[95, 108, 97, 119, 95, 108, 101, 120, 101, 114]⟩, paramsOf (defAt 19), .stmts (bodyOf (defAt 19)), scopeOf (defAt 19), 0, [], .none, .none, .none, .none, none, .none, .none, 0⟩, #[]⟩
noncomputable abbrev o306 (P : Params) : Obj := ⟨.type "code", none, .fields #[.str ⟨#[95, 108, 97, 119, 95, 108, 101, 120, 101, 114]⟩ 2685, .str ⟨#[95, 108, 97, 119, 95, 108, 101, 120, 101, 114]⟩ 2686, .str ⟨#[47, 99, 108, 97, 105, 109, 47, 99, 117, 116, 46, 112, 121]⟩ 2687, .int 169 0, .int 1 0, .int 0 0, .int 0 0, .int 3 0, .ref 301, .bool true, .int 276 0, .ref 302, .none, .ref 303, .ref 304, .ref 305, .int 2693 0, .int 169 0, .str ⟨#[47, 99, 108, 97, 105, 109, 47, 99, 117, 116, 46, 112, 121]⟩ 2694], #[]⟩
noncomputable abbrev o307 (P : Params) : Obj := ⟨.type "function", none, .func ⟨⟨#[95, 108, 97, 119, 95, 108, 101, 120, 101, 114]⟩, ⟨#[95, 108, 97, 119, 95, 108, 101, 120, 101, 114]⟩, paramsOf (defAt 19), .stmts (bodyOf (defAt 19)), scopeOf (defAt 19), 3, [], .none, .none, .none, .str ⟨#[108, 97, 119, 95, 117, 99, 48, 48, 53, 54, 95, 48, 49]⟩ 2683, none, .ref 306, .none, 0⟩, #[]⟩
noncomputable abbrev o308 (P : Params) : Obj := ⟨.type "tuple", none, .seq #[] 0, #[]⟩
noncomputable abbrev o309 (P : Params) : Obj := ⟨.none, none, .fields #[], #[]⟩
noncomputable abbrev o310 (P : Params) : Obj := ⟨.none, none, .func ⟨⟨#[95, 108, 97, 119, 95, 112, 114, 101, 112, 97, 114, 101, 100]⟩, ⟨#[95, 108, 97, 119, 95, 112, 114, 101, 112, 97, 114, 101, 100]⟩, paramsOf (defAt 20), .stmts (bodyOf (defAt 20)), scopeOf (defAt 20), 0, [], .none, .none, .none, .none, none, .none, .none, 0⟩, #[]⟩
noncomputable abbrev o311 (P : Params) : Obj := ⟨.type "code", none, .fields #[.str ⟨#[95, 108, 97, 119, 95, 112, 114, 101, 112, 97, 114, 101, 100]⟩ 2696, .str ⟨#[95, 108, 97, 119, 95, 112, 114, 101, 112, 97, 114, 101, 100]⟩ 2697, .str ⟨#[47, 99, 108, 97, 105, 109, 47, 99, 117, 116, 46, 112, 121]⟩ 2698, .int 179 0, .int 1 0, .int 0 0, .int 0 0, .int 3 0, .ref 308, .bool true, .int 276 0, .ref 309, .none, .none, .none, .ref 310, .int 2699 0, .int 179 0, .str ⟨#[47, 99, 108, 97, 105, 109, 47, 99, 117, 116, 46, 112, 121]⟩ 2700], #[]⟩
noncomputable abbrev o312 (P : Params) : Obj := ⟨.type "function", none, .func ⟨⟨#[95, 108, 97, 119, 95, 112, 114, 101, 112, 97, 114, 101, 100]⟩, ⟨#[95, 108, 97, 119, 95, 112, 114, 101, 112, 97, 114, 101, 100]⟩, paramsOf (defAt 20), .stmts (bodyOf (defAt 20)), scopeOf (defAt 20), 3, [], .none, .none, .none, .str ⟨#[108, 97, 119, 95, 117, 99, 48, 48, 53, 54, 95, 48, 49]⟩ 2683, none, .ref 311, .none, 0⟩, #[]⟩
noncomputable abbrev o313 (P : Params) : Obj := ⟨.type "tuple", none, .seq #[] 0, #[]⟩
noncomputable abbrev o314 (P : Params) : Obj := ⟨.none, none, .fields #[], #[]⟩
noncomputable abbrev o315 (P : Params) : Obj := ⟨.type "tuple", none, .seq #[.str ⟨#[119, 111, 114, 100]⟩ 2705, .str ⟨#[110]⟩ 2706, .str ⟨#[115, 105, 103, 110, 115]⟩ 2707, .str ⟨#[105]⟩ 2708, .str ⟨#[115, 105, 103, 110]⟩ 2709, .str ⟨#[102, 111, 114, 109]⟩ 2710, .str ⟨#[117, 110, 115, 101, 101, 110]⟩ 2711] 0, #[]⟩
noncomputable abbrev o316 (P : Params) : Obj := ⟨.type "tuple", none, .seq #[] 0, #[]⟩
noncomputable abbrev o317 (P : Params) : Obj := ⟨.none, none, .func ⟨⟨#[95, 108, 97, 119, 95, 116, 121, 112, 101, 100]⟩, ⟨#[95, 108, 97, 119, 95, 116, 121, 112, 101, 100]⟩, paramsOf (defAt 21), .stmts (bodyOf (defAt 21)), scopeOf (defAt 21), 0, [], .none, .none, .none, .none, none, .none, .none, 0⟩, #[]⟩
noncomputable abbrev o318 (P : Params) : Obj := ⟨.type "code", none, .fields #[.str ⟨#[95, 108, 97, 119, 95, 116, 121, 112, 101, 100]⟩ 2702, .str ⟨#[95, 108, 97, 119, 95, 116, 121, 112, 101, 100]⟩ 2703, .str ⟨#[47, 99, 108, 97, 105, 109, 47, 99, 117, 116, 46, 112, 121]⟩ 2704, .int 181 0, .int 2 0, .int 0 0, .int 0 0, .int 3 0, .ref 313, .bool true, .int 276 0, .ref 314, .none, .ref 315, .ref 316, .ref 317, .int 2712 0, .int 181 0, .str ⟨#[47, 99, 108, 97, 105, 109, 47, 99, 117, 116, 46, 112, 121]⟩ 2713], #[]⟩
noncomputable abbrev o319 (P : Params) : Obj := ⟨.type "function", none, .func ⟨⟨#[95, 108, 97, 119, 95, 116, 121, 112, 101, 100]⟩, ⟨#[95, 108, 97, 119, 95, 116, 121, 112, 101, 100]⟩, paramsOf (defAt 21), .stmts (bodyOf (defAt 21)), scopeOf (defAt 21), 3, [], .none, .none, .none, .str ⟨#[108, 97, 119, 95, 117, 99, 48, 48, 53, 54, 95, 48, 49]⟩ 2683, none, .ref 318, .none, 0⟩, #[]⟩
noncomputable abbrev o320 (P : Params) : Obj := ⟨.type "tuple", none, .seq #[] 0, #[]⟩
noncomputable abbrev o321 (P : Params) : Obj := ⟨.none, none, .fields #[], #[]⟩
noncomputable abbrev o322 (P : Params) : Obj := ⟨.none, none, .func ⟨⟨#[95, 108, 97, 119, 95, 119, 114, 105, 116, 116, 101, 110]⟩, ⟨#[95, 108, 97, 119, 95, 119, 114, 105, 116, 116, 101, 110]⟩, paramsOf (defAt 22), .stmts (bodyOf (defAt 22)), scopeOf (defAt 22), 0, [], .none, .none, .none, .none, none, .none, .none, 0⟩, #[]⟩
noncomputable abbrev o323 (P : Params) : Obj := ⟨.type "code", none, .fields #[.str ⟨#[95, 108, 97, 119, 95, 119, 114, 105, 116, 116, 101, 110]⟩ 2715, .str ⟨#[95, 108, 97, 119, 95, 119, 114, 105, 116, 116, 101, 110]⟩ 2716, .str ⟨#[47, 99, 108, 97, 105, 109, 47, 99, 117, 116, 46, 112, 121]⟩ 2717, .int 196 0, .int 3 0, .int 0 0, .int 0 0, .int 3 0, .ref 320, .bool true, .int 276 0, .ref 321, .none, .none, .none, .ref 322, .int 2718 0, .int 196 0, .str ⟨#[47, 99, 108, 97, 105, 109, 47, 99, 117, 116, 46, 112, 121]⟩ 2719], #[]⟩
noncomputable abbrev o324 (P : Params) : Obj := ⟨.type "function", none, .func ⟨⟨#[95, 108, 97, 119, 95, 119, 114, 105, 116, 116, 101, 110]⟩, ⟨#[95, 108, 97, 119, 95, 119, 114, 105, 116, 116, 101, 110]⟩, paramsOf (defAt 22), .stmts (bodyOf (defAt 22)), scopeOf (defAt 22), 3, [], .none, .none, .none, .str ⟨#[108, 97, 119, 95, 117, 99, 48, 48, 53, 54, 95, 48, 49]⟩ 2683, none, .ref 323, .none, 0⟩, #[]⟩
noncomputable abbrev o325 (P : Params) : Obj := ⟨.type "tuple", none, .seq #[] 0, #[]⟩
noncomputable abbrev o326 (P : Params) : Obj := ⟨.none, none, .fields #[], #[]⟩
noncomputable abbrev o327 (P : Params) : Obj := ⟨.none, none, .func ⟨⟨#[95, 108, 97, 119, 95, 100, 114, 97, 119, 110]⟩, ⟨#[95, 108, 97, 119, 95, 100, 114, 97, 119, 110]⟩, paramsOf (defAt 23), .stmts (bodyOf (defAt 23)), scopeOf (defAt 23), 0, [], .none, .none, .none, .none, none, .none, .none, 0⟩, #[]⟩
noncomputable abbrev o328 (P : Params) : Obj := ⟨.type "code", none, .fields #[.str ⟨#[95, 108, 97, 119, 95, 100, 114, 97, 119, 110]⟩ 2721, .str ⟨#[95, 108, 97, 119, 95, 100, 114, 97, 119, 110]⟩ 2722, .str ⟨#[47, 99, 108, 97, 105, 109, 47, 99, 117, 116, 46, 112, 121]⟩ 2723, .int 201 0, .int 1 0, .int 0 0, .int 0 0, .int 3 0, .ref 325, .bool true, .int 276 0, .ref 326, .none, .none, .none, .ref 327, .int 2724 0, .int 201 0, .str ⟨#[47, 99, 108, 97, 105, 109, 47, 99, 117, 116, 46, 112, 121]⟩ 2725], #[]⟩
noncomputable abbrev o329 (P : Params) : Obj := ⟨.type "function", none, .func ⟨⟨#[95, 108, 97, 119, 95, 100, 114, 97, 119, 110]⟩, ⟨#[95, 108, 97, 119, 95, 100, 114, 97, 119, 110]⟩, paramsOf (defAt 23), .stmts (bodyOf (defAt 23)), scopeOf (defAt 23), 3, [], .none, .none, .none, .str ⟨#[108, 97, 119, 95, 117, 99, 48, 48, 53, 54, 95, 48, 49]⟩ 2683, none, .ref 328, .none, 0⟩, #[]⟩
noncomputable abbrev o330 (P : Params) : Obj := ⟨.type "tuple", none, .seq #[] 0, #[]⟩
noncomputable abbrev o331 (P : Params) : Obj := ⟨.none, none, .fields #[], #[]⟩
noncomputable abbrev o332 (P : Params) : Obj := ⟨.type "tuple", none, .seq #[.str ⟨#[112, 108, 97, 99, 101]⟩ 2730, .str ⟨#[110, 97, 109, 101, 115]⟩ 2731] 0, #[]⟩
noncomputable abbrev o333 (P : Params) : Obj := ⟨.type "tuple", none, .seq #[] 0, #[]⟩
noncomputable abbrev o334 (P : Params) : Obj := ⟨.none, none, .func ⟨⟨#[95, 108, 97, 119, 95, 119, 111, 114, 100]⟩, ⟨#[95, 108, 97, 119, 95, 119, 111, 114, 100]⟩, paramsOf (defAt 24), .stmts (bodyOf (defAt 24)), scopeOf (defAt 24), 0, [], .none, .none, .none, .none, none, .none, .none, 0⟩, #[]⟩
noncomputable abbrev o335 (P : Params) : Obj := ⟨.type "code", none, .fields #[.str ⟨#[95, 108, 97, 119, 95, 119, 111, 114, 100]⟩ 2727, .str ⟨#[95, 108, 97, 119, 95, 119, 111, 114, 100]⟩ 2728, .str ⟨#[47, 99, 108, 97, 105, 109, 47, 99, 117, 116, 46, 112, 121]⟩ 2729, .int 215 0, .int 1 0, .int 0 0, .int 0 0, .int 3 0, .ref 330, .bool true, .int 276 0, .ref 331, .none, .ref 332, .ref 333, .ref 334, .int 2732 0, .int 215 0, .str ⟨#[47, 99, 108, 97, 105, 109, 47, 99, 117, 116, 46, 112, 121]⟩ 2733], #[]⟩
noncomputable abbrev o336 (P : Params) : Obj := ⟨.type "function", none, .func ⟨⟨#[95, 108, 97, 119, 95, 119, 111, 114, 100]⟩, ⟨#[95, 108, 97, 119, 95, 119, 111, 114, 100]⟩, paramsOf (defAt 24), .stmts (bodyOf (defAt 24)), scopeOf (defAt 24), 3, [], .none, .none, .none, .str ⟨#[108, 97, 119, 95, 117, 99, 48, 48, 53, 54, 95, 48, 49]⟩ 2683, none, .ref 335, .none, 0⟩, #[]⟩
noncomputable abbrev o337 (P : Params) : Obj := ⟨.type "tuple", none, .seq #[] 0, #[]⟩
noncomputable abbrev o338 (P : Params) : Obj := ⟨.none, none, .fields #[], #[]⟩
noncomputable abbrev o339 (P : Params) : Obj := ⟨.none, none, .func ⟨⟨#[95, 108, 97, 119, 95, 115, 104, 101, 108, 118, 101, 100]⟩, ⟨#[95, 108, 97, 119, 95, 115, 104, 101, 108, 118, 101, 100]⟩, paramsOf (defAt 25), .stmts (bodyOf (defAt 25)), scopeOf (defAt 25), 0, [], .none, .none, .none, .none, none, .none, .none, 0⟩, #[]⟩
noncomputable abbrev o340 (P : Params) : Obj := ⟨.type "code", none, .fields #[.str ⟨#[95, 108, 97, 119, 95, 115, 104, 101, 108, 118, 101, 100]⟩ 2735, .str ⟨#[95, 108, 97, 119, 95, 115, 104, 101, 108, 118, 101, 100]⟩ 2736, .str ⟨#[47, 99, 108, 97, 105, 109, 47, 99, 117, 116, 46, 112, 121]⟩ 2737, .int 218 0, .int 5 0, .int 0 0, .int 0 0, .int 3 0, .ref 337, .bool true, .int 276 0, .ref 338, .none, .none, .none, .ref 339, .int 2738 0, .int 218 0, .str ⟨#[47, 99, 108, 97, 105, 109, 47, 99, 117, 116, 46, 112, 121]⟩ 2739], #[]⟩
noncomputable abbrev o341 (P : Params) : Obj := ⟨.type "function", none, .func ⟨⟨#[95, 108, 97, 119, 95, 115, 104, 101, 108, 118, 101, 100]⟩, ⟨#[95, 108, 97, 119, 95, 115, 104, 101, 108, 118, 101, 100]⟩, paramsOf (defAt 25), .stmts (bodyOf (defAt 25)), scopeOf (defAt 25), 3, [], .none, .none, .none, .str ⟨#[108, 97, 119, 95, 117, 99, 48, 48, 53, 54, 95, 48, 49]⟩ 2683, none, .ref 340, .none, 0⟩, #[]⟩
noncomputable abbrev o342 (P : Params) : Obj := ⟨.type "tuple", none, .seq #[] 0, #[]⟩
noncomputable abbrev o343 (P : Params) : Obj := ⟨.none, none, .fields #[], #[]⟩
noncomputable abbrev o344 (P : Params) : Obj := ⟨.none, none, .func ⟨⟨#[95, 108, 97, 119, 95, 111, 118, 101, 114, 108, 97, 112, 115]⟩, ⟨#[95, 108, 97, 119, 95, 111, 118, 101, 114, 108, 97, 112, 115]⟩, paramsOf (defAt 26), .stmts (bodyOf (defAt 26)), scopeOf (defAt 26), 0, [], .none, .none, .none, .none, none, .none, .none, 0⟩, #[]⟩
noncomputable abbrev o345 (P : Params) : Obj := ⟨.type "code", none, .fields #[.str ⟨#[95, 108, 97, 119, 95, 111, 118, 101, 114, 108, 97, 112, 115]⟩ 2741, .str ⟨#[95, 108, 97, 119, 95, 111, 118, 101, 114, 108, 97, 112, 115]⟩ 2742, .str ⟨#[47, 99, 108, 97, 105, 109, 47, 99, 117, 116, 46, 112, 121]⟩ 2743, .int 238 0, .int 2 0, .int 0 0, .int 0 0, .int 3 0, .ref 342, .bool true, .int 276 0, .ref 343, .none, .none, .none, .ref 344, .int 2744 0, .int 238 0, .str ⟨#[47, 99, 108, 97, 105, 109, 47, 99, 117, 116, 46, 112, 121]⟩ 2745], #[]⟩
noncomputable abbrev o346 (P : Params) : Obj := ⟨.type "function", none, .func ⟨⟨#[95, 108, 97, 119, 95, 111, 118, 101, 114, 108, 97, 112, 115]⟩, ⟨#[95, 108, 97, 119, 95, 111, 118, 101, 114, 108, 97, 112, 115]⟩, paramsOf (defAt 26), .stmts (bodyOf (defAt 26)), scopeOf (defAt 26), 3, [], .none, .none, .none, .str ⟨#[108, 97, 119, 95, 117, 99, 48, 48, 53, 54, 95, 48, 49]⟩ 2683, none, .ref 345, .none, 0⟩, #[]⟩
noncomputable abbrev o347 (P : Params) : Obj := ⟨.type "tuple", none, .seq #[] 0, #[]⟩
noncomputable abbrev o348 (P : Params) : Obj := ⟨.none, none, .fields #[], #[]⟩
noncomputable abbrev o349 (P : Params) : Obj := ⟨.none, none, .func ⟨⟨#[95, 108, 97, 119, 95, 100, 117, 101]⟩, ⟨#[95, 108, 97, 119, 95, 100, 117, 101]⟩, paramsOf (defAt 27), .stmts (bodyOf (defAt 27)), scopeOf (defAt 27), 0, [], .none, .none, .none, .none, none, .none, .none, 0⟩, #[]⟩
noncomputable abbrev o350 (P : Params) : Obj := ⟨.type "code", none, .fields #[.str ⟨#[95, 108, 97, 119, 95, 100, 117, 101]⟩ 2747, .str ⟨#[95, 108, 97, 119, 95, 100, 117, 101]⟩ 2748, .str ⟨#[47, 99, 108, 97, 105, 109, 47, 99, 117, 116, 46, 112, 121]⟩ 2749, .int 240 0, .int 4 0, .int 0 0, .int 0 0, .int 3 0, .ref 347, .bool true, .int 276 0, .ref 348, .none, .none, .none, .ref 349, .int 2750 0, .int 240 0, .str ⟨#[47, 99, 108, 97, 105, 109, 47, 99, 117, 116, 46, 112, 121]⟩ 2751], #[]⟩
noncomputable abbrev o351 (P : Params) : Obj := ⟨.type "function", none, .func ⟨⟨#[95, 108, 97, 119, 95, 100, 117, 101]⟩, ⟨#[95, 108, 97, 119, 95, 100, 117, 101]⟩, paramsOf (defAt 27), .stmts (bodyOf (defAt 27)), scopeOf (defAt 27), 3, [], .none, .none, .none, .str ⟨#[108, 97, 119, 95, 117, 99, 48, 48, 53, 54, 95, 48, 49]⟩ 2683, none, .ref 350, .none, 0⟩, #[]⟩
noncomputable abbrev o352 (P : Params) : Obj := ⟨.type "tuple", none, .seq #[] 0, #[]⟩
noncomputable abbrev o353 (P : Params) : Obj := ⟨.none, none, .fields #[], #[]⟩
noncomputable abbrev o354 (P : Params) : Obj := ⟨.none, none, .func ⟨⟨#[108, 97, 119]⟩, ⟨#[108, 97, 119]⟩, paramsOf (defAt 28), .stmts (bodyOf (defAt 28)), scopeOf (defAt 28), 0, [], .none, .none, .none, .none, none, .none, .none, 0⟩, #[]⟩
noncomputable abbrev o355 (P : Params) : Obj := ⟨.type "code", none, .fields #[.str ⟨#[108, 97, 119]⟩ 2753, .str ⟨#[108, 97, 119]⟩ 2754, .str ⟨#[47, 99, 108, 97, 105, 109, 47, 99, 117, 116, 46, 112, 121]⟩ 2755, .int 250 0, .int 1 0, .int 0 0, .int 0 0, .int 3 0, .ref 352, .bool true, .int 276 0, .ref 353, .none, .none, .none, .ref 354, .int 2756 0, .int 250 0, .str ⟨#[47, 99, 108, 97, 105, 109, 47, 99, 117, 116, 46, 112, 121]⟩ 2757], #[]⟩
noncomputable abbrev o356 (P : Params) : Obj := ⟨.type "function", none, .func ⟨⟨#[108, 97, 119]⟩, ⟨#[108, 97, 119]⟩, paramsOf (defAt 28), .stmts (bodyOf (defAt 28)), scopeOf (defAt 28), 3, [], .none, .none, .none, .str ⟨#[108, 97, 119, 95, 117, 99, 48, 48, 53, 54, 95, 48, 49]⟩ 2683, none, .ref 355, .none, 0⟩, #[]⟩
noncomputable def hi (P : Params) : Heap := ⟨⟨[o0 P, o1 P, o2 P, o3 P, o4 P, o5 P, o6 P, o7 P, o8 P, o9 P, o10 P, o11 P, o12 P, o13 P, o14 P, o15 P, o16 P, o17 P, o18 P, o19 P, o20 P, o21 P, o22 P, o23 P, o24 P, o25 P, o26 P, o27 P]⟩, {}⟩
noncomputable def h0 (P : Params) : Heap := ⟨⟨[o0 P, o1 P, o2 P, o3 P, o4 P, o5 P, o6 P, o7 P, o8 P, o9 P, o10 P, o11a P, o12 P, o13 P, o14 P, o15 P, o16 P, o17 P, o18 P, o19 P, o20 P, o21 P, o22 P, o23 P, o24 P, o25 P, o26 P, o27 P]⟩, {}⟩
noncomputable def hm (P : Params) : Heap := ⟨⟨[o0 P, o1 P, o2 P, o3 P, o4 P, o5 P, o6 P, o7 P, o8 P, o9 P, o10 P, o11a P, o12 P, o13 P, o14 P, o15 P, o16 P, o17 P, o18 P, o19 P, o20 P, o21 P, o22 P, o23 P, o24 P, o25 P, o26 P, o27 P, o28 P, o29 P, o30 P]⟩, {}⟩
noncomputable def hb (P : Params) : Heap := ⟨⟨[o0 P, o1 P, o2 P, o3 P, o4 P, o5 P, o6 P, o7 P, o8 P, o9 P, o10 P, o11a P, o12 P, o13 P, o14 P, o15 P, o16 P, o17 P, o18 P, o19 P, o20 P, o21 P, o22 P, o23 P, o24 P, o25 P, o26 P, o27 P, o28 P, o29 P, o30 P, o31 P]⟩, {}⟩
noncomputable def h2 (P : Params) : Heap := ⟨⟨[o0 P, o1 P, o2 P, o3a P, o4 P, o5 P, o6 P, o7 P, o8 P, o9 P, o10 P, o11a P, o12 P, o13 P, o14 P, o15 P, o16 P, o17 P, o18 P, o19 P, o20 P, o21 P, o22 P, o23 P, o24 P, o25 P, o26 P, o27 P, o28 P, o29a P, o30 P, o31 P, o32 P, o33 P, o34 P, o35 P, o36 P, o37 P, o38 P]⟩, {}⟩
noncomputable def h3 (P : Params) : Heap := ⟨⟨[o0 P, o1 P, o2 P, o3b P, o4 P, o5 P, o6 P, o7 P, o8 P, o9 P, o10 P, o11a P, o12 P, o13 P, o14 P, o15 P, o16 P, o17 P, o18 P, o19 P, o20 P, o21 P, o22 P, o23 P, o24 P, o25 P, o26 P, o27 P, o28 P, o29a P, o30 P, o31 P, o32 P, o33 P, o34 P, o35 P, o36 P, o37 P, o38 P, o39 P]⟩, {}⟩
noncomputable def h7 (P : Params) : Heap := ⟨⟨[o0 P, o1 P, o2 P, o3c P, o4 P, o5 P, o6 P, o7 P, o8 P, o9 P, o10 P, o11a P, o12 P, o13 P, o14 P, o15 P, o16 P, o17 P, o18 P, o19 P, o20 P, o21 P, o22 P, o23 P, o24 P, o25 P, o26 P, o27 P, o28 P, o29b P, o30 P, o31 P, o32 P, o33 P, o34 P, o35 P, o36 P, o37 P, o38 P, o39 P, o40 P, o41 P, o42 P, o43 P, o44 P, o45 P, o46 P, o47 P, o48 P, o49 P, o50 P, o51 P, o52 P, o53 P, o54 P, o55 P, o56 P, o57 P, o58 P, o59 P, o60 P, o61 P, o62 P, o63 P, o64 P, o65 P, o66 P, o67 P, o68 P, o69 P, o70 P, o71 P, o72 P, o73 P, o74 P, o75 P, o76 P, o77 P, o78 P, o79 P, o80 P, o81 P, o82 P, o83 P, o84 P, o85 P, o86 P, o87 P, o88 P]⟩, {}⟩
noncomputable def h8 (P : Params) : Heap := ⟨⟨[o0 P, o1 P, o2 P, o3d P, o4 P, o5 P, o6 P, o7 P, o8 P, o9 P, o10 P, o11a P, o12 P, o13 P, o14 P, o15 P, o16 P, o17 P, o18 P, o19 P, o20 P, o21 P, o22 P, o23 P, o24 P, o25 P, o26 P, o27 P, o28 P, o29b P, o30 P, o31 P, o32 P, o33 P, o34 P, o35 P, o36 P, o37 P, o38 P, o39 P, o40 P, o41 P, o42 P, o43 P, o44 P, o45 P, o46 P, o47 P, o48 P, o49 P, o50 P, o51 P, o52 P, o53 P, o54 P, o55 P, o56 P, o57 P, o58 P, o59 P, o60 P, o61 P, o62 P, o63 P, o64 P, o65 P, o66 P, o67 P, o68 P, o69 P, o70 P, o71 P, o72 P, o73 P, o74 P, o75 P, o76 P, o77 P, o78 P, o79 P, o80 P, o81 P, o82 P, o83 P, o84 P, o85 P, o86 P, o87 P, o88 P, o89 P, o90 P, o91 P, o92 P, o93 P, o94 P, o95 P, o96 P, o97 P, o98 P, o99 P]⟩, {}⟩
noncomputable def h9 (P : Params) : Heap := ⟨⟨[o0 P, o1 P, o2 P, o3e P, o4 P, o5 P, o6 P, o7 P, o8 P, o9 P, o10 P, o11a P, o12 P, o13 P, o14 P, o15 P, o16 P, o17 P, o18 P, o19 P, o20 P, o21 P, o22 P, o23 P, o24 P, o25 P, o26 P, o27 P, o28 P, o29c P, o30 P, o31 P, o32 P, o33 P, o34 P, o35 P, o36 P, o37 P, o38 P, o39 P, o40 P, o41 P, o42 P, o43 P, o44 P, o45 P, o46 P, o47 P, o48 P, o49 P, o50 P, o51 P, o52 P, o53 P, o54 P, o55 P, o56 P, o57 P, o58 P, o59 P, o60 P, o61 P, o62 P, o63 P, o64 P, o65 P, o66 P, o67 P, o68 P, o69 P, o70 P, o71 P, o72 P, o73 P, o74 P, o75 P, o76 P, o77 P, o78 P, o79 P, o80 P, o81 P, o82 P, o83 P, o84 P, o85 P, o86 P, o87 P, o88 P, o89 P, o90 P, o91 P, o92 P, o93 P, o94 P, o95 P, o96 P, o97 P, o98 P, o99 P, o100 P, o101 P, o102 P, o103 P, o104 P, o105 P, o106 P]⟩, {}⟩
noncomputable def h10 (P : Params) (x : Nat → Obj) : Heap := ⟨⟨[o0 P, o1 P, o2 P, o3f P, o4 P, o5 P, o6 P, o7 P, o8 P, o9 P, o10 P, o11a P, o12 P, o13 P, o14 P, o15 P, o16 P, o17 P, o18 P, o19 P, o20 P, o21 P, o22 P, o23 P, o24 P, o25 P, o26 P, o27 P, o28 P, o29c P, o30 P, o31 P, o32 P, o33 P, o34 P, o35 P, o36 P, o37 P, o38 P, o39 P, o40 P, o41 P, o42 P, o43 P, o44 P, o45 P, o46 P, o47 P, o48 P, o49 P, o50 P, o51 P, o52 P, o53 P, o54 P, o55 P, o56 P, o57 P, o58 P, o59 P, o60 P, o61 P, o62 P, o63 P, o64 P, o65 P, o66 P, o67 P, o68 P, o69 P, o70 P, o71 P, o72 P, o73 P, o74 P, o75 P, o76 P, o77 P, o78 P, o79 P, o80 P, o81 P, o82 P, o83 P, o84 P, o85 P, o86 P, o87 P, o88 P, o89 P, o90 P, o91 P, o92 P, o93 P, o94 P, o95 P, o96 P, o97 P, o98 P, o99 P, o100 P, o101 P, o102 P, o103 P, o104 P, o105 P, o106 P, x 0, x 1, x 2, x 3, x 4, x 5, x 6, x 7, x 8, x 9, x 10, x 11, x 12, x 13, x 14, x 15, x 16, x 17, x 18, x 19, x 20, x 21, x 22, x 23, x 24, x 25, x 26, x 27, x 28, x 29, x 30, x 31, x 32, x 33, x 34, x 35, x 36, x 37, x 38]⟩, {}⟩
noncomputable def h16 (P : Params) (x : Nat → Obj) : Heap := ⟨⟨[o0 P, o1 P, o2 P, o3g P, o4 P, o5 P, o6 P, o7 P, o8 P, o9 P, o10 P, o11a P, o12 P, o13 P, o14 P, o15 P, o16 P, o17 P, o18 P, o19 P, o20 P, o21 P, o22 P, o23 P, o24 P, o25 P, o26 P, o27 P, o28 P, o29d P, o30 P, o31 P, o32 P, o33 P, o34 P, o35 P, o36 P, o37 P, o38 P, o39 P, o40 P, o41 P, o42 P, o43 P, o44 P, o45 P, o46 P, o47 P, o48 P, o49 P, o50 P, o51 P, o52 P, o53 P, o54 P, o55 P, o56 P, o57 P, o58 P, o59 P, o60 P, o61 P, o62 P, o63 P, o64 P, o65 P, o66 P, o67 P, o68 P, o69 P, o70 P, o71 P, o72 P, o73 P, o74 P, o75 P, o76 P, o77 P, o78 P, o79 P, o80 P, o81 P, o82 P, o83 P, o84 P, o85 P, o86 P, o87 P, o88 P, o89 P, o90 P, o91 P, o92 P, o93 P, o94 P, o95 P, o96 P, o97 P, o98 P, o99 P, o100 P, o101 P, o102 P, o103 P, o104 P, o105 P, o106 P, x 0, x 1, x 2, x 3, x 4, x 5, x 6, x 7, x 8, x 9, x 10, x 11, x 12, x 13, x 14, x 15, x 16, x 17, x 18, x 19, x 20, x 21, x 22, x 23, x 24, x 25, x 26, x 27, x 28, x 29, x 30, x 31, x 32, x 33, x 34, x 35, x 36, x 37, x 38, o146 P, o147 P, o148 P, o149 P, o150 P, o151 P, o152 P, o153 P, o154 P, o155 P, o156 P, o157 P, o158 P, o159 P, o160 P, o161 P, o162 P, o163 P, o164 P, o165 P, o166 P, o167 P, o168 P, o169 P, o170 P, o171 P, o172 P, o173 P, o174 P, o175 P]⟩, {}⟩
noncomputable def h17 (P : Params) (x : Nat → Obj) : Heap := ⟨⟨[o0 P, o1 P, o2 P, o3h P, o4 P, o5 P, o6 P, o7 P, o8 P, o9 P, o10 P, o11a P, o12 P, o13 P, o14 P, o15 P, o16 P, o17 P, o18 P, o19 P, o20 P, o21 P, o22 P, o23 P, o24 P, o25 P, o26 P, o27 P, o28 P, o29e P, o30 P, o31 P, o32 P, o33 P, o34 P, o35 P, o36 P, o37 P, o38 P, o39 P, o40 P, o41 P, o42 P, o43 P, o44 P, o45 P, o46 P, o47 P, o48 P, o49 P, o50 P, o51 P, o52 P, o53 P, o54 P, o55 P, o56 P, o57 P, o58 P, o59 P, o60 P, o61 P, o62 P, o63 P, o64 P, o65 P, o66 P, o67 P, o68 P, o69 P, o70 P, o71 P, o72 P, o73 P, o74 P, o75 P, o76 P, o77 P, o78 P, o79 P, o80 P, o81 P, o82 P, o83 P, o84 P, o85 P, o86 P, o87 P, o88 P, o89 P, o90 P, o91 P, o92 P, o93 P, o94 P, o95 P, o96 P, o97 P, o98 P, o99 P, o100 P, o101 P, o102 P, o103 P, o104 P, o105 P, o106 P, x 0, x 1, x 2, x 3, x 4, x 5, x 6, x 7, x 8, x 9, x 10, x 11, x 12, x 13, x 14, x 15, x 16, x 17, x 18, x 19, x 20, x 21, x 22, x 23, x 24, x 25, x 26, x 27, x 28, x 29, x 30, x 31, x 32, x 33, x 34, x 35, x 36, x 37, x 38, o146 P, o147 P, o148 P, o149 P, o150 P, o151 P, o152 P, o153 P, o154 P, o155 P, o156 P, o157 P, o158 P, o159 P, o160 P, o161 P, o162 P, o163 P, o164 P, o165 P, o166 P, o167 P, o168 P, o169 P, o170 P, o171 P, o172 P, o173 P, o174 P, o175 P, o176 P, o177 P, o178 P, o179 P, o180 P, o181 P, o182 P, o183 P, o184 P, o185 P, o186 P, o187 P, o188 P, o189 P, o190 P, o191 P, o192 P, o193 P, o194 P, o195 P, o196 P, o197 P, o198 P, o199 P, o200 P, o201 P, o202 P, o203 P, o204 P, o205 P, o206 P, o207 P, o208 P, o209 P, o210 P, o211 P, o212 P, o213 P, o214 P, o215 P, o216 P, o217 P, o218 P, o219 P, o220 P, o221 P, o222 P, o223 P, o224 P, o225 P, o226 P, o227 P, o228 P, o229 P, o230 P, o231 P, o232 P, o233 P, o234 P, o235 P, o236 P, o237 P, o238 P, o239 P, o240 P, o241 P, o242 P, o243 P, o244 P, o245 P, o246 P, o247 P, o248 P, o249 P, o250 P, o251 P, o252 P, o253 P, o254 P, o255 P, o256 P, o257 P, o258 P, o259 P, o260 P, o261 P, o262 P, o263 P, o264 P, o265 P, o266 P, o267 P, o268 P, o269 P, o270 P, o271 P, o272 P, o273 P, o274 P, o275 P, o276 P, o277 P, o278 P, o279 P, o280 P, o281 P, o282 P, o283 P, o284 P, o285 P, o286 P, o287 P, o288 P, o289 P, o290 P, o291 P, o292 P, o293 P, o294 P, o295 P, o296 P, o297 P, o298 P, o299 P, o300 P]⟩, {}⟩
noncomputable def h28 (P : Params) (x : Nat → Obj) : Heap := ⟨⟨[o0 P, o1 P, o2 P, o3i P, o4 P, o5 P, o6 P, o7 P, o8 P, o9 P, o10 P, o11a P, o12 P, o13 P, o14 P, o15 P, o16 P, o17 P, o18 P, o19 P, o20 P, o21 P, o22 P, o23 P, o24 P, o25 P, o26 P, o27 P, o28 P, o29f P, o30 P, o31 P, o32 P, o33 P, o34 P, o35 P, o36 P, o37 P, o38 P, o39 P, o40 P, o41 P, o42 P, o43 P, o44 P, o45 P, o46 P, o47 P, o48 P, o49 P, o50 P, o51 P, o52 P, o53 P, o54 P, o55 P, o56 P, o57 P, o58 P, o59 P, o60 P, o61 P, o62 P, o63 P, o64 P, o65 P, o66 P, o67 P, o68 P, o69 P, o70 P, o71 P, o72 P, o73 P, o74 P, o75 P, o76 P, o77 P, o78 P, o79 P, o80 P, o81 P, o82 P, o83 P, o84 P, o85 P, o86 P, o87 P, o88 P, o89 P, o90 P, o91 P, o92 P, o93 P, o94 P, o95 P, o96 P, o97 P, o98 P, o99 P, o100 P, o101 P, o102 P, o103 P, o104 P, o105 P, o106 P, x 0, x 1, x 2, x 3, x 4, x 5, x 6, x 7, x 8, x 9, x 10, x 11, x 12, x 13, x 14, x 15, x 16, x 17, x 18, x 19, x 20, x 21, x 22, x 23, x 24, x 25, x 26, x 27, x 28, x 29, x 30, x 31, x 32, x 33, x 34, x 35, x 36, x 37, x 38, o146 P, o147 P, o148 P, o149 P, o150 P, o151 P, o152 P, o153 P, o154 P, o155 P, o156 P, o157 P, o158 P, o159 P, o160 P, o161 P, o162 P, o163 P, o164 P, o165 P, o166 P, o167 P, o168 P, o169 P, o170 P, o171 P, o172 P, o173 P, o174 P, o175 P, o176 P, o177 P, o178 P, o179 P, o180 P, o181 P, o182 P, o183 P, o184 P, o185 P, o186 P, o187 P, o188 P, o189 P, o190 P, o191 P, o192 P, o193 P, o194 P, o195 P, o196 P, o197 P, o198 P, o199 P, o200 P, o201 P, o202 P, o203 P, o204 P, o205 P, o206 P, o207 P, o208 P, o209 P, o210 P, o211 P, o212 P, o213 P, o214 P, o215 P, o216 P, o217 P, o218 P, o219 P, o220 P, o221 P, o222 P, o223 P, o224 P, o225 P, o226 P, o227 P, o228 P, o229 P, o230 P, o231 P, o232 P, o233 P, o234 P, o235 P, o236 P, o237 P, o238 P, o239 P, o240 P, o241 P, o242 P, o243 P, o244 P, o245 P, o246 P, o247 P, o248 P, o249 P, o250 P, o251 P, o252 P, o253 P, o254 P, o255 P, o256 P, o257 P, o258 P, o259 P, o260 P, o261 P, o262 P, o263 P, o264 P, o265 P, o266 P, o267 P, o268 P, o269 P, o270 P, o271 P, o272 P, o273 P, o274 P, o275 P, o276 P, o277 P, o278 P, o279 P, o280 P, o281 P, o282 P, o283 P, o284 P, o285 P, o286 P, o287 P, o288 P, o289 P, o290 P, o291 P, o292 P, o293 P, o294 P, o295 P, o296 P, o297 P, o298 P, o299 P, o300 P, o301 P, o302 P, o303 P, o304 P, o305 P, o306 P, o307 P, o308 P, o309 P, o310 P, o311 P, o312 P, o313 P, o314 P, o315 P, o316 P, o317 P, o318 P, o319 P, o320 P, o321 P, o322 P, o323 P, o324 P, o325 P, o326 P, o327 P, o328 P, o329 P, o330 P, o331 P, o332 P, o333 P, o334 P, o335 P, o336 P, o337 P, o338 P, o339 P, o340 P, o341 P, o342 P, o343 P, o344 P, o345 P, o346 P, o347 P, o348 P, o349 P, o350 P, o351 P, o352 P, o353 P, o354 P, o355 P, o356 P]⟩, {}⟩
end Hp
end Mine
end
section
set_option maxRecDepth 100000
set_option maxHeartbeats 4000000
namespace Mine
noncomputable def Γ0 : Ctx := ⟨.builtin "claim.caller" {}, none, none, [], none⟩
noncomputable def envT : Env := { scope := PySem.Challenge.pw_uc0056_01.main.scope, locals := mainNs, globals := mainNs, cells := [], code := .ref 30, frame := some 31 }
noncomputable def bodyT : List Stmt := (List.range' 1 28).map defAt
noncomputable def ΓT : Ctx := Γ0.enter (.body bodyT envT) none default
noncomputable abbrev bigT (w : World) {α : Type} (x : Sem α) (p : Pos) (s : Shared) : Option (BRes α) := big (denote treeTable) PySem.Challenge.pw_uc0056_01 w 100000 α ΓT x p s
noncomputable abbrev row1 := "special-get-raises"
theorem den_q : denote treeTable = PySem.W.Fast.tw11892475500146522536 PySem.W.Fast.tw14364793385576792824 := by
  rw [PySem.W.Fast.te11892475500146522536, PySem.W.Fast.te14364793385576792824]
theorem run_a (w : World) (os : OsState) (p : Pos) : ∀ b, bigT (w.withFollow row1 b) (execs ((List.range' 1 2).map defAt) envT) p ⟨Hp.hb w.params, #[], {}, 282, os⟩ = some (.ok .next, ⟨5, 0, 5, 8⟩, ⟨Hp.h2 w.params, #[], {}, 291, os⟩) := by
  unfold bigT
  rw [den_q, PySem.W.Fast.te12563942051412417395]
  intro b
  cases b <;> kernel_rfl
theorem run_b (w : World) (os : OsState) (p : Pos) : ∀ b, bigT (w.withFollow row1 b) (execs [defAt 3] envT) p ⟨Hp.h2 w.params, #[], {}, 291, os⟩ = some (.ok .next, ⟨6, 0, 6, 19⟩, ⟨Hp.h3 w.params, #[], {}, 322, os⟩) := by
  unfold bigT
  rw [den_q, PySem.W.Fast.te12563942051412417395]
  intro b
  cases b <;> kernel_rfl
theorem run_c (w : World) (os : OsState) (p : Pos) : bigT w (execs ((List.range' 4 4).map defAt) envT) p ⟨Hp.h3 w.params, #[], {}, 322, os⟩ = some (.ok .next, ⟨63, 0, 63, 8⟩, ⟨Hp.h7 w.params, #[], {}, 394, os⟩) := by
  unfold bigT
  rw [den_q, PySem.W.Fast.te12563942051412417395]
  kernel_rfl
theorem run_d (w : World) (os : OsState) (p : Pos) : ∀ b, bigT (w.withFollow row1 b) (execs [defAt 8] envT) p ⟨Hp.h7 w.params, #[], {}, 394, os⟩ = some (.ok .next, ⟨64, 0, 64, 6⟩, ⟨Hp.h8 w.params, #[], {}, 454, os⟩) := by
  unfold bigT
  rw [den_q, PySem.W.Fast.te12563942051412417395]
  intro b
  cases b <;> kernel_rfl
theorem run_e (w : World) (os : OsState) (p : Pos) : bigT w (execs [defAt 9] envT) p ⟨Hp.h8 w.params, #[], {}, 454, os⟩ = some (.ok .next, ⟨65, 0, 66, 30⟩, ⟨Hp.h9 w.params, #[], {}, 461, os⟩) := by
  unfold bigT
  rw [den_q, PySem.W.Fast.te12563942051412417395]
  kernel_rfl
theorem run_f (w : World) (os : OsState) (p : Pos) (x : Nat → Obj) : bigT w (execs ((List.range' 11 6).map defAt) envT) p ⟨Hp.h10 w.params x, #[], {}, 2412, os⟩ = some (.ok .next, ⟨77, 0, 85, 20⟩, ⟨Hp.h16 w.params x, #[], {}, 2526, os⟩) := by
  unfold bigT
  rw [den_q, PySem.W.Fast.te12563942051412417395]
  kernel_rfl
theorem run_g (w : World) (os : OsState) (p : Pos) (x : Nat → Obj) : bigT w (execs [defAt 17] envT) p ⟨Hp.h16 w.params x, #[], {}, 2526, os⟩ = some (.ok .next, ⟨86, 0, 167, 93⟩, ⟨Hp.h17 w.params x, #[], {}, 2683, os⟩) := by
  unfold bigT
  rw [den_q, PySem.W.Fast.te12563942051412417395]
  kernel_rfl
theorem run_h (w : World) (os : OsState) (p : Pos) (x : Nat → Obj) : bigT w (execs ((List.range' 18 11).map defAt) envT) p ⟨Hp.h17 w.params x, #[], {}, 2683, os⟩ = some (.ok .next, ⟨250, 0, 269, 104⟩, ⟨Hp.h28 w.params x, #[], {}, 2759, os⟩) := by
  unfold bigT
  rw [den_q, PySem.W.Fast.te12563942051412417395]
  kernel_rfl
end Mine
end
section
set_option tactic.hygienic false
set_option hygiene false
set_option maxRecDepth 100000
set_option maxHeartbeats 4000000
namespace Mine
noncomputable abbrev pwT := PySem.Challenge.pw_uc0056_01
theorem run_0 (w : World) : importEnds treeTable (opening pwT) w 1000 (start (opening pwT)).1 (start (opening pwT)).2 = some ⟨Hp.hi w.params, #[], {}, 276, (start (opening pwT)).1.os⟩ := by
  rw [PySem.W.Fast.te10274390034422433532, PySem.W.Fast.te1435165496053646825, PySem.W.Fast.te14364793385576792824]
  kernel_rfl
theorem fence_0 (w : World) (os : OsState) : fenceModules? pwT ⟨Hp.hi w.params, #[], {}, 276, os⟩ = some ⟨Hp.h0 w.params, #[], {}, 276, os⟩ := by
  rw [PySem.W.Fast.te14289696077712309145]
  kernel_rfl
theorem body_eq : behindTheImports pwT = bodyT := by kernel_rfl
noncomputable def ΓS : Ctx := ⟨.builtin "claim.caller" {}, none, none, [], none⟩
theorem run_p (w : World) (os : OsState) : big (denote treeTable) pwT w 1000 _ ΓS (moduleCode pwT.main) default ⟨Hp.h0 w.params, #[], {}, 276, os⟩ = some (.ok (.ref 30), default, ⟨Hp.hm w.params, #[], {}, 282, os⟩) := by
  rw [den_q, PySem.W.Fast.te17154629097778926822]
  kernel_rfl
theorem run_q (w : World) (os : OsState) : big (denote treeTable) pwT w 1000 _ ΓS (newBodyFrame (.ref 30) mainNs mainNs) default ⟨Hp.hm w.params, #[], {}, 282, os⟩ = some (.ok 31, default, ⟨Hp.hb w.params, #[], {}, 282, os⟩) := by
  rw [den_q, PySem.W.Fast.te12822647523644345616]
  kernel_rfl
theorem run_r (w : World) (os : OsState) : bigT w (blockStart bodyT envT) default ⟨Hp.hb w.params, #[], {}, 282, os⟩ = some (.ok (), default, ⟨Hp.hb w.params, #[], {}, 282, os⟩) := by
  unfold bigT
  rw [den_q, PySem.W.Fast.te1066825118222455980]
  kernel_rfl
end Mine
end
section
set_option tactic.hygienic false
set_option hygiene false
set_option maxRecDepth 100000
namespace Mine
noncomputable def HL (base L : List Obj) : Heap := ⟨⟨base ++ L⟩, {}⟩
noncomputable def SL (base L : List Obj) (k : Nat) (os : OsState) : Shared := ⟨HL base L, #[], {}, k, os⟩
noncomputable def dO (es : Array DictEntry) (n : Nat) : Obj := ⟨.type "dict", none, .dict es n, #[]⟩
section
variable {base L : List Obj} {i k n : Nat} {os : OsState} {es : Array DictEntry}
theorem HL_push (o : Obj) : (HL base L).push o = HL base (L ++ [o]) := by
  unfold HL Heap.push
  simp
theorem HL_size : (HL base L).objs.size = base.length + L.length := by unfold HL; simp
theorem HL_get (h : L[i]? = some (dO es n)) : (HL base L).get? (base.length + i) = some (dO es n) := by
  have : (HL base L).objs[base.length + i]? = some (dO es n) := by
    unfold HL
    simp [List.getElem?_append_right, h]
  unfold Heap.get?
  rw [this]
  rfl
theorem HL_upd {o : Obj} (f : Obj → Obj) (h : L[i]? = some o) : (HL base L).update (base.length + i) f = HL base (L.set i (f o)) := by
  unfold HL Heap.update
  simp only [List.modify_toArray, Heap.mk.injEq, Array.mk.injEq, and_true]
  apply List.ext_getElem?
  intro j
  rw [List.getElem?_modify]
  by_cases q : j < base.length
  · rw [List.getElem?_append_left q, List.getElem?_append_left q]
    have : ¬ base.length + i = j := by lia
    simp [this]
  · have q := Nat.not_lt.mp q
    rw [List.getElem?_append_right q, List.getElem?_append_right q]
    by_cases e : base.length + i = j
    · subst e
      obtain ⟨lt, e⟩ := List.getElem?_eq_some_iff.mp h
      simp [h, lt, e]
    · have : ¬ i = j - base.length := by lia
      simp [e, this]
end
noncomputable def EntT (e : DictEntry) (kv : Int × List Nat) : Prop := ∃ t t', e = ⟨hashInt kv.1, .int kv.1 t, .str ⟨kv.2.toArray⟩ t'⟩
noncomputable def Ents : List DictEntry → List (Int × List Nat) → Prop
  | [], [] => True
  | e :: es, kv :: kvs => EntT e kv ∧ Ents es kvs
  | _, _ => False
theorem Ents.length : ∀ {es : List DictEntry} {kvs : List (Int × List Nat)}, Ents es kvs → es.length = kvs.length
  | [], [], _ => rfl
  | _ :: _, _ :: _, h => by rw [List.length_cons, List.length_cons, Ents.length h.2]
  | [], _ :: _, h => h.elim
  | _ :: _, [], h => h.elim
theorem Ents.append : ∀ {es fs : List DictEntry} {kvs jvs : List (Int × List Nat)}, Ents es kvs → Ents fs jvs → Ents (es ++ fs) (kvs ++ jvs)
  | [], _, [], _, _, h => h
  | _ :: _, _, _ :: _, _, h, h' => ⟨h.1, Ents.append h.2 h'⟩
  | [], _, _ :: _, _, h, _ => h.elim
  | _ :: _, _, [], _, h, _ => h.elim
theorem Ents.mem : ∀ {es : List DictEntry} {kvs : List (Int × List Nat)} {e : DictEntry}, Ents es kvs → e ∈ es → ∃ kv ∈ kvs, EntT e kv
  | _ :: _, kv :: _, e, h, m => by
    rcases List.mem_cons.mp m with rfl | m
    · exact ⟨kv, List.mem_cons_self, h.1⟩
    · obtain ⟨x, hx, y⟩ := Ents.mem h.2 m
      exact ⟨x, List.mem_cons_of_mem _ hx, y⟩
  | [], _, _, _, m => by cases m
  | _ :: _, [], _, h, _ => h.elim
theorem Ents.get : ∀ {es : List DictEntry} {kvs : List (Int × List Nat)} {i : Nat} {e : DictEntry}, Ents es kvs → es[i]? = some e → ∃ kv, kvs[i]? = some kv ∧ EntT e kv
  | _ :: _, kv :: _, 0, e, h, m => by cases m; exact ⟨kv, rfl, h.1⟩
  | _ :: _, _ :: _, i + 1, e, h, m => Ents.get (i := i) h.2 m
  | [], _, _, _, _, m => by simp at m
  | _ :: _, [], _, _, h, _ => h.elim
theorem Ents.keys {es : Array DictEntry} {kvs : List (Int × List Nat)} (h : Ents es.toList kvs) : PySem.IntKeys es := fun e he => by
  obtain ⟨kv, _, t, t', rfl⟩ := h.mem (Array.mem_toList_iff.mpr he)
  exact ⟨_, _, rfl, rfl⟩
theorem Ents.none {es : Array DictEntry} {kvs : List (Int × List Nat)} {k : Int} (h : Ents es.toList kvs) (hk : k ∉ kvs.map (·.1)) : es.findIdx? (fun e => Value.isInt k e.key) = none := by
  rw [Array.findIdx?_eq_none_iff]
  intro e he
  obtain ⟨kv, hm, t, t', rfl⟩ := h.mem (Array.mem_toList_iff.mpr he)
  cases q : Value.isInt k (.int kv.1 t) with
  | false => rfl
  | true => exact absurd (List.mem_map.mpr ⟨kv, hm, by simpa [Value.isInt] using q⟩) hk
section
variable {prog : Program} {w : World} {A : Around} {E : Value → Shared → Prop} {base L : List Obj} {i k n : Nat} {os : OsState} {es : Array DictEntry} {kvs : List (Int × List Nat)}
theorem put_new {key : Int} {t : Tok} {v : Value} {Q : Unit → Shared → Prop} (h : L[i]? = some (dO es n)) (hk : Ents es.toList kvs) (hn : key ∉ kvs.map (·.1)) (hz : es.size ≤ 1000)
    (hQ : Q () (SL base (L.set i (dO (es.push ⟨hashInt key, .int key t, v⟩) (n + 1))) k os)) :
    wpAny (model prog w) A (dictPut (base.length + i) (hashInt key) (.int key t) v) Q E (SL base L k os) := by
  unfold dictPut
  refine wpAny_bind (wpAny_dictFind_int (s := SL base L k os) (HL_get h) rfl hk.keys ?_)
  rw [hk.none hn]
  refine wpAny_updateDictKeys (s := SL base L k os) (HL_get h) rfl ?_ (Nat.le_trans hz (by rw [sizeLine_eq]; decide))
  unfold SL
  dsimp only
  rw [HL_upd _ h]
  exact hQ
theorem set_new {key : Int} {t : Tok} {v : Value} {Q : Unit → Shared → Prop} (h : L[i]? = some (dO es n)) (hk : Ents es.toList kvs) (hn : key ∉ kvs.map (·.1)) (hz : es.size ≤ 1000)
    (hQ : Q () (SL base (L.set i (dO (es.push ⟨hashInt key, .int key t, v⟩) (n + 1))) (k + 1) os)) :
    wpAny (model prog w) A (dictSet (base.length + i) (.int key t) v) Q E (SL base L k os) := by
  unfold dictSet
  refine wpAny_holding (wpAny_bind (wpAny_pyHash_int ?_))
  unfold dictSetHashed
  refine wpAny_holding (wpAny_bind (wpAny_dictFind_int (s := SL base L (k + 1) os) (HL_get h) rfl hk.keys ?_))
  rw [hk.none hn]
  refine wpAny_bind (wpAny_rule (wpAny_updateDictKeys (s := SL base L (k + 1) os) (HL_get h) rfl ?_ (Nat.le_trans hz (by rw [sizeLine_eq]; decide))))
  unfold SL
  dsimp only
  rw [HL_upd _ h]
  exact hQ
noncomputable def CInt (t : Sem Value) (i : Int) : Prop := ∀ (M : Model) (A : Around) (Q : Value → Shared → Prop) (E : Value → Shared → Prop) (s : Shared), Q (.int i s.toks) { s with toks := s.toks + 1 } → wpAny M A t Q E s
noncomputable def CStr (t : Sem Value) (x : List Nat) : Prop := ∀ (M : Model) (A : Around) (Q : Value → Shared → Prop) (E : Value → Shared → Prop) (s : Shared), Q (.str ⟨x.toArray⟩ s.toks) { s with toks := s.toks + 1 } → wpAny M A t Q E s
noncomputable def Prs : List (Sem Value × Sem Value) → List (Int × List Nat) → Prop
  | [], [] => True
  | p :: ps, kv :: kvs => (CInt p.1 kv.1 ∧ CStr p.2 kv.2) ∧ Prs ps kvs
  | _, _ => False
theorem Prs.length : ∀ {es : List (Sem Value × Sem Value)} {kvs : List (Int × List Nat)}, Prs es kvs → es.length = kvs.length
  | [], [], _ => rfl
  | _ :: _, _ :: _, h => by rw [List.length_cons, List.length_cons, Prs.length h.2]
  | [], _ :: _, h => h.elim
  | _ :: _, [], h => h.elim
theorem fresh_key {acc kvs : List (Int × List Nat)} {kv : Int × List Nat} (hn : ((acc ++ kv :: kvs).map (·.1)).Nodup) : kv.1 ∉ acc.map (·.1) := by
  rw [List.map_append, List.map_cons, List.nodup_append] at hn
  exact fun h => hn.2.2 _ h _ List.mem_cons_self rfl
theorem sub_long {Q : PUnit → Shared → Prop} : ∀ (ps : List (Sem Value × Sem Value)) (kvs acc : List (Int × List Nat)) (L : List Obj) (k n : Nat) (es : Array DictEntry), Prs ps kvs → L[i]? = some (dO es n) → Ents es.toList acc → ((acc ++ kvs).map (·.1)).Nodup → acc.length + kvs.length ≤ 1000 →
    (∀ es' n', Ents es'.toList (acc ++ kvs) → Q PUnit.unit (SL base (L.set i (dO es' n')) (k + 3 * kvs.length) os)) →
    wpAny (model prog w) A (forIn ps PUnit.unit fun (x : Sem Value × Sem Value) (_ : PUnit) => (do
      let kv ← x.1
      let vv ← holding [kv] x.2
      holding [kv, vv] (dictSet (base.length + i) kv vv)
      pure (ForInStep.yield PUnit.unit) : Sem (ForInStep PUnit))) Q E (SL base L k os)
  | [], [], acc, L, k, n, es, _, hL, he, hn, hz, hQ => by
    rw [List.forIn_nil]
    have := hQ es n (by simpa using he)
    rw [show L.set i (dO es n) = L from by
      obtain ⟨lt, e⟩ := List.getElem?_eq_some_iff.mp hL
      rw [← e]; exact List.set_getElem_self lt] at this
    exact wpAny_pure (by simpa using this)
  | p :: ps, kv :: kvs, acc, L, k, n, es, hp, hL, he, hn, hz, hQ => by
    rw [List.forIn_cons]
    have hes := he.length
    rw [List.length_cons] at hz
    refine wpAny_bind (wpAny_bind (hp.1.1 _ _ _ _ _ ?_))
    refine wpAny_bind (wpAny_holding (hp.1.2 _ _ _ _ _ ?_))
    refine wpAny_bind (wpAny_holding (set_new (k := k + 1 + 1) hL he (fresh_key hn) (by simp only [Array.length_toList] at hes; lia) (wpAny_pure ?_)))
    obtain ⟨lt, _⟩ := List.getElem?_eq_some_iff.mp hL
    refine sub_long ps kvs (acc ++ [kv]) _ _ _ _ hp.2 (List.getElem?_set_self lt) (by rw [Array.toList_push]; exact he.append ⟨⟨_, _, rfl⟩, trivial⟩) (by simpa using hn) (by simp; lia) fun es' n' h' => ?_
    have := hQ es' n' (by simpa using h')
    rw [List.set_set]
    simpa [Nat.mul_add, Nat.add_assoc, Nat.add_comm, Nat.add_left_comm] using this
  | [], _ :: _, _, _, _, _, _, h, _, _, _, _, _ => h.elim
  | _ :: _, [], _, _, _, _, _, h, _, _, _, _, _ => h.elim
noncomputable def Vls : List (Value × Value) → List (Int × List Nat) → Prop
  | [], [] => True
  | p :: ps, kv :: kvs => (∃ t t', p = (.int kv.1 t, .str ⟨kv.2.toArray⟩ t')) ∧ Vls ps kvs
  | _, _ => False
theorem pairs_ev {Q : List (Value × Value) → Shared → Prop} : ∀ (ps : List (Sem Value × Sem Value)) (kvs : List (Int × List Nat)) (L : List Obj) (k : Nat) (Q : List (Value × Value) → Shared → Prop), Prs ps kvs → (∀ vs, Vls vs kvs → Q vs (SL base L (k + 2 * kvs.length) os)) → wpAny (model prog w) A (evalPairs ps) Q E (SL base L k os)
  | [], [], L, k, Q, _, h => evalPairs_nil (h [] trivial)
  | p :: ps, kv :: kvs, L, k, Q, hp, h => by
    refine evalPairs_cons (hp.1.1 _ _ _ _ _ (hp.1.2 _ _ _ _ _ ?_))
    refine pairs_ev (Q := fun _ _ => True) ps kvs L (k + 1 + 1) _ hp.2 fun vs hv => ?_
    have := h ((.int kv.1 k, .str ⟨kv.2.toArray⟩ (k + 1)) :: vs) ⟨⟨_, _, rfl⟩, hv⟩
    simpa [Nat.mul_add, Nat.add_assoc, Nat.add_comm, Nat.add_left_comm, SL] using this
  | [], _ :: _, _, _, _, h, _ => h.elim
  | _ :: _, [], _, _, _, h, _ => h.elim
theorem sub_short {Q : PUnit → Shared → Prop} : ∀ (ps : List (Value × Value)) (kvs acc : List (Int × List Nat)) (L : List Obj) (k n : Nat) (es : Array DictEntry), Vls ps kvs → L[i]? = some (dO es n) → Ents es.toList acc → ((acc ++ kvs).map (·.1)).Nodup → acc.length + kvs.length ≤ 1000 →
    (∀ es' n', Ents es'.toList (acc ++ kvs) → Q PUnit.unit (SL base (L.set i (dO es' n')) (k + kvs.length) os)) →
    wpAny (model prog w) A (forIn ps PUnit.unit fun (x : Value × Value) (_ : PUnit) => (do
      dictSet (base.length + i) x.1 x.2
      pure (ForInStep.yield PUnit.unit) : Sem (ForInStep PUnit))) Q E (SL base L k os)
  | [], [], acc, L, k, n, es, _, hL, he, hn, hz, hQ => by
    rw [List.forIn_nil]
    have := hQ es n (by simpa using he)
    rw [show L.set i (dO es n) = L from by
      obtain ⟨lt, e⟩ := List.getElem?_eq_some_iff.mp hL
      rw [← e]; exact List.set_getElem_self lt] at this
    exact wpAny_pure (by simpa using this)
  | p :: ps, kv :: kvs, acc, L, k, n, es, hp, hL, he, hn, hz, hQ => by
    rw [List.forIn_cons]
    have hes := he.length
    rw [List.length_cons] at hz
    obtain ⟨⟨t, t', rfl⟩, hp⟩ := hp
    refine wpAny_bind (wpAny_bind (set_new hL he (fresh_key hn) (by simp only [Array.length_toList] at hes; lia) (wpAny_pure ?_)))
    obtain ⟨lt, _⟩ := List.getElem?_eq_some_iff.mp hL
    refine sub_short ps kvs (acc ++ [kv]) _ _ _ _ hp (List.getElem?_set_self lt) (by rw [Array.toList_push]; exact he.append ⟨⟨_, _, rfl⟩, trivial⟩) (by simpa using hn) (by simp; lia) fun es' n' h' => ?_
    have := hQ es' n' (by simpa using h')
    rw [List.set_set]
    simpa [Nat.mul_add, Nat.add_assoc, Nat.add_comm, Nat.add_left_comm] using this
  | [], _ :: _, _, _, _, _, _, h, _, _, _, _, _ => h.elim
  | _ :: _, [], _, _, _, _, _, h, _, _, _, _, _ => h.elim
theorem sub_new {ps : List (Sem Value × Sem Value)} {Q : Addr → Shared → Prop} (hp : Prs ps kvs) (hn : (kvs.map (·.1)).Nodup) (hz : kvs.length ≤ 1000)
    (hQ : ∀ es n, Ents es.toList kvs → Q (base.length + L.length) (SL base (L ++ [dO es n]) (k + 3 * kvs.length) os)) : wpAny (model prog w) A (subDict ps) Q E (SL base L k os) := by
  unfold subDict
  refine wpAny_bind (wpAny_alloc ?_)
  show wpAny _ _ _ _ _ _
  unfold SL
  dsimp only
  rw [HL_push, HL_size]
  show wpAny _ _ _ _ _ (SL base (L ++ [dO #[] 0]) k os)
  have h0 : (L ++ [dO #[] 0])[L.length]? = some (dO #[] 0) := by simp
  have hs : ∀ o : Obj, (L ++ [dO #[] 0]).set L.length o = L ++ [o] := fun o => by simp
  refine wpAny_bind (wpAny_holding ?_)
  split
  · refine wpAny_bind (pairs_ev (Q := fun _ _ => True) ps kvs _ _ _ hp fun vs hv => ?_)
    refine wpAny_holding (wpAny_bind (sub_short vs kvs [] _ _ _ _ hv h0 trivial (by simpa using hn) (by simpa using hz) fun es' n' h' => wpAny_pure (wpAny_pure ?_)))
    rw [hs]
    have := hQ es' n' (by simpa using h')
    rw [show k + 2 * kvs.length + kvs.length = k + 3 * kvs.length from by lia]
    exact this
  · refine wpAny_bind (wpAny_rule (wpAny_bind (sub_long ps kvs [] _ _ _ _ hp h0 trivial (by simpa using hn) (by simpa using hz) fun es' n' h' => wpAny_pure (wpAny_pure ?_))))
    rw [hs]
    exact hQ es' n' (by simpa using h')
end
end Mine
end
section
set_option tactic.hygienic false
set_option hygiene false
set_option maxRecDepth 100000
namespace Mine
section
variable {prog : Program} {w : World} {A : Around} {E : Value → Shared → Prop} {base L : List Obj} {j k n nm : Nat} {os : OsState} {es em : Array DictEntry} {kvs kvm : List (Int × List Nat)}
theorem typeIs_dict (h : L[j]? = some (dO es n)) : (SL base L k os).TypeIs (.ref (base.length + j)) "dict" := ⟨_, HL_get h, rfl⟩
theorem merge_new {Q : Unit → Shared → Prop} (hb : sysModules < base.length) (h0 : L[0]? = some (dO em nm)) (hj : L[j + 1]? = some (dO es n)) (hm : Ents em.toList kvm) (he : Ents es.toList kvs) (hne : em.size ≠ 0)
    (hn : ((kvm ++ kvs).map (·.1)).Nodup) (hz : kvm.length + kvs.length ≤ 1000) (hQ : ∀ em' nm', Ents em'.toList (kvm ++ kvs) → Q () (SL base (L.set 0 (dO em' nm')) k os)) :
    wpAny (model prog w) A (mergeMapping base.length (.ref (base.length + (j + 1))) false) Q E (SL base L k os) := by
  unfold mergeMapping
  refine wpAny_bind (wpAny_isInstance (typeIs_dict hj) isSubtype_dict_dict ?_)
  rw [if_pos rfl]
  refine wpAny_bind (wpAny_specialOf (typeIs_dict hj) F.slot_dict_iter.lookup (wpAny_bind (wpAny_pure ?_)))
  simp only [beq_self_eq_true]
  have hsys : ((base.length + (j + 1)) == sysModules) = false := beq_eq_false_iff_ne.mpr (Nat.ne_of_gt (Nat.lt_of_lt_of_le hb (Nat.le_add_right _ _)))
  simp only [hsys, Bool.false_eq_true, if_false]
  refine wpAny_bind (wpAny_dictEntries (o := dO em nm) (HL_get (i := 0) h0) rfl ?_)
  rw [if_neg (by simpa using hne)]
  refine wpAny_bind (wpAny_dictEntries (o := dO es n) (HL_get hj) rfl ?_)
  refine wpAny_bind (wpAny_dictEpoch (o := dO es n) (HL_get hj) rfl ?_)
  have hel := he.length
  simp only [Array.length_toList] at hel
  have hml := hm.length
  simp only [Array.length_toList] at hml
  obtain ⟨l0, _⟩ := List.getElem?_eq_some_iff.mp h0
  refine wpAny_bind ?_
  rw [List.range_eq_range']
  refine wpAny_forIn_list _ (fun rest _ s' => ∃ i em' nm', rest = List.range' i (es.size - i) ∧ i ≤ es.size ∧ s' = SL base (L.set 0 (dO em' nm')) k os ∧ Ents em'.toList (kvm ++ kvs.take i)) _ ?_ ?_ _ _
    ⟨0, em, nm, by simp, Nat.zero_le _, by rw [show L.set 0 (dO em nm) = L from by
      obtain ⟨lt, e⟩ := List.getElem?_eq_some_iff.mp h0
      rw [← e]; exact List.set_getElem_self lt], by simpa using hm⟩
  · rintro x rest b s' ⟨i, em', nm', hr, hi, rfl, hm'⟩
    have hlt : i < es.size := by
      rcases Nat.lt_or_ge i es.size with h | h
      · exact h
      · rw [Nat.sub_eq_zero_of_le h] at hr; simp at hr
    obtain ⟨rfl, hrest⟩ : x = i ∧ rest = List.range' (i + 1) (es.size - (i + 1)) := by
      have e : es.size - i = (es.size - (i + 1)) + 1 := sub_s hlt
      rw [e, List.range'_succ] at hr
      injection hr with h1 h2
      exact ⟨h1, h2⟩
    have hj' : ∀ o, (L.set 0 o)[j + 1]? = some (dO es n) := fun o => by rw [List.getElem?_set_ne (by lia)]; exact hj
    have h0' : (L.set 0 (dO em' nm'))[0]? = some (dO em' nm') := List.getElem?_set_self l0
    refine wpAny_bind (wpAny_dictEntries (o := dO es n) (HL_get (hj' _)) rfl ?_)
    have hxe : es[x]? = some es[x] := Array.getElem?_eq_getElem hlt
    rw [hxe]
    obtain ⟨kv, hkv, t, t', hE⟩ := he.get (i := x) (e := es[x]) (by simp [hlt])
    dsimp only
    rw [hE]
    dsimp only
    have hml' := hm'.length
    simp only [Array.length_toList, List.length_append, List.length_take] at hml'
    have hsplit : kvs = kvs.take x ++ kv :: kvs.drop (x + 1) := by
      obtain ⟨q, e⟩ := List.getElem?_eq_some_iff.mp hkv
      rw [← e, List.getElem_cons_drop]
      exact (List.take_append_drop x kvs).symm
    have hnot : kv.1 ∉ (kvm ++ kvs.take x).map (·.1) := by
      refine fresh_key (kvs := kvs.drop (x + 1)) ?_
      rw [List.append_assoc, ← hsplit]
      exact hn
    refine wpAny_bind (wpAny_holding ?_)
    refine put_new (i := 0) h0' hm' hnot (by lia) ?_
    refine wpAny_bind (wpAny_dictEpoch (o := dO es n) (HL_get (by rw [List.set_set]; exact hj' _)) rfl ?_)
    rw [if_neg (by simp)]
    refine wpAny_pure ⟨x + 1, _, _, hrest, hlt, by rw [List.set_set], ?_⟩
    rw [Array.toList_push, List.take_add_one, hkv, ← List.append_assoc]
    exact hm'.append ⟨⟨_, _, rfl⟩, trivial⟩
  · rintro b s' ⟨i, em', nm', hr, hi, rfl, hm'⟩
    have hin : i = es.size := by
      rcases Nat.lt_or_ge i es.size with h | h
      · have e : es.size - i = (es.size - (i + 1)) + 1 := sub_s h
        rw [e, List.range'_succ] at hr; exact nomatch hr
      · exact Nat.le_antisymm hi h
    rw [hin, hel, List.take_length] at hm'
    exact wpAny_pure (hQ _ _ hm')
end
end Mine
end
section
set_option tactic.hygienic false
set_option hygiene false
set_option maxRecDepth 100000
namespace Mine
section
variable {prog : Program} {w : World} {A : Around} {E : Value → Shared → Prop} {base L : List Obj} {j k n nm : Nat} {os : OsState} {es em : Array DictEntry} {kvs kvm : List (Int × List Nat)}
noncomputable def flushT (run : List (Sem Value × Sem Value)) (main : Option Addr) : Sem (Option Addr) :=
  if run.isEmpty = true then pure main else match main with
    | none => do
      let l ← subDict run
      pure (some l)
    | some d => do
      let sub ← holding [Value.ref d] (subDict run)
      (holding [Value.ref d, Value.ref sub] (mergeMapping d (Value.ref sub) false)).onRaise fun x => do
        let _ ← holding [Value.ref d, x] (runValue (Code.builtin "proto.let_go" { }))
        pure ()
      pure (some d)
noncomputable def JT (base : List Obj) (k : Nat) (os : OsState) (kd : List (Int × List Nat)) (main : Option Addr) (s : Shared) : Prop :=
  (kd = [] ∧ main = none ∧ s = SL base [] k os) ∨ (main = some base.length ∧ ∃ L em nm, s = SL base L (k + 3 * kd.length) os ∧ L[0]? = some (dO em nm) ∧ Ents em.toList kd ∧ kd ≠ [] ∧ L.length = (kd.length + 16) / 17)
theorem flush_ok {run : List (Sem Value × Sem Value)} {kd kr : List (Int × List Nat)} {main : Option Addr} {s : Shared} (hb : sysModules < base.length) (hj : JT base k os kd main s) (hp : Prs run kr) (hr : kr ≠ []) (h17 : kd.length % 17 = 0) (hl : kr.length ≤ 17)
    (hn : ((kd ++ kr).map (·.1)).Nodup) (hz : kd.length + kr.length ≤ 1000) {Q : Option Addr → Shared → Prop} (hQ : ∀ m s', JT base k os (kd ++ kr) m s' → Q m s') : wpAny (model prog w) A (flushT run main) Q E s := by
  have hlen := hp.length
  have hpos : 0 < kr.length := List.length_pos_iff.mpr hr
  have hnr : (kr.map (·.1)).Nodup := by rw [List.map_append, List.nodup_append] at hn; exact hn.2.1
  have hne : ¬ run.isEmpty = true := by
    cases run with
    | nil => rw [List.length_nil] at hlen; lia
    | cons => simp
  unfold flushT
  rw [if_neg hne]
  rcases hj with ⟨rfl, rfl, rfl⟩ | ⟨rfl, L, em, nm, rfl, h0, he, hk, hL⟩
  · refine wpAny_bind (sub_new hp hnr (by exact Nat.le_trans (by assumption) (by decide)) fun es n h => wpAny_pure (hQ _ _ (.inr ⟨rfl, [dO es n], es, n, ?_, rfl, h, hr, ?_⟩)))
    · rfl
    · simp only [List.nil_append, List.length_cons, List.length_nil]; lia
  · obtain ⟨l0, _⟩ := List.getElem?_eq_some_iff.mp h0
    obtain ⟨j, hj⟩ : ∃ j, L.length = j + 1 := ⟨L.length - 1, by lia⟩
    have hkp : 0 < kd.length := List.length_pos_iff.mpr hk
    have hel := he.length
    simp only [Array.length_toList] at hel
    refine wpAny_bind (wpAny_holding (sub_new hp hnr (by exact Nat.le_trans (by assumption) (by decide)) fun es n h => ?_))
    have hj' : (L ++ [dO es n])[j + 1]? = some (dO es n) := by rw [← hj]; simp
    rw [hj]
    refine wpAny_bind (wpAny_onRaise (wpAny_holding (merge_new (L := L ++ [dO es n]) (em := em) (nm := nm) (n := n) (es := es) hb (by rw [List.getElem?_append_left l0]; exact h0) hj' he h (by lia) hn hz fun em' nm' h' => wpAny_pure (hQ _ _ (.inr ⟨rfl, (L ++ [dO es n]).set 0 (dO em' nm'), em', nm', ?_, List.getElem?_set_self (by rw [List.length_append]; lia), h', by simp [hr], ?_⟩)))))
    · rw [List.length_append, Nat.mul_add, Nat.add_assoc]
    · rw [List.length_set, List.length_append, List.length_append, List.length_singleton]; lia
theorem display_new {ps : List (Sem Value × Sem Value)} {Q : Value → Shared → Prop} (hb : sysModules < base.length) (hp : Prs ps kvs) (hne : kvs ≠ []) (hn : (kvs.map (·.1)).Nodup) (hz : kvs.length ≤ 1000)
    (hQ : ∀ L em nm, L[0]? = some (dO em nm) → Ents em.toList kvs → L.length = (kvs.length + 16) / 17 → Q (.ref base.length) (SL base L (k + 3 * kvs.length) os)) :
    wpAny (model prog w) A (dictDisplay (ps.map fun p => (some p.1, p.2))) Q E (SL base [] k os) := by
  unfold dictDisplay
  dsimp only
  refine wpAny_bind (wpAny_forIn_list _ (fun rest b s => ∃ kd kr ks ps', kvs = kd ++ kr ++ ks ∧ rest = (ps'.map fun p => (some p.1, p.2)) ∧ Prs ps' ks ∧ Prs b.2 kr ∧ kr.length < 17 ∧ kd.length % 17 = 0 ∧ JT base k os kd b.1 s) _ ?_ ?_ _ _
    ⟨[], [], kvs, ps, rfl, rfl, hp, by exact trivial, by decide, rfl, .inl ⟨rfl, rfl, rfl⟩⟩)
  · rintro x rest ⟨main, run⟩ s ⟨kd, kr, ks, ps', e1, e2, h1, h2, h3, h4, h5⟩
    cases ps' with
    | nil => cases e2
    | cons p ps' =>
      cases ks with
      | nil => exact h1.elim
      | cons kv ks =>
        rw [List.map_cons] at e2
        injection e2 with ex er
        subst ex er
        dsimp only at h2 ⊢
        have hpr : Prs (run ++ [(p.1, p.2)]) (kr ++ [kv]) := by
          clear e1 h3 h5 hp hn hz hQ hne
          revert kr
          induction run with
          | nil => intro kr h; cases kr with
            | nil => exact ⟨h1.1, trivial⟩
            | cons => exact h.elim
          | cons q run ih => intro kr h; cases kr with
            | nil => exact h.elim
            | cons => exact ⟨h.1, ih _ h.2⟩
        have hlr := hpr.length
        have hkl : kvs.length = kd.length + (kr.length + 1 + ks.length) := by rw [e1]; simp; lia
        split
        · rename_i h17
          have h17 : (kr ++ [kv]).length = 17 := by rw [← hlr]; simpa using h17
          have hmid : ((kd ++ (kr ++ [kv])).map (·.1)).Nodup := by
            have : kvs = (kd ++ (kr ++ [kv])) ++ ks := by rw [e1]; simp
            rw [this, List.map_append, List.nodup_append] at hn
            exact hn.1
          have hlk : (kd ++ (kr ++ [kv])).length ≤ 1000 := by simp at h17 ⊢; lia
          refine wpAny_bind ?_
          refine (?_ : wpAny _ _ (flushT (run ++ [(p.1, p.2)]) main) _ _ _)
          refine flush_ok hb h5 hpr (by simp) h4 (by exact z9 (by assumption) (by decide)) hmid (by simpa using hlk) fun m s' hJ => wpAny_pure ?_
          exact ⟨kd ++ (kr ++ [kv]), [], ks, ps', by rw [e1]; simp, rfl, h1.2, trivial, by decide, by rw [List.length_append, h17]; lia, hJ⟩
        · rename_i h17
          have h17 : ¬ (kr ++ [kv]).length = 17 := by rw [← hlr]; simpa using h17
          refine wpAny_pure ⟨kd, kr ++ [kv], ks, ps', by rw [e1]; simp, rfl, h1.2, hpr, by simp at h17 ⊢; lia, h4, h5⟩
  · rintro ⟨main, run⟩ s ⟨kd, kr, ks, ps', e1, e2, h1, h2, h3, h4, h5⟩
    have hps : ps' = [] := by
      cases ps' with
      | nil => rfl
      | cons => cases e2
    subst hps
    cases ks with
    | cons => exact h1.elim
    | nil =>
      rw [List.append_nil] at e1
      subst e1
      dsimp only at h2 ⊢
      refine wpAny_bind ?_
      refine (?_ : wpAny _ _ (flushT run main) _ _ _)
      have fin : ∀ m s', JT base k os (kd ++ kr) m s' → wpAny (model prog w) A (match m with | some d => (pure (Value.ref d) : Sem Value) | none => newDict) Q E s' := by
        rintro m s' (⟨e, _⟩ | ⟨rfl, L, em, nm, rfl, g1, g2, g3, g4⟩)
        · exact absurd e hne
        · exact wpAny_pure (hQ _ _ _ g1 g2 g4)
      by_cases hr : kr = []
      · subst hr
        cases run with
        | nil =>
          show wpAny _ _ (pure main) _ _ _
          refine wpAny_pure (fin _ _ ?_)
          rw [List.append_nil]
          exact h5
        | cons => exact h2.elim
      · exact flush_ok hb h5 h2 hr h4 (by exact z6 (by assumption) (by decide)) hn (by simpa using hz) fun m s' hJ => fin m s' hJ
end
end Mine
end
section
set_option maxRecDepth 100000
namespace Mine
noncomputable def keys10 : List (Option PySem.Expr) := match defAt 10 with | .Assign _ (.Dict ks _ _) _ => ks | _ => []
noncomputable def vals10 : List PySem.Expr := match defAt 10 with | .Assign _ (.Dict _ vs _) _ => vs | _ => []
noncomputable def pos10 : Pos := match defAt 10 with | .Assign _ (.Dict _ _ p) _ => p | _ => default
noncomputable def kvOk : Option PySem.Expr → PySem.Expr → Option (Int × List Nat)
  | some (.Constant (.int k) _ _), .Constant (.str x) _ _ => some (k, x.cps.toList)
  | _, _ => none
noncomputable def kvL : List (Option PySem.Expr) → List PySem.Expr → List (Int × List Nat)
  | k :: ks, v :: vs => (kvOk k v).getD (0, []) :: kvL ks vs
  | _, _ => []
noncomputable def okKVs : List (Option PySem.Expr) → List PySem.Expr → Bool
  | [], [] => true
  | k :: ks, v :: vs => (kvOk k v).isSome && okKVs ks vs
  | _, _ => false
theorem prs_of {env : Env} {pos : Pos} : ∀ (ks : List (Option PySem.Expr)) (vs : List PySem.Expr), okKVs ks vs = true → ∃ ps, (evalEachOpt ks env).zip ((evalEach vs env).map fun v => (do let x ← v; standAt pos; pure x : Sem Value)) = ps.map (fun p : Sem Value × Sem Value => (some p.1, p.2)) ∧ Prs ps (kvL ks vs)
  | [], [], _ => ⟨[], rfl, trivial⟩
  | [], _ :: _, h => by cases h
  | _ :: _, [], h => by cases h
  | k :: ks, v :: vs, h => by
    rw [okKVs, Bool.and_eq_true] at h
    obtain ⟨ps, e, hp⟩ := prs_of (env := env) (pos := pos) ks vs h.2
    have h1 := h.1
    unfold kvOk at h1
    split at h1
    · rename_i k' n1 p1 x n2 p2
      refine ⟨(eval (.Constant (.int k') n1 p1) env, do let y ← eval (.Constant (.str x) n2 p2) env; standAt pos; pure y) :: ps, ?_, ⟨?_, ?_⟩, hp⟩
      · rw [List.map_cons, ← e]
        rfl
      · intro M A Q E s hq
        exact wpAny_Constant_int (env := env) (k := n1) (pos := p1) hq
      · intro M A Q E s hq
        exact wpAny_bind (wpAny_Constant_str (env := env) (k := n2) (pos := p2) (wpAny_bind (wpAny_standAt (wpAny_pure (by cases x; exact hq)))))
    · cases h1
noncomputable def b3kv : List (Int × List Nat) := kvL keys10 vals10
theorem ok10 : okKVs keys10 vals10 = true := by decide +kernel
noncomputable def incr : List (Int × List Nat) → Bool
  | a :: b :: r => decide (a.1 < b.1) && incr (b :: r)
  | _ => true
theorem incr_pw : ∀ {l : List (Int × List Nat)}, incr l = true → (l.map (·.1)).Pairwise (· < ·)
  | [], _ => List.Pairwise.nil
  | [a], _ => by simp
  | a :: b :: r, h => by
    rw [incr, Bool.and_eq_true, decide_eq_true_eq] at h
    have ih := incr_pw h.2
    rw [List.map_cons, List.map_cons]
    rw [List.map_cons] at ih
    refine List.Pairwise.cons (fun c hc => ?_) ih
    rcases List.mem_cons.mp hc with rfl | hc
    · exact h.1
    · exact Int.lt_trans h.1 ((List.pairwise_cons.mp ih).1 c hc)
theorem inc10 : incr b3kv = true := by decide +kernel
theorem nodup10 : (b3kv.map (·.1)).Nodup := (incr_pw inc10).imp (fun h => Int.ne_of_lt h)
theorem len10 : b3kv.length = 650 := by decide +kernel
noncomputable def xs39 (x : Nat → Obj) : List Obj := [x 0, x 1, x 2, x 3, x 4, x 5, x 6, x 7, x 8, x 9, x 10, x 11, x 12, x 13, x 14, x 15, x 16, x 17, x 18, x 19, x 20, x 21, x 22, x 23, x 24, x 25, x 26, x 27, x 28, x 29, x 30, x 31, x 32, x 33, x 34, x 35, x 36, x 37, x 38]
theorem xs39_eq (L : List Obj) (h : L.length = 39) : L = xs39 fun i => L.getD i (dO #[] 0) := by
  have : xs39 (fun i => L.getD i (dO #[] 0)) = (List.range 39).map fun i => L.getD i (dO #[] 0) := rfl
  rw [this]
  apply List.ext_getElem?
  intro i
  rw [List.getElem?_map]
  by_cases q : i < 39
  · rw [List.getElem?_range q, Option.map_some, List.getD_eq_getElem?_getD, List.getElem?_eq_getElem (by lia)]
    rfl
  · rw [List.getElem?_eq_none (by lia), List.getElem?_eq_none (by simp; lia)]
    rfl
theorem run_s (w : World) (os : OsState) (Γ : Ctx) (p : Pos) (x : Nat → Obj) : big (denote treeTable) pwT w 1000 _ Γ (storeName envT "b3_exceptions" (.ref 107)) p ⟨⟨⟨(Hp.h9 w.params).objs.toList ++ xs39 x⟩, {}⟩, #[], {}, 2411, os⟩ = some (.ok (), p, ⟨Hp.h10 w.params x, #[], {}, 2412, os⟩) := by
  rw [den_q]
  kernel_rfl
noncomputable def TabX (x : Nat → Obj) : Prop := ∃ em nm, x 0 = dO em nm ∧ Ents em.toList b3kv
theorem st10_eq : ∃ p1 p2, defAt 10 = .Assign [.Name "b3_exceptions" p1] (.Dict keys10 vals10 pos10) p2 := ⟨_, _, rfl⟩
structure AnyT (w : World) (st : Stmt) (P : Shared → Prop) (s : Shared) : Prop where
  h : ∀ A, wpAny (model pwT w) A (exec st envT) (fun f s => f = .next ∧ P s) (fun _ _ => False) s
theorem piece10 (w : World) (os : OsState) : AnyT w (defAt 10) (fun s => ∃ x, TabX x ∧ s = ⟨Hp.h10 w.params x, #[], {}, 2412, os⟩) ⟨Hp.h9 w.params, #[], {}, 461, os⟩ := by
  constructor
  intro A
  obtain ⟨p1, p2, e⟩ := st10_eq
  rw [e]
  have hl : (Hp.h9 w.params).objs.toList.length = 107 := rfl
  have hb : sysModules < (Hp.h9 w.params).objs.toList.length := by rw [hl]; decide
  obtain ⟨ps, hps, hp⟩ := prs_of (env := envT) (pos := pos10) keys10 vals10 ok10
  refine wpAny_Assign_Name ?_
  rw [arm_eval_Dict, hps]
  refine wpAny_bind (wpAny_standAt ?_)
  have hs : (⟨Hp.h9 w.params, #[], {}, 461, os⟩ : Shared) = SL (Hp.h9 w.params).objs.toList [] 461 os := rfl
  rw [hs]
  have hne : b3kv ≠ [] := fun q => by have := len10; rw [q] at this; cases this
  refine display_new hb hp hne nodup10 (by rw [show (kvL keys10 vals10).length = 650 from len10]; decide) fun L em nm h0 he hL => ?_
  rw [show (kvL keys10 vals10).length = 650 from len10] at hL ⊢
  rw [hl, xs39_eq L hL]
  intro Γ p hΓ
  have hm : model pwT w = ⟨denote treeTable, pwT, w⟩ := by unfold model; rw [table_eq_tree]
  rw [hm]
  refine big_sound _ _ _ _ _ _ _ (run_s w os Γ p _) _ _ ⟨rfl, _, ⟨em, nm, ?_, he⟩, rfl⟩
  rw [List.getD_eq_getElem?_getD, h0]
  rfl
end Mine
end
section
set_option tactic.hygienic false
set_option hygiene false
set_option maxRecDepth 100000
namespace Mine
theorem model_eq (w : World) : model pwT w = ⟨denote treeTable, pwT, w⟩ := by unfold model; rw [table_eq_tree]
section
variable {M : Model} {Γ : Ctx} {env : Env} {Q : Flow → Pos → Shared → Prop} {E : Value → Pos → Shared → Prop}
theorem wp_execs_app : ∀ (l rest : List Stmt) (p : Pos) (s : Shared), Sem.wp M Γ (execs l env) (fun f p' s' => f = .next ∧ Sem.wp M Γ (execs rest env) Q E p' s') (fun _ _ _ => False) p s → Sem.wp M Γ (execs (l ++ rest) env) Q E p s
  | [], rest, p, s, h => by
    have h : (Flow.next = Flow.next ∧ Sem.wp M Γ (execs rest env) Q E p s) := h
    exact h.2
  | st :: l, rest, p, s, h => by
    rw [List.cons_append, execs_cons, Sem.wp_bind'] at *
    refine Sem.wp_mono M Γ _ (fun f p' s' h' => ?_) (fun _ _ _ h' => h'.elim) p s h
    cases f with
    | next => exact wp_execs_app l rest p' s' h'
    | _ => exact nomatch (show _ ∧ _ from h').1
end
noncomputable def inA (Γ : Ctx) : Around := ⟨Γ.handled, frameCount Γ.below + Γ.code.weight, none, none, Γ.code.cUnits + unitsOf Γ.below⟩
theorem in_inA (Γ : Ctx) : Γ.In (inA Γ) := ⟨rfl, Nat.le_refl _, fun _ h => (nomatch h), fun _ h => (nomatch h), Nat.le_refl _⟩
theorem body_split : bodyT = ((List.range' 1 2).map defAt) ++ ([defAt 3] ++ (((List.range' 4 4).map defAt) ++ ([defAt 8] ++ ([defAt 9] ++ ([defAt 10] ++ (((List.range' 11 6).map defAt) ++ ([defAt 17] ++ ((List.range' 18 11).map defAt)))))))) := rfl
theorem use_run {w : World} {Γ : Ctx} {n : Nat} {α : Type} {x : Sem α} {a : α} {p p' : Pos} {s s' : Shared} {Q : α → Pos → Shared → Prop} {E : Value → Pos → Shared → Prop} (h : big (denote treeTable) pwT w n α Γ x p s = some (.ok a, p', s')) (hQ : Q a p' s') : Sem.wp (model pwT w) Γ x Q E p s := by
  rw [model_eq]
  exact big_sound _ _ _ _ _ _ _ h Q E hQ
structure WT (w : World) (l : List Stmt) (Q : Flow → Pos → Shared → Prop) (E : Value → Pos → Shared → Prop) (p : Pos) (s : Shared) : Prop where
  h : Sem.wp (model pwT w) ΓT (execs l envT) Q E p s
section
variable {w : World} {l rest : List Stmt} {st : Stmt} {p p' : Pos} {s s' : Shared} {Q : Flow → Pos → Shared → Prop} {E : Value → Pos → Shared → Prop}
theorem WT.chain (h : bigT w (execs l envT) p s = some (.ok .next, p', s')) (hQ : WT w rest Q E p' s') : WT w (l ++ rest) Q E p s := ⟨wp_execs_app l rest p s (use_run h ⟨rfl, hQ.h⟩)⟩
theorem WT.last (h : bigT w (execs l envT) p s = some (.ok .next, p', s')) (hQ : Q .next p' s') : WT w l Q E p s := ⟨use_run h hQ⟩
theorem WT.step {P : Shared → Prop} (h : AnyT w st P s) (hQ : ∀ p' s', P s' → WT w rest Q E p' s') : WT w ([st] ++ rest) Q E p s := by
  refine ⟨wp_execs_app _ _ _ _ ?_⟩
  rw [execs_cons, Sem.wp_bind']
  refine Sem.wp_mono _ _ _ (fun f p' s' h' => ?_) (fun _ _ _ h' => h') _ _ (h.h _ ΓT _ (in_inA ΓT))
  obtain ⟨rfl, h'⟩ := h'
  show Sem.wp _ _ (execs [] envT) _ _ _ _
  rw [execs_nil, Sem.wp_pure']
  exact ⟨rfl, (hQ _ _ h').h⟩
end
theorem body_wp (w : World) (os : OsState) {E : Value → Pos → Shared → Prop} {Q : Flow → Pos → Shared → Prop} (p : Pos) (hQ : ∀ x p', TabX x → Q .next p' ⟨Hp.h28 w.params x, #[], {}, 2759, os⟩) :
    WT w bodyT Q E p ⟨Hp.hb w.params, #[], {}, 282, os⟩ := by
  have wf := World.withFollow_self w row1
  have ra := run_a w os p (w.params.followText row1)
  have rb := run_b w os ⟨5, 0, 5, 8⟩ (w.params.followText row1)
  have rd := run_d w os ⟨63, 0, 63, 8⟩ (w.params.followText row1)
  rw [wf] at ra rb rd
  rw [body_split]
  refine WT.chain ra (WT.chain rb (WT.chain (run_c w os _) (WT.chain rd (WT.chain (run_e w os _) (WT.step (piece10 w os) fun p' s' h' => ?_)))))
  obtain ⟨x, hx, rfl⟩ := h'
  exact WT.chain (run_f w os _ x) (WT.chain (run_g w os _ x) (WT.last (run_h w os _ x) (hQ x _ hx)))
theorem den_body (tb : String → Option Builtin) (b : List Stmt) (env : Env) : denote tb (.body b env) = (do blockStart b env; let f ← (execs b env).onRaise (leaving env); pure (Fin.done f)) := rfl
theorem top_wp (w : World) (os : OsState) {R : Result → Shared → Prop} (hR : ∀ x, TabX x → R (.ok (.ret .none)) ⟨Hp.h28 w.params x, #[], {}, 2759, os⟩) :
    Sem.wp (model pwT w) ΓS (topStub pwT).cur (Sem.finPost (model pwT w) ΓS R) (fun e _ s' => R (.error e) s') default ⟨Hp.h0 w.params, #[], {}, 276, os⟩ := by
  unfold topStub
  dsimp only
  rw [body_eq, Sem.wp_bind']
  refine use_run (run_p w os) ?_
  rw [Sem.wp_bind']
  refine use_run (run_q w os) ?_
  rw [Sem.wp_bind']
  unfold run
  rw [Sem.wp_call]
  have key : Sem.wp (model pwT w) ΓT (denote table (.body bodyT envT)) (Sem.finPost (model pwT w) ΓT fun r s => r = .ok .next ∧ ∃ x, TabX x ∧ s = ⟨Hp.h28 w.params x, #[], {}, 2759, os⟩) (fun e _ s' => False) default ⟨Hp.hb w.params, #[], {}, 282, os⟩ := by
    rw [den_body, Sem.wp_bind']
    refine use_run (run_r w os) ?_
    rw [Sem.wp_bind', Sem.wp_onRaise]
    exact (body_wp w os _ fun x p' hx => ⟨rfl, x, hx, rfl⟩).h
  have key' := (Sem.wp_iff_runs _ _ _ (fun r s => r = .ok .next ∧ ∃ x, TabX x ∧ s = ⟨Hp.h28 w.params x, #[], {}, 2759, os⟩) _ _).mp (Sem.wp_mono _ _ _ (fun _ _ _ h => h) (fun _ _ _ h => h.elim) _ _ key)
  obtain ⟨r, s', hr, rfl, x, hx, rfl⟩ := key'
  refine ⟨.ok .next, _, hr, ?_⟩
  exact hR x hx
end Mine
end
section
set_option tactic.hygienic false
set_option hygiene false
set_option maxRecDepth 100000
set_option maxHeartbeats 4000000
namespace Mine
theorem halted_last {den : Code → Sem Fin} {p : Program} {w : World} {o : Outcome} : ∀ (n : Nat) (s : Shared) (t : Thread) (s' : Shared), runN den p w n s t = .halted o s' → ∃ m s₂ t₂, runN den p w m s t = .running s₂ t₂ ∧ step den p w s₂ t₂ = .halt o s'
  | 0, _, _, _, h => by cases h
  | n + 1, s, t, s', h => by
    simp only [runN] at h
    cases hs : step den p w s t with
    | halt o₂ s₂ => rw [hs] at h; cases h; exact ⟨0, s, t, rfl, hs⟩
    | go s₂ t₂ =>
      rw [hs] at h
      obtain ⟨m, s₃, t₃, h1, h2⟩ := halted_last n s₂ t₂ s' h
      exact ⟨m + 1, s₃, t₃, by simp only [runN, hs]; exact h1, h2⟩
noncomputable def doneB : Step → Bool
  | .halt (.done _) _ => true
  | _ => false
theorem through_of {den : Code → Sem Fin} {p : Program} {w : World} {s s' : Shared} {t : Thread} {f : Flow} (h : step den p w s t = .halt (.done f) s') : through t = true := by
  have hd : doneB (step den p w s t) = true := by rw [h]; rfl
  clear h
  obtain ⟨heap, gens, drawn, toks, os⟩ := s
  obtain ⟨cur, code, pos, stack⟩ := t
  cases cur with
  | pure fin =>
    cases fin with
    | again c => exact absurd hd (by exact Bool.false_ne_true)
    | done f =>
      cases stack with
      | nil => rfl
      | cons fr r => cases fr <;> exact absurd hd Bool.false_ne_true
  | raise e =>
    cases stack with
    | nil =>
      refine absurd hd ?_
      unfold step finish
      dsimp only
      split <;> exact Bool.false_ne_true
    | cons fr r => cases fr <;> exact absurd hd Bool.false_ne_true
  | finish e =>
    refine absurd hd ?_
    unfold step
    dsimp only
    split <;> exact Bool.false_ne_true
  | load a part k =>
    refine absurd hd ?_
    unfold step
    dsimp only
    cases heap.get? a <;> exact Bool.false_ne_true
  | update a part f k =>
    refine absurd hd ?_
    unfold step
    dsimp only
    split <;> exact Bool.false_ne_true
  | choose src n k =>
    refine absurd hd ?_
    unfold step
    dsimp only
    split <;> exact Bool.false_ne_true
  | genState g k =>
    refine absurd hd ?_
    unfold step
    dsimp only
    cases gens[g]? <;> exact Bool.false_ne_true
  | _ => first | exact absurd hd Bool.false_ne_true | (refine absurd hd ?_; unfold step; dsimp only; repeat' split) <;> exact Bool.false_ne_true
theorem forget_nil {s s' : Shared} (h : s.forget = s'.forget) (g : s'.gens = #[]) : s = s' := by
  obtain ⟨heap, gens, drawn, toks, os⟩ := s
  obtain ⟨heap', gens', drawn', toks', os'⟩ := s'
  unfold Shared.forget at h
  simp only [Shared.mk.injEq] at h
  obtain ⟨rfl, h2, rfl, rfl, rfl⟩ := h
  dsimp only at g
  subst g
  have : gens.size = 0 := by simpa using congrArg Array.size h2
  rw [Array.eq_empty_of_size_eq_zero this]
theorem top_runs {M : Model} {c : Code} {t : Sem Fin} {p : Pos} {s : Shared} {P : Shared → Prop} (hreg : s.asleep) (hP : ∀ s', P s' → s'.gens = #[])
    (h : Sem.wp M ⟨c, none, none, [], none⟩ t (Sem.finPost M ⟨c, none, none, [], none⟩ fun r s' => r = .ok (.ret .none) ∧ P s') (fun e _ s' => Except.error e = (.ok (.ret .none) : Result) ∧ P s') p s) :
    ∃ n t' s', schedN M.den M.prog M.w n (.single s ⟨t, c, p, []⟩) = .running (.single s' t') ∧ through t' = true ∧ P s' := by
  have hl : ∀ s', P s' → leftWithCleanup s'.gens = false := fun s' h' => by rw [hP s' h']; simp [leftWithCleanup]
  have h' : Sem.wp M ⟨c, none, none, [], none⟩ t (Sem.finPost M ⟨c, none, none, [], none⟩ fun r s' => (r = .ok (.ret .none) ∧ P s') ∧ leftWithCleanup s'.gens = false) (fun e _ s' => (Except.error e = (.ok (.ret .none) : Result) ∧ P s') ∧ leftWithCleanup s'.gens = false) p s :=
    (Sem.wp_iff_runs M _ t (fun r s' => (r = .ok (.ret .none) ∧ P s') ∧ leftWithCleanup s'.gens = false) p s).mpr (by
      obtain ⟨r, s', h1, h2⟩ := (Sem.wp_iff_runs M _ t (fun r s' => r = .ok (.ret .none) ∧ P s') p s).mp h
      exact ⟨r, s', h1, h2, hl _ h2.2⟩)
  obtain ⟨n, r, s', hn, rfl, hp⟩ := (wp_iff_halts (R := fun r s' => r = .ok (.ret .none) ∧ P s') t p s).mp h'
  have hends : (outcomeOf (.ok (.ret .none))).ends = true := rfl
  obtain ⟨s'', hr, hf, hc⟩ := runNI_real M.den M.prog M.w hn hends
  have hne : ∀ k s₂, PySem.runN M.den M.prog M.w k s ⟨t, c, p, []⟩ ≠ .halted (.unsupported "lifetime:generator-with-cleanup-left-suspended") s₂ := by
    intro k s₂ hk
    have a := runN_mono M.den M.prog M.w n k s _ _ s'' hr
    have b := runN_mono M.den M.prog M.w k n s _ _ s₂ hk
    rw [Nat.add_comm, b] at a
    cases a
  obtain ⟨m, s₂, t₂, h1, h2⟩ := halted_last n s _ s'' hr
  obtain rfl := step_halt_same _ _ _ _ _ _ _ h2
  have he := forget_nil hf (hP _ hp)
  subst he
  refine ⟨m, t₂, _, ?_, through_of h2, hp⟩
  rw [schedN_eq_runN M.den M.prog M.w s ⟨t, c, p, []⟩ hreg ⟨hc, hne⟩ m, h1]
  rfl
noncomputable abbrev S0 (w : World) (os : OsState) : Shared := ⟨Hp.h0 w.params, #[], {}, 276, os⟩
noncomputable abbrev S28 (w : World) (os : OsState) (x : Nat → Obj) : Shared := ⟨Hp.h28 w.params x, #[], {}, 2759, os⟩
theorem top_ran (w : World) (os : OsState) : ∃ x, TabX x ∧ ∃ n t, schedN (denote table) pwT w n (.single (S0 w os) (topStub pwT)) = .running (.single (S28 w os x) t) ∧ through t = true := by
  obtain ⟨n, t', s', h1, h2, x, hx, rfl⟩ := top_runs (M := model pwT w) (s := S0 w os) (P := fun s => ∃ x, TabX x ∧ s = S28 w os x) (t := (topStub pwT).cur) (c := .builtin "claim.caller" {}) (p := default) ⟨rfl, rfl⟩ (fun s' hpat => by obtain ⟨x, _, e⟩ := hpat; rw [e]) (top_wp w os (R := fun r s' => r = .ok (.ret .none) ∧ ∃ x, TabX x ∧ s' = S28 w os x) fun x hx => ⟨rfl, x, hx, rfl⟩)
  exact ⟨x, hx, n, t', h1, h2⟩
end Mine
end
section
set_option tactic.hygienic false
set_option hygiene false
set_option maxRecDepth 100000
set_option maxHeartbeats 4000000
namespace Mine
noncomputable abbrev modsT : List Str := importedModules pwT.main.body
theorem lk_statics (P : Params) (x : Nat → Obj) : staticsOk modsT (Hp.h0 P) (Hp.h28 P x) = true := by kernel_rfl
theorem lk_names (P : Params) (x : Nat → Obj) : namesBound pwT (Hp.h28 P x) = true := by kernel_rfl
theorem lk_laid (P : Params) (x : Nat → Obj) : laidKept (Hp.h0 P) (Hp.h28 P x) = true := by kernel_rfl
theorem lk_acc (P : Params) (x : Nat → Obj) : (Hp.h28 P x).accountedOkI modsT = true := by kernel_rfl
theorem lk_ns (P : Params) (x : Nat → Obj) : ((Hp.h28 P x).isNs mainGlobals && (Hp.h28 P x).isNs builtinsNs && (Hp.h28 P x).bmainOk) = true := by kernel_rfl
theorem lk_blt (P : Params) (x : Nat → Obj) : (Hp.h28 P x).bltView = bltViewBooted := by kernel_rfl
theorem old_kept (P : Params) (x : Nat → Obj) : ∀ b o, (Hp.h0 P).get? b = some o → b ≠ mainNs → b ≠ cStatics → (Hp.h28 P x).get? b = some o := by
  intro b o h h3 h2
  have e : ∀ b, b < 28 → b ≠ 3 → b ≠ 2 → (Hp.h28 P x).objs[b]? = (Hp.h0 P).objs[b]? := by
    intro b hb n3 n2
    have l1 : (Hp.h28 P x).objs.toList.take 2 = (Hp.h0 P).objs.toList.take 2 := rfl
    have l2 : ((Hp.h28 P x).objs.toList.drop 4).take 24 = (Hp.h0 P).objs.toList.drop 4 := rfl
    rw [← Array.getElem?_toList, ← Array.getElem?_toList]
    by_cases q : b < 2
    · have := congrArg (·[b]?) l1
      simpa [List.getElem?_take, q] using this
    · obtain ⟨k, rfl⟩ : ∃ k, b = 4 + k := ⟨b - 4, by lia⟩
      have := congrArg (·[k]?) l2
      simp only [List.getElem?_take, show k < 24 by lia, if_true, List.getElem?_drop] at this
      exact this
  have hb : b < 28 := Heap.lt_size h
  have := e b hb h3 h2
  unfold Heap.get? at h ⊢
  rw [this]
  exact h
theorem topRan (w : World) (os : OsState) : ∃ x, TabX x ∧ TopRan pwT w (S0 w os) (S28 w os x) := by
  obtain ⟨x, hx, hr⟩ := top_ran w os
  have hns := lk_ns w.params x
  simp only [Bool.and_eq_true] at hns
  obtain ⟨⟨hg, hb⟩, hm⟩ := hns
  refine ⟨x, hx, hr, rfl, Shared.rest_eq rfl, fun b o h hn => old_kept w.params x b o h (fun q => hn (.inl q)) (fun q => hn (.inr (.inl q))), Heap.accountedI_of_ok (lk_acc _ _), statics_of_ok (lk_statics _ _), Pin.keysAreStrs_of hg, fun y hy => (Pin.builtinOf_eq hb y).trans (Heap.of_bltView hb (lk_blt _ _) y hy), ?_, fun g hg => absurd (Array.mem_toList_iff.mpr hg) (List.not_mem_nil), names_of_bound (lk_names _ _), laid_of_kept (lk_laid _ _)⟩
  obtain ⟨bm, ob, a, _, c, d, f, _⟩ := Heap.bmainOk_spec hm
  exact ⟨bm, ob, (Pin.globalOf_eq hg _).trans a, c, d, f⟩
noncomputable def os0 : OsState := (start (opening pwT)).1.os
theorem after_0 (w : World) : AfterRun (opening pwT) w ⟨Hp.hi w.params, #[], {}, 276, os0⟩ := by
  have h := run_0 w
  rw [← table_eq_tree] at h
  exact AfterImport.of_importEnds h
end Mine
end
section
set_option maxRecDepth 100000
set_option maxHeartbeats 4000000
namespace Mine
noncomputable abbrev Keep (P : Params) (x : Nat → Obj) (H : Heap) : Prop := ∀ b o, (Hp.h28 P x).get? b = some o → H.get? b = some o
noncomputable def fdOf (o : Obj) : FuncData := match o.data with | .func fd => fd | _ => default
noncomputable def isS : Option Value → Str → Bool
  | some (.str y _), q => y == q
  | _, _ => false
noncomputable def codeOk (oc : Obj) (q : Str) : Bool := oc.cls == .type "code" && match oc.data with | .fields vs => isS vs[1]? q | _ => false
noncomputable def fnE (o : Obj) (q : Str) (st : Stmt) (dfl : Value) (c : Addr) : FuncData := fnX (nameOf st) q (paramsOf st) (bodyOf st) (scopeOf st) [] dfl .none (fdOf o).doc (fdOf o).pyModule (fdOf o).annotations (.ref c) (fdOf o).closureTuple
theorem fnAt_of {P : Params} {x : Nat → Obj} {W : Wd} (k : Keep P x W.h₁) {a c : Addr} {o oc : Obj} {q : Str} {st : Stmt} {dfl : Value} (e1 : (Hp.h28 P x).get? a = some o) (e2 : (Hp.h28 P x).get? c = some oc) (e3 : o.data = .func (fnE o q st dfl c))
    (e4 : (o.cls == .type "function" && codeOk oc q && !(scopeOf st).isCoroutine && !(scopeOf st).isGenerator) = true) : FnAt W a (fnE o q st dfl c) (bodyOf st) := by
  simp only [Bool.and_eq_true, beq_iff_eq, Bool.not_eq_true'] at e4
  obtain ⟨⟨⟨f1, f2⟩, f3⟩, f4⟩ := e4
  unfold codeOk at f2
  simp only [Bool.and_eq_true, beq_iff_eq] at f2
  obtain ⟨f5, f6⟩ := f2
  refine ⟨⟨o, k _ _ e1, by rw [f1]; exact (fun z => by cases z), e3⟩, rfl, ?_, f3, f4, rfl⟩
  split at f6
  · rename_i vs hv
    unfold isS at f6
    split at f6
    · rename_i y t hy
      exact ⟨c, oc, vs, t, rfl, k _ _ e2, by rw [f5]; exact (fun z => by cases z), hv, by rw [hy, beq_iff_eq.mp f6]; rfl⟩
    · cases f6
  · cases f6
theorem Fn.of {W : Wd} {a c : Addr} {o : Obj} {q : Str} {st : Stmt} (h : FnAt W a (fnE o q st .none c) (bodyOf st)) : Fn W a q st := ⟨⟨_, _, _, _, _, h⟩⟩
theorem fn46 (P : Params) (x : Nat → Obj) (W : Wd) (k : Keep P x W.h₁) : FnAt W 46 (fnE (Hp.o46 P) "pretty_flags" (defAt 4) (.none) 45) (bodyOf (defAt 4)) :=
  fnAt_of k (o := Hp.o46 P) (oc := Hp.o45 P) (by kernel_rfl) (by kernel_rfl) (by kernel_rfl) (by kernel_rfl)
theorem fn60 (P : Params) (x : Nat → Obj) (W : Wd) (k : Keep P x W.h₁) : FnAt W 60 (fnE (Hp.o60 P) "_netrclex.__init__" (methAt 6 0) (.none) 59) (bodyOf (methAt 6 0)) :=
  fnAt_of k (o := Hp.o60 P) (oc := Hp.o59 P) (by kernel_rfl) (by kernel_rfl) (by kernel_rfl) (by kernel_rfl)
theorem fn67 (P : Params) (x : Nat → Obj) (W : Wd) (k : Keep P x W.h₁) : FnAt W 67 (fnE (Hp.o67 P) "_netrclex._read_char" (methAt 6 1) (.none) 66) (bodyOf (methAt 6 1)) :=
  fnAt_of k (o := Hp.o67 P) (oc := Hp.o66 P) (by kernel_rfl) (by kernel_rfl) (by kernel_rfl) (by kernel_rfl)
theorem fn74 (P : Params) (x : Nat → Obj) (W : Wd) (k : Keep P x W.h₁) : FnAt W 74 (fnE (Hp.o74 P) "_netrclex.get_token" (methAt 6 2) (.none) 73) (bodyOf (methAt 6 2)) :=
  fnAt_of k (o := Hp.o74 P) (oc := Hp.o73 P) (by kernel_rfl) (by kernel_rfl) (by kernel_rfl) (by kernel_rfl)
theorem fn81 (P : Params) (x : Nat → Obj) (W : Wd) (k : Keep P x W.h₁) : FnAt W 81 (fnE (Hp.o81 P) "_netrclex.push_token" (methAt 6 3) (.none) 80) (bodyOf (methAt 6 3)) :=
  fnAt_of k (o := Hp.o81 P) (oc := Hp.o80 P) (by kernel_rfl) (by kernel_rfl) (by kernel_rfl) (by kernel_rfl)
theorem fn106 (P : Params) (x : Nat → Obj) (W : Wd) (k : Keep P x W.h₁) : FnAt W 106 (fnE (Hp.o106 P) "in_table_b1" (defAt 9) (.none) 105) (bodyOf (defAt 9)) :=
  fnAt_of k (o := Hp.o106 P) (oc := Hp.o105 P) (by kernel_rfl) (by kernel_rfl) (by kernel_rfl) (by kernel_rfl)
theorem fn152 (P : Params) (x : Nat → Obj) (W : Wd) (k : Keep P x W.h₁) : FnAt W 152 (fnE (Hp.o152 P) "map_table_b3" (defAt 11) (.none) 151) (bodyOf (defAt 11)) :=
  fnAt_of k (o := Hp.o152 P) (oc := Hp.o151 P) (by kernel_rfl) (by kernel_rfl) (by kernel_rfl) (by kernel_rfl)
theorem fn190 (P : Params) (x : Nat → Obj) (W : Wd) (k : Keep P x W.h₁) : FnAt W 190 (fnE (Hp.o190 P) "Headers.__init__" (methAt 17 0) (.ref 183) 189) (bodyOf (methAt 17 0)) :=
  fnAt_of k (o := Hp.o190 P) (oc := Hp.o189 P) (by kernel_rfl) (by kernel_rfl) (by kernel_rfl) (by kernel_rfl)
theorem fn197 (P : Params) (x : Nat → Obj) (W : Wd) (k : Keep P x W.h₁) : FnAt W 197 (fnE (Hp.o197 P) "Headers._convert_string_type" (methAt 17 1) (.none) 196) (bodyOf (methAt 17 1)) :=
  fnAt_of k (o := Hp.o197 P) (oc := Hp.o196 P) (by kernel_rfl) (by kernel_rfl) (by kernel_rfl) (by kernel_rfl)
theorem fn235 (P : Params) (x : Nat → Obj) (W : Wd) (k : Keep P x W.h₁) : FnAt W 235 (fnE (Hp.o235 P) "Headers.get_all" (methAt 17 7) (.none) 234) (bodyOf (methAt 17 7)) :=
  fnAt_of k (o := Hp.o235 P) (oc := Hp.o234 P) (by kernel_rfl) (by kernel_rfl) (by kernel_rfl) (by kernel_rfl)
theorem fn293 (P : Params) (x : Nat → Obj) (W : Wd) (k : Keep P x W.h₁) : FnAt W 293 (fnE (Hp.o293 P) "Headers.add_header" (methAt 17 16) (.none) 292) (bodyOf (methAt 17 16)) :=
  fnAt_of k (o := Hp.o293 P) (oc := Hp.o292 P) (by kernel_rfl) (by kernel_rfl) (by kernel_rfl) (by kernel_rfl)
theorem fn307 (P : Params) (x : Nat → Obj) (W : Wd) (k : Keep P x W.h₁) : FnAt W 307 (fnE (Hp.o307 P) "_law_lexer" (defAt 19) (.none) 306) (bodyOf (defAt 19)) :=
  fnAt_of k (o := Hp.o307 P) (oc := Hp.o306 P) (by kernel_rfl) (by kernel_rfl) (by kernel_rfl) (by kernel_rfl)
theorem fn312 (P : Params) (x : Nat → Obj) (W : Wd) (k : Keep P x W.h₁) : FnAt W 312 (fnE (Hp.o312 P) "_law_prepared" (defAt 20) (.none) 311) (bodyOf (defAt 20)) :=
  fnAt_of k (o := Hp.o312 P) (oc := Hp.o311 P) (by kernel_rfl) (by kernel_rfl) (by kernel_rfl) (by kernel_rfl)
theorem fn319 (P : Params) (x : Nat → Obj) (W : Wd) (k : Keep P x W.h₁) : FnAt W 319 (fnE (Hp.o319 P) "_law_typed" (defAt 21) (.none) 318) (bodyOf (defAt 21)) :=
  fnAt_of k (o := Hp.o319 P) (oc := Hp.o318 P) (by kernel_rfl) (by kernel_rfl) (by kernel_rfl) (by kernel_rfl)
theorem fn324 (P : Params) (x : Nat → Obj) (W : Wd) (k : Keep P x W.h₁) : FnAt W 324 (fnE (Hp.o324 P) "_law_written" (defAt 22) (.none) 323) (bodyOf (defAt 22)) :=
  fnAt_of k (o := Hp.o324 P) (oc := Hp.o323 P) (by kernel_rfl) (by kernel_rfl) (by kernel_rfl) (by kernel_rfl)
theorem fn329 (P : Params) (x : Nat → Obj) (W : Wd) (k : Keep P x W.h₁) : FnAt W 329 (fnE (Hp.o329 P) "_law_drawn" (defAt 23) (.none) 328) (bodyOf (defAt 23)) :=
  fnAt_of k (o := Hp.o329 P) (oc := Hp.o328 P) (by kernel_rfl) (by kernel_rfl) (by kernel_rfl) (by kernel_rfl)
theorem fn336 (P : Params) (x : Nat → Obj) (W : Wd) (k : Keep P x W.h₁) : FnAt W 336 (fnE (Hp.o336 P) "_law_word" (defAt 24) (.none) 335) (bodyOf (defAt 24)) :=
  fnAt_of k (o := Hp.o336 P) (oc := Hp.o335 P) (by kernel_rfl) (by kernel_rfl) (by kernel_rfl) (by kernel_rfl)
theorem fn341 (P : Params) (x : Nat → Obj) (W : Wd) (k : Keep P x W.h₁) : FnAt W 341 (fnE (Hp.o341 P) "_law_shelved" (defAt 25) (.none) 340) (bodyOf (defAt 25)) :=
  fnAt_of k (o := Hp.o341 P) (oc := Hp.o340 P) (by kernel_rfl) (by kernel_rfl) (by kernel_rfl) (by kernel_rfl)
theorem fn346 (P : Params) (x : Nat → Obj) (W : Wd) (k : Keep P x W.h₁) : FnAt W 346 (fnE (Hp.o346 P) "_law_overlaps" (defAt 26) (.none) 345) (bodyOf (defAt 26)) :=
  fnAt_of k (o := Hp.o346 P) (oc := Hp.o345 P) (by kernel_rfl) (by kernel_rfl) (by kernel_rfl) (by kernel_rfl)
theorem fn351 (P : Params) (x : Nat → Obj) (W : Wd) (k : Keep P x W.h₁) : FnAt W 351 (fnE (Hp.o351 P) "_law_due" (defAt 27) (.none) 350) (bodyOf (defAt 27)) :=
  fnAt_of k (o := Hp.o351 P) (oc := Hp.o350 P) (by kernel_rfl) (by kernel_rfl) (by kernel_rfl) (by kernel_rfl)
theorem fn356 (P : Params) (x : Nat → Obj) (W : Wd) (k : Keep P x W.h₁) : FnAt W 356 (fnE (Hp.o356 P) "law" (defAt 28) (.none) 355) (bodyOf (defAt 28)) :=
  fnAt_of k (o := Hp.o356 P) (oc := Hp.o355 P) (by kernel_rfl) (by kernel_rfl) (by kernel_rfl) (by kernel_rfl)end Mine
end
section
set_option maxRecDepth 100000
set_option maxHeartbeats 4000000
namespace Mine
noncomputable def lookT (l : List (Int × List Nat)) (i : Int) : Option (List Nat) := (l.find? fun kv => kv.1 == i).map (·.2)
noncomputable def Sees (v : Option Value) (r : Option (List Nat)) : Prop := match r with
  | some x => ∃ t, v = some (.str (st x) t)
  | none => v = none
theorem look_ents : ∀ {es : List DictEntry} {l : List (Int × List Nat)}, Ents es l → ∀ i : Int, Sees ((es.find? fun e => Value.isInt i e.key).map (·.val)) (lookT l i)
  | [], [], _, i => (rfl : (none : Option Value) = none)
  | e :: es, kv :: l, h, i => by
    obtain ⟨⟨t, t', rfl⟩, h2⟩ := h
    have ih := look_ents h2 i
    unfold lookT at ih ⊢
    rw [List.find?_cons, List.find?_cons]
    dsimp only
    have e1 : Value.isInt i (.int kv.1 t) = (kv.1 == i) := rfl
    rw [e1]
    cases q : (kv.1 == i)
    · exact ih
    · exact ⟨t', rfl⟩
  | [], _ :: _, h, _ => h.elim
  | _ :: _, [], h, _ => h.elim
theorem tabF_of {W : Wd} {d : Addr} {em : Array DictEntry} {nm : Nat} {l : List (Int × List Nat)} (hs : (d == sysModules) = false) (h : W.h₁.get? d = some (dO em nm)) (E : Ents em.toList l) : TabF W d (lookT l) := by
  refine ⟨hs, ⟨_, h, (fun z => by cases z), rfl⟩, fun i => findBy Value.isInt em i, ⟨_, em, nm, h, ⟨rfl, rfl, rfl⟩, rfl, fun e he => ?_, fun k => rfl⟩, fun i => ?_⟩
  · obtain ⟨kv, _, t, t', rfl⟩ := E.mem (Array.mem_toList_iff.mpr he)
    exact ⟨kv.1, by show (kv.1 == kv.1) = true; exact beq_self_eq_true _, rfl⟩
  · have := look_ents E i
    have e : findBy Value.isInt em i = (em.toList.find? fun e => Value.isInt i e.key).map (·.val) := by unfold findBy; rw [Array.find?_toList]
    rw [← e] at this
    exact this
noncomputable def kvsOf (o : Obj) : List (Int × List Nat) := match o.data with
  | .dict es _ => es.toList.map fun e => match e.key, e.val with | .int k _, .str x _ => (k, x.cps.toList) | _, _ => (0, [])
  | _ => []
noncomputable def okE (e : DictEntry) : Bool := match e.key, e.val with | .int k _, .str x _ => e.hash == hashInt k | _, _ => false
theorem ents_of : ∀ {es : List DictEntry}, es.all okE = true → Ents es (es.map fun e => match e.key, e.val with | .int k _, .str x _ => (k, x.cps.toList) | _, _ => (0, []))
  | [], _ => trivial
  | e :: es, h => by
    rw [List.all_cons, Bool.and_eq_true] at h
    refine ⟨?_, ents_of h.2⟩
    obtain ⟨hh, kk, vv⟩ := e
    have h1 := h.1
    unfold okE at h1
    split at h1
    · rename_i k t x t' e1 e2
      dsimp only at e1 e2 h1
      subst e1 e2
      obtain ⟨⟨cs⟩⟩ := x
      exact ⟨t, t', by rw [beq_iff_eq.mp h1]⟩
    · cases h1
noncomputable def setEs (o : Obj) : List (Int × Value) := match o.data with | .set es _ _ => es.toList | _ => []
theorem setF_of {W : Wd} {d : Addr} {es : Array (Int × Value)} {ep : Nat} {t : SetTable} (h : W.h₁.get? d = some ⟨.type "set", none, .set es ep t, #[]⟩) (h1 : (es.toList.all fun e => (match e.2 with | .int k _ => e.1 == hashInt k | _ => false)) = true)
    (h2 : (decide (es.size < scanBound) && t.fits es.size) = true) : SetF W d fun k => es.toList.any fun e => Value.isInt k e.2 := by
  simp only [Bool.and_eq_true, decide_eq_true_eq] at h2
  refine ⟨⟨_, h, fun z => by cases z⟩, es.size, ⟨_, es, ep, t, h, ⟨rfl, rfl, rfl⟩, rfl, fun e he => ?_, fun k => ?_, h2.1, h2.2, rfl⟩⟩
  · have := List.all_eq_true.mp h1 e he
    split at this
    · rename_i k tk hk
      exact ⟨⟨k, by rw [hk]; show (k == k) = true; exact beq_self_eq_true _, beq_iff_eq.mp this⟩, by rw [hk]; rfl⟩
    · cases this
  · rw [List.any_eq_true]
    rfl
noncomputable def KF (P : Params) : Frag := [(60, Hp.o60 P), (67, Hp.o67 P), (74, Hp.o74 P), (81, Hp.o81 P), (83, Hp.o83 P), (84, Hp.o84 P), (190, Hp.o190 P), (197, Hp.o197 P), (235, Hp.o235 P), (293, Hp.o293 P), (295, Hp.o295 P), (296, Hp.o296 P)]
theorem kf_at (P : Params) (x : Nat → Obj) : ((KF P).map (·.1)).map (Hp.h28 P x).get? = (KF P).map fun p => some p.2 := by kernel_rfl
theorem kf_in (P : Params) (x : Nat → Obj) : (KF P).In (Hp.h28 P x) := Frag.in_of rfl (kf_at P x)
theorem kf_cls (P : Params) : ((KF P).all fun p => !(p.2.cls == .none)) = true := by kernel_rfl
theorem lookup_mem' {K : Frag} {a : Addr} {o : Obj} (h : K.lookup a = some o) : (a, o) ∈ K := by
  induction K with
  | nil => cases h
  | cons p r ih =>
    obtain ⟨b, y⟩ := p
    simp only [List.lookup] at h
    split at h
    · rename_i q; cases h; rw [beq_iff_eq.mp q]; exact List.mem_cons_self
    · exact List.mem_cons_of_mem _ (ih h)
structure Ext (P : Params) (x : Nat → Obj) (H : Heap) : Prop where
  k : Keep P x H
  z : 302 < H.objs.size
  l : ∃ o, H.get? (H.objs.size - 1) = some o
noncomputable abbrev mgT (P : Params) (x : Nat → Obj) : Str → Option Value := (Hp.h28 P x).nsMap mainGlobals
noncomputable abbrev mbT (P : Params) (x : Nat → Obj) : Str → Option Value := (Hp.h28 P x).nsMap builtinsNs
noncomputable def WW (w : World) (x : Nat → Obj) (os : OsState) (H : Heap) (z : 302 < H.objs.size) : Wd :=
  { K := KF w.params, prog := pwT, w := w, h₁ := H, os := os, mg := mgT w.params x, mb := mbT w.params x, tP := 302, tpos := readDef.pos, tq := "_law_lexer.<locals>.read", tlt := z, kn := fun _ => True, knm := fun _ _ => trivial }
theorem nsT (P : Params) (x : Nat → Obj) : (Hp.h28 P x).Ns mainGlobals (mgT P x) ∧ (Hp.h28 P x).Ns builtinsNs (mbT P x) := by
  have h := lk_ns P x
  simp only [Bool.and_eq_true] at h
  exact ⟨.of_isNs h.1.1, .of_isNs h.1.2⟩
theorem lim_is (P : Params) (x : Nat → Obj) : ((Hp.h28 P x).isNs cStatics, (Hp.h28 P x).nsMap cStatics "sys.recursionlimit") = (true, none) := by kernel_rfl
theorem get_g (P : Params) (x : Nat → Obj) : (Hp.h28 P x).get? mainGlobals = some (Hp.o3i P) := by kernel_rfl
theorem get_b (P : Params) (x : Nat → Obj) : (Hp.h28 P x).get? builtinsNs = some (Hp.o0 P) := by kernel_rfl
theorem ns_keeps {h h' : Heap} {a : Addr} {m : Str → Option Value} (x : h.Ns a m) (k : ∀ b o, h.get? b = some o → h'.get? b = some o) : h'.Ns a m := by obtain ⟨o, es, ep, e, r⟩ := x; exact ⟨o, es, ep, k _ _ e, r⟩
section
variable {w : World} {x : Nat → Obj} {os : OsState} {H : Heap} (X : Ext w.params x H)
include X
theorem topT : Top (WW w x os H X.z) := by
  refine ⟨X.l, (kf_in _ x).keeps X.k, fun a o h => ?_, ?_, ⟨_, X.k _ _ (get_g _ x), (fun z => by cases z)⟩, ns_keeps (nsT _ x).1 X.k, ⟨_, X.k _ _ (get_b _ x), (fun z => by cases z)⟩, ns_keeps (nsT _ x).2 X.k⟩
  · have := List.all_eq_true.mp (kf_cls w.params) _ (lookup_mem' h)
    intro z
    simp [z] at this
  · have h := lim_is w.params x
    exact ⟨_, ns_keeps (.of_isNs (Prod.mk.inj h).1) X.k, (Prod.mk.inj h).2⟩
theorem bltsT : Blts (WW w x os H X.z) := by
  have h1 : ((["ord", "chr", "len", "hex", "iter", "sum", "sorted"] : List String).map fun n => (mgT w.params x (Str.ofString n), mbT w.params x (Str.ofString n))) = (["ord", "chr", "len", "hex", "iter", "sum", "sorted"] : List String).map fun n => (none, some (.builtin n)) := by kernel_rfl
  have h2 : ((["range", "str", "list", "type", "zip"] : List String).map fun n => (mgT w.params x (Str.ofString n), mbT w.params x (Str.ofString n))) = (["range", "str", "list", "type", "zip"] : List String).map fun n => (none, some (.type n)) := by kernel_rfl
  exact ⟨fun n hn => Prod.mk.inj (List.map_inj_left.mp h1 n hn), fun n hn => Prod.mk.inj (List.map_inj_left.mp h2 n hn)⟩
end
end Mine
end
section
set_option tactic.hygienic false
set_option hygiene false
set_option maxRecDepth 100000
set_option maxHeartbeats 4000000
namespace Mine
theorem kg (P : Params) : ((clsIn (KF P) 84).any (fun c => c.hasDict) && (clsIn (KF P) 296).any (fun c => c.hasDict) && plainOver (KF P) 84 && plainOver (KF P) 296 && makesIn (KF P) 84 && makesIn (KF P) 296) = true := by kernel_rfl
theorem findsL (P : Params) : (findIn (KF P) (.ref 84) "__getattribute__", findIn (KF P) (.ref 84) "__getattr__", findIn (KF P) (.ref 84) "__setattr__", findIn (KF P) (.ref 84) "__init__", findIn (KF P) (.ref 84) "_read_char", findIn (KF P) (.ref 84) "get_token", findIn (KF P) (.ref 84) "push_token") =
  (some (some (.builtin "object.__getattribute__")), some none, some (some (.builtin "object.__setattr__")), some (some (.ref 60)), some (some (.ref 67)), some (some (.ref 74)), some (some (.ref 81))) := by kernel_rfl
theorem findsH (P : Params) : (findIn (KF P) (.ref 296) "__getattribute__", findIn (KF P) (.ref 296) "__getattr__", findIn (KF P) (.ref 296) "__setattr__", findIn (KF P) (.ref 296) "__init__", findIn (KF P) (.ref 296) "_convert_string_type", findIn (KF P) (.ref 296) "get_all", findIn (KF P) (.ref 296) "add_header", findIn (KF P) (.ref 296) "_headers") =
  (some (some (.builtin "object.__getattribute__")), some none, some (some (.builtin "object.__setattr__")), some (some (.ref 190)), some (some (.ref 197)), some (some (.ref 235)), some (some (.ref 293)), some none) := by kernel_rfl
theorem findsN (P : Params) : ((["lineno", "instream", "whitespace", "pushback", "read"] : List String).map fun n => findIn (KF P) (.ref 84) (Str.ofString n)) = (["lineno", "instream", "whitespace", "pushback", "read"] : List String).map fun n => some none := by kernel_rfl
theorem tysT (P : Params) : (typeIn (KF P) (.ref 60), typeIn (KF P) (.ref 67), typeIn (KF P) (.ref 74), typeIn (KF P) (.ref 81), typeIn (KF P) (.ref 190), typeIn (KF P) (.ref 197), typeIn (KF P) (.ref 235), typeIn (KF P) (.ref 293)) =
  (some (.type "function"), some (.type "function"), some (.type "function"), some (.type "function"), some (.type "function"), some (.type "function"), some (.type "function"), some (.type "function")) := by kernel_rfl
theorem rcT' (P : Params) : (specialIn (KF P) (.ref 67) "__get__", takesIn (KF P) (.ref 67)) = (some (some (.builtin "function.__get__")), some false) := by kernel_rfl
theorem callsT (P : Params) : (specialIn (KF P) (.ref 84) "__call__", specialIn (KF P) (.ref 296) "__call__") = (some (some (.builtin "type.__call__")), some (some (.builtin "type.__call__"))) := by kernel_rfl
noncomputable def gNames : List String := ["COMPILER_FLAG_NAMES", "pretty_flags", "_netrclex", "b1_set", "in_table_b1", "b3_exceptions", "map_table_b3", "_name_disallowed_re", "_value_disallowed_re", "Headers", "_law_lexer", "_law_prepared", "_law_typed", "_law_written", "_law_drawn", "_law_word", "_law_shelved", "_law_overlaps", "_law_due", "law"]
noncomputable def gAddrs : List Addr := [39, 46, 84, 96, 106, 107, 152, 162, 167, 296, 307, 312, 319, 324, 329, 336, 341, 346, 351, 356]
noncomputable def gRef (a : Addr) : Option Value := some (.ref a)
noncomputable def gMg (P : Params) (x : Nat → Obj) (n : String) : Option Value := (Hp.h28 P x).nsMap mainGlobals (Str.ofString n)
theorem globsT (P : Params) (x : Nat → Obj) : gNames.map (gMg P x) = gAddrs.map gRef := by kernel_rfl
theorem gt39 (P : Params) (x : Nat → Obj) : (Hp.h28 P x).get? 39 = some (Hp.o39 P) := by kernel_rfl
theorem gt84 (P : Params) (x : Nat → Obj) : (Hp.h28 P x).get? 84 = some (Hp.o84 P) := by kernel_rfl
theorem gt96 (P : Params) (x : Nat → Obj) : (Hp.h28 P x).get? 96 = some (Hp.o96 P) := by kernel_rfl
theorem gt161 (P : Params) (x : Nat → Obj) : (Hp.h28 P x).get? 161 = some (Hp.o161 P) := by kernel_rfl
theorem gt162 (P : Params) (x : Nat → Obj) : (Hp.h28 P x).get? 162 = some (Hp.o162 P) := by kernel_rfl
theorem gt166 (P : Params) (x : Nat → Obj) : (Hp.h28 P x).get? 166 = some (Hp.o166 P) := by kernel_rfl
theorem gt167 (P : Params) (x : Nat → Obj) : (Hp.h28 P x).get? 167 = some (Hp.o167 P) := by kernel_rfl
theorem gt183 (P : Params) (x : Nat → Obj) : (Hp.h28 P x).get? 183 = some (Hp.o183 P) := by kernel_rfl
theorem gt296 (P : Params) (x : Nat → Obj) : (Hp.h28 P x).get? 296 = some (Hp.o296 P) := by kernel_rfl
theorem gt302 (P : Params) (x : Nat → Obj) : (Hp.h28 P x).get? 302 = some (Hp.o302 P) := by kernel_rfl
theorem gt306 (P : Params) (x : Nat → Obj) : (Hp.h28 P x).get? 306 = some (Hp.o306 P) := by kernel_rfl
theorem gt4 (P : Params) (x : Nat → Obj) : (Hp.h28 P x).get? 4 = some (Hp.o4 P) := by kernel_rfl
theorem gt107 (P : Params) (x : Nat → Obj) {em : Array DictEntry} {nm : Nat} (h : x 0 = dO em nm) : (Hp.h28 P x).get? 107 = some (dO em nm) := by
  have e : (Hp.h28 P x).objs[107]? = some (x 0) := by kernel_rfl
  unfold Heap.get?
  rw [e, h]
  rfl
noncomputable def pD : Params := { strHash := fun _ => 0, shareClass := fun _ => 0, mergeTok := fun t => t, idOf := fun _ => 0, idOfShared := fun _ _ => 0, followText := fun _ => true, idOfImm := fun _ => 0 }
noncomputable def cfnT' : List (Int × List Nat) := kvsOf (Hp.o39 pD)
noncomputable def b1T' (k : Int) : Bool := (setEs (Hp.o96 pD)).any fun e => Value.isInt k e.2
theorem cfnW' : ∀ i : Fin 32, wordOf (lookT cfnT') i.val = wordC i.val := by decide +kernel
end Mine
end
section
set_option tactic.hygienic false
set_option hygiene false
set_option maxRecDepth 100000
set_option maxHeartbeats 4000000
namespace Mine
noncomputable def findN (n : Nat) (l : List (Int × List Nat)) : Option (List Nat) := l.rec none fun kv _ r => cond (Nat.beq kv.1.toNat n) (some kv.2) r
theorem look_N (n : Nat) : ∀ {l : List (Int × List Nat)}, l.all (fun kv => decide (0 ≤ kv.1)) = true → lookT l n = findN n l
  | [], _ => rfl
  | kv :: l, h => by
    rw [List.all_cons, Bool.and_eq_true, decide_eq_true_eq] at h
    have ih := look_N n h.2
    unfold lookT at ih ⊢
    rw [List.find?_cons]
    show Option.map _ (match (kv.1 == (n : Int)) with | true => _ | false => _) = cond (Nat.beq kv.1.toNat n) (some kv.2) (findN n l)
    have e : (kv.1 == (n : Int)) = Nat.beq kv.1.toNat n := by
      rw [Bool.eq_iff_iff, beq_iff_eq, Nat.beq_eq]
      have := h.1
      lia
    rw [e]
    cases Nat.beq kv.1.toNat n
    · exact ih
    · rfl
theorem pos10' : b3kv.all (fun kv => decide (0 ≤ kv.1)) = true := by decide +kernel
noncomputable def f3N (i : Int) : Option (List Nat) := findN i.toNat b3kv
theorem b3N (c : Nat) : b3L (lookT b3kv) c = b3L f3N c := by
  unfold b3L
  rw [look_N c pos10']
  rfl
theorem fgL : ∀ c : Fin 26, ∀ m : Fin 12, ((signT (97 + c.val) m.val).all fun x => !b1T' x && decide (b3L f3N x = [97 + c.val]) && decide (x < 1114112 ∧ x ≠ 10 ∧ x ≠ 13)) = true := by decide +kernel
theorem fgM : ∀ j : Fin 21, (!b1T' ((marksT.getD j.val 0).toNat : Nat) && decide (b3L f3N (marksT.getD j.val 0).toNat = [(marksT.getD j.val 0).toNat])) = true := by decide +kernel
theorem fgU : ∀ u : Fin 54, ((unsT u.val).all fun x => x.all fun y : Nat => b1T' y && decide (y < 1114112 ∧ y ≠ 10 ∧ y ≠ 13)) = true := by decide +kernel
theorem low10 : b3kv.all (fun kv => decide (128 ≤ kv.1)) = true := by decide +kernel
theorem look_low : ∀ {l : List (Int × List Nat)}, l.all (fun kv => decide (128 ≤ kv.1)) = true → ∀ c : Nat, c < 128 → lookT l c = none
  | [], _, _, _ => rfl
  | kv :: l, h, c, hc => by
    rw [List.all_cons, Bool.and_eq_true, decide_eq_true_eq] at h
    have ih := look_low h.2 c hc
    unfold lookT at ih ⊢
    rw [List.find?_cons]
    have e : (kv.1 == (c : Int)) = false := by
      rw [beq_eq_false_iff_ne]
      have := h.1
      lia
    rw [e]
    exact ih
theorem b1low : ∀ c : Fin 128, b1T' (c.val : Nat) = false := by decide +kernel
theorem prep_low : ∀ x : List Nat, x.all (fun c => decide (c < 128)) = true → prepL (lookT b3kv) b1T' x = prepL (fun _ => none) (fun _ => false) x
  | [], _ => rfl
  | c :: x, h => by
    rw [List.all_cons, Bool.and_eq_true, decide_eq_true_eq] at h
    have ih := prep_low x h.2
    unfold prepL at ih ⊢
    have h1 : b1T' (c : Nat) = false := b1low ⟨c, h.1⟩
    have h2 : b3L (lookT b3kv) c = b3L (fun _ => none) c := by unfold b3L; rw [look_low low10 c h.1]
    rw [List.filter_cons, List.filter_cons, h1]
    show (List.map _ (c :: _)).flatten = (List.map _ (c :: _)).flatten
    rw [List.map_cons, List.map_cons, List.flatten_cons, List.flatten_cons, h2, ih]
theorem word_low : ∀ p : Fin 32, ((wordC p.val).all fun c => decide (c < 128)) = true := by decide +kernel
theorem word_prep : ∀ p : Fin 32, prepL (fun _ => none) (fun _ => false) (wordC p.val) = lowerL (wordC p.val) := by decide +kernel
theorem fgT : FG (lookT b3kv) b1T' := by
  refine ⟨?_, ?_, fgU, fun p => (prep_low _ (word_low p)).trans (word_prep p)⟩
  · intro c m
    have := fgL c m
    simp only [b3N]
    exact this
  · intro j
    have := fgM j
    simp only [b3N]
    exact this
end Mine
end
section
set_option tactic.hygienic false
set_option hygiene false
set_option maxRecDepth 100000
set_option maxHeartbeats 4000000
namespace Mine
theorem zip_at {α : Type} {f : String → α} {g : Addr → α} {ns : List String} {as : List Addr} (h : ns.map f = as.map g) (i : Nat) {n : String} {a : Addr} (h1 : ns[i]? = some n) (h2 : as[i]? = some a) : f n = g a := by
  have := congrArg (·[i]?) h
  simp only [List.getElem?_map, h1, h2, Option.map_some, Option.some.injEq] at this
  exact this
section
variable {w : World} {x : Nat → Obj} {os : OsState} {H : Heap} (X : Ext w.params x H)
include X
theorem gl39 : (WW w x os H X.z).mg "COMPILER_FLAG_NAMES" = some (.ref 39) := zip_at (globsT w.params x) 0 rfl rfl
theorem gl46 : (WW w x os H X.z).mg "pretty_flags" = some (.ref 46) := zip_at (globsT w.params x) 1 rfl rfl
theorem gl84 : (WW w x os H X.z).mg "_netrclex" = some (.ref 84) := zip_at (globsT w.params x) 2 rfl rfl
theorem gl96 : (WW w x os H X.z).mg "b1_set" = some (.ref 96) := zip_at (globsT w.params x) 3 rfl rfl
theorem gl106 : (WW w x os H X.z).mg "in_table_b1" = some (.ref 106) := zip_at (globsT w.params x) 4 rfl rfl
theorem gl107 : (WW w x os H X.z).mg "b3_exceptions" = some (.ref 107) := zip_at (globsT w.params x) 5 rfl rfl
theorem gl152 : (WW w x os H X.z).mg "map_table_b3" = some (.ref 152) := zip_at (globsT w.params x) 6 rfl rfl
theorem gl162 : (WW w x os H X.z).mg "_name_disallowed_re" = some (.ref 162) := zip_at (globsT w.params x) 7 rfl rfl
theorem gl167 : (WW w x os H X.z).mg "_value_disallowed_re" = some (.ref 167) := zip_at (globsT w.params x) 8 rfl rfl
theorem gl296 : (WW w x os H X.z).mg "Headers" = some (.ref 296) := zip_at (globsT w.params x) 9 rfl rfl
theorem gl307 : (WW w x os H X.z).mg "_law_lexer" = some (.ref 307) := zip_at (globsT w.params x) 10 rfl rfl
theorem gl312 : (WW w x os H X.z).mg "_law_prepared" = some (.ref 312) := zip_at (globsT w.params x) 11 rfl rfl
theorem gl319 : (WW w x os H X.z).mg "_law_typed" = some (.ref 319) := zip_at (globsT w.params x) 12 rfl rfl
theorem gl324 : (WW w x os H X.z).mg "_law_written" = some (.ref 324) := zip_at (globsT w.params x) 13 rfl rfl
theorem gl329 : (WW w x os H X.z).mg "_law_drawn" = some (.ref 329) := zip_at (globsT w.params x) 14 rfl rfl
theorem gl336 : (WW w x os H X.z).mg "_law_word" = some (.ref 336) := zip_at (globsT w.params x) 15 rfl rfl
theorem gl341 : (WW w x os H X.z).mg "_law_shelved" = some (.ref 341) := zip_at (globsT w.params x) 16 rfl rfl
theorem gl346 : (WW w x os H X.z).mg "_law_overlaps" = some (.ref 346) := zip_at (globsT w.params x) 17 rfl rfl
theorem gl351 : (WW w x os H X.z).mg "_law_due" = some (.ref 351) := zip_at (globsT w.params x) 18 rfl rfl
theorem cfnTab : TabF (WW w x os H X.z) 39 (lookT cfnT') := tabF_of (em := _) (nm := _) (by decide) (X.k _ _ (gt39 _ x)) (ents_of (by kernel_rfl))
theorem b1Set : SetF (WW w x os H X.z) 96 b1T' := setF_of (X.k _ _ (gt96 _ x)) (by kernel_rfl) (by kernel_rfl)
theorem b3Tab (hx : TabX x) : TabF (WW w x os H X.z) 107 (lookT b3kv) := by
  obtain ⟨em, nm, h, E⟩ := hx
  exact tabF_of (by decide) (X.k _ _ (gt107 _ x h)) E
theorem nmPat : PatF (WW w x os H X.z) 162 nameCode := ⟨⟨_, _, 161, _, _, _, X.k _ _ (gt162 _ x), rfl, rfl, rfl, rfl, rfl, rfl, X.k _ _ (gt161 _ x), (fun z => by cases z), rfl, by kernel_rfl⟩, ⟨by kernel_rfl, rfl, rfl⟩⟩
theorem vlPat : PatF (WW w x os H X.z) 167 valueCode := ⟨⟨_, _, 166, _, _, _, X.k _ _ (gt167 _ x), rfl, rfl, rfl, rfl, rfl, rfl, X.k _ _ (gt166 _ x), (fun z => by cases z), rfl, by kernel_rfl⟩, ⟨by kernel_rfl, rfl, rfl⟩⟩
noncomputable def l1T : L1 (WW w x os H X.z) where
  T := topT X
  B := bltsT X
  cfn := 39
  cfnG := gl39 X
  cfnF := lookT cfnT'
  cfnT := cfnTab X
  cfnW := fun i hi => cfnW' ⟨i, hi⟩
  pf := 46
  pfG := gl46 X
  pfF := .of (fn46 _ x _ X.k)
theorem clsL : ClsIs (WW w x os H X.z) 84 := by
  have h := kg w.params
  simp only [Bool.and_eq_true] at h
  obtain ⟨⟨⟨⟨⟨h1, h2⟩, h3⟩, h4⟩, h5⟩, h6⟩ := h
  have e := findsL w.params
  simp only [Prod.mk.injEq] at e
  obtain ⟨cd, q1, q2⟩ := any_some h1
  exact ⟨⟨cd, q1, q2⟩, e.1, e.2.1, e.2.2.1, h3, h5⟩
theorem clsH : ClsIs (WW w x os H X.z) 296 := by
  have h := kg w.params
  simp only [Bool.and_eq_true] at h
  obtain ⟨⟨⟨⟨⟨h1, h2⟩, h3⟩, h4⟩, h5⟩, h6⟩ := h
  have e := findsH w.params
  simp only [Prod.mk.injEq] at e
  obtain ⟨cd, q1, q2⟩ := any_some h2
  exact ⟨⟨cd, q1, q2⟩, e.1, e.2.1, e.2.2.1, h4, h6⟩
theorem kpL (σ : Sig) : KP (WW w x os H X.z) .machine (.ref 84) σ :=
  KP_cls (X.k _ _ (gt84 _ x)) (fun z => by cases z) rfl (fun h hk => looks_specialIn hk (Prod.mk.inj (callsT w.params)).1) (topT X)
theorem kpH (σ : Sig) : KP (WW w x os H X.z) .machine (.ref 296) σ :=
  KP_cls (X.k _ _ (gt296 _ x)) (fun z => by cases z) rfl (fun h hk => looks_specialIn hk (Prod.mk.inj (callsT w.params)).2) (topT X)
noncomputable def lexT : LexCls (WW w x os H X.z) where
  C := 84
  G := gl84 X
  X := clsL X
  kp := kpL X
  no := fun n hn => List.map_inj_left.mp (findsN w.params) n hn
  ini := 60
  iniM := ⟨(Prod.mk.inj (Prod.mk.inj (Prod.mk.inj (Prod.mk.inj (findsL w.params)).2).2).2).1, (Prod.mk.inj (tysT w.params)).1, .of (fn60 _ x _ X.k)⟩
  rc := 67
  rcM := ⟨(Prod.mk.inj (Prod.mk.inj (Prod.mk.inj (Prod.mk.inj (Prod.mk.inj (findsL w.params)).2).2).2).2).1, (Prod.mk.inj (Prod.mk.inj (tysT w.params)).2).1, .of (fn67 _ x _ X.k)⟩
  rcG := (Prod.mk.inj (rcT' w.params)).1
  rcT := (Prod.mk.inj (rcT' w.params)).2
  gt := 74
  gtM := ⟨(Prod.mk.inj (Prod.mk.inj (Prod.mk.inj (Prod.mk.inj (Prod.mk.inj (Prod.mk.inj (findsL w.params)).2).2).2).2).2).1, (Prod.mk.inj (Prod.mk.inj (Prod.mk.inj (tysT w.params)).2).2).1, .of (fn74 _ x _ X.k)⟩
  pt := 81
  ptM := ⟨(Prod.mk.inj (Prod.mk.inj (Prod.mk.inj (Prod.mk.inj (Prod.mk.inj (Prod.mk.inj (findsL w.params)).2).2).2).2).2).2, (Prod.mk.inj (Prod.mk.inj (Prod.mk.inj (Prod.mk.inj (tysT w.params)).2).2).2).1, .of (fn81 _ x _ X.k)⟩
omit X in
theorem hdrFinds : findIn (KF w.params) (.ref 296) "__init__" = some (some (.ref 190)) ∧ findIn (KF w.params) (.ref 296) "_convert_string_type" = some (some (.ref 197)) ∧ findIn (KF w.params) (.ref 296) "get_all" = some (some (.ref 235)) ∧ findIn (KF w.params) (.ref 296) "add_header" = some (some (.ref 293)) ∧ findIn (KF w.params) (.ref 296) "_headers" = some none := by
  have e := findsH w.params
  simp only [Prod.mk.injEq] at e
  exact e.2.2.2
omit X in
theorem hdrTys : typeIn (KF w.params) (.ref 190) = some (.type "function") ∧ typeIn (KF w.params) (.ref 197) = some (.type "function") ∧ typeIn (KF w.params) (.ref 235) = some (.type "function") ∧ typeIn (KF w.params) (.ref 293) = some (.type "function") := by
  have e := tysT w.params
  simp only [Prod.mk.injEq] at e
  exact e.2.2.2.2
theorem iniD : FnD (WW w x os H X.z) 190 "Headers.__init__" (methAt 17 0) #[.none] := ⟨183, _, _, _, _, _, fn190 _ x _ X.k, _, _, X.k _ _ (gt183 _ x), (fun z => by cases z), rfl⟩
noncomputable def hdrT : HdrCls (WW w x os H X.z) where
  C := 296
  G := gl296 X
  X := clsH X
  kp := kpH X
  no := (hdrFinds (w := w)).2.2.2.2
  ini := 190
  iniM := ⟨(hdrFinds (w := w)).1, (hdrTys (w := w)).1, iniD X⟩
  cv := 197
  cvM := ⟨(hdrFinds (w := w)).2.1, (hdrTys (w := w)).2.1, .of (fn197 _ x _ X.k)⟩
  ga := 235
  gaM := ⟨(hdrFinds (w := w)).2.2.1, (hdrTys (w := w)).2.2.1, .of (fn235 _ x _ X.k)⟩
  ah := 293
  ahM := ⟨(hdrFinds (w := w)).2.2.2.1, (hdrTys (w := w)).2.2.2, .of (fn293 _ x _ X.k)⟩
  nm := 162
  nmG := gl162 X
  nmP := nmPat X
  vl := 167
  vlG := gl167 X
  vlP := vlPat X
  sys := Nat.lt_trans (by decide : sysModules < 302) X.z
noncomputable def prepT (hx : TabX x) : Prep (WW w x os H X.z) where
  ab1 := 106
  F1 := .of (fn106 _ x _ X.k)
  h1 := gl106 X
  b1 := 96
  hm1 := gl96 X
  g := b1T'
  S1 := b1Set X
  am3 := 152
  F3 := .of (fn152 _ x _ X.k)
  h3 := gl152 X
  b3 := 107
  hm3 := gl107 X
  f := lookT b3kv
  S3 := b3Tab X hx
  lp := 312
  F := .of (fn312 _ x _ X.k)
  G := gl312 X
  lw := 336
  Fw := .of (fn336 _ x _ X.k)
  Gw := gl336 X
  prepW := fun p hp => fgT.prepW ⟨p, hp⟩
theorem tabTopT : TabTop (WW w x os H X.z) 306 := by
  have hb : (mgT w.params x "__builtins__", (302 : Addr) == cStatics, (mainGlobals : Addr) == 302) = (some (.ref 4), false, false) := by kernel_rfl
  simp only [Prod.mk.injEq, beq_eq_false_iff_ne] at hb
  exact ⟨⟨_, _, _, _, _, _, _, _, _, X.k _ _ (gt306 _ x), rfl, rfl, rfl, rfl, rfl, rfl, rfl, rfl, (show (306 : Nat) ≠ 302 by decide)⟩, X.k _ _ (gt302 _ x), ⟨4, _, hb.1, (show (4 : Nat) ≠ builtinsNs by decide), (show (4 : Nat) ≠ mainGlobals by decide), (show (4 : Nat) ≠ 302 by decide), X.k _ _ (gt4 _ x), rfl, rfl, rfl⟩, hb.2.1, hb.2.2⟩
theorem nestT : NestOK (WW w x os H X.z) 307 306 := ⟨⟨_, _, _, _, fn307 _ x _ X.k⟩, tabTopT X, rfl, rfl⟩
end
end Mine
end
section
set_option tactic.hygienic false
set_option hygiene false
set_option maxRecDepth 100000
set_option maxHeartbeats 4000000
namespace Mine
section
variable {w : World} {x : Nat → Obj} {os : OsState} {H : Heap} (X : Ext w.params x H) (hx : TabX x)
include X hx
theorem law_T {script : List Int} (hs : script.length ≤ 63) {σ : Sig} : CC (WW w x os H X.z) 5 (.ref 356) [.lst (intsL script)] [] [] σ (fun p _ => p = .bool true) :=
  law_C (k := 0) (l1T X) (lexT X) (hdrT X) (prepT X hx) (.of (fn356 _ x _ X.k)) (.of (fn329 _ x _ X.k)) (gl329 X) (.of (fn319 _ x _ X.k)) (gl319 X) (.of (fn324 _ x _ X.k)) (gl324 X) (nestT X) (gl307 X) (.of (fn341 _ x _ X.k)) (gl341 X) (.of (fn346 _ x _ X.k)) (gl346 X) (.of (fn351 _ x _ X.k)) (gl351 X)
    (by exact Nat.le_trans (by assumption) (by decide)) (fun d _ _ _ => facts_of fgT d)
theorem st_T {s : Shared} (hh : s.heap = H) (hos : s.os = os) (hg : s.gens = #[]) : St (WW w x os H X.z) (fun _ => none) s := by
  have T := topT (os := os) X
  subst hh
  exact ⟨fun a o h => (nomatch h), OldK.refl _, fun a h => absurd rfl h, Nat.le_refl _, T.lim, hos, .of_eq hg, trivial, #[], X.k _ _ (gt302 _ x), .inl rfl⟩
end
end Mine
end
section
set_option maxRecDepth 100000
set_option maxHeartbeats 4000000
namespace Mine
noncomputable abbrev rowT : OpenRow := PySem.Challenge.rw_uc0056_01.row
theorem defLaw : pwT.theDef "law" = some (paramsOf (defAt 28), bodyOf (defAt 28), scopeOf (defAt 28)) := by kernel_rfl
theorem dflLaw : ((paramsOf (defAt 28)).defaults = [] ∧ (paramsOf (defAt 28)).kwonlyargs = [] ∧ (paramsOf (defAt 28)).kw_defaults = []) := ⟨by kernel_rfl, by kernel_rfl, by kernel_rfl⟩
theorem gt356 (P : Params) (x : Nat → Obj) : (Hp.h28 P x).get? 356 = some (Hp.o356 P) := by kernel_rfl
theorem law_is (P : Params) (x : Nat → Obj) : isTheDefsW pwT (Hp.h28 P x) "law" := by
  have h := lk_ns P x
  simp only [Bool.and_eq_true] at h
  refine ⟨356, _, _, paramsOf (defAt 28), bodyOf (defAt 28), scopeOf (defAt 28), ?_, gt356 P x, rfl, defLaw, by kernel_rfl, by kernel_rfl, rfl, rfl, rfl, rfl, rfl, rfl, .inl ⟨dflLaw.1, rfl⟩, [], ?_, .inl ⟨rfl, rfl⟩⟩
  · exact (Pin.globalOf_eq h.1.1 _).trans (zip_at (globsT P x) 19 rfl rfl)
  · rw [dflLaw.2.1, dflLaw.2.2]; rfl
theorem pre_is {args : List WData} (h : rowT.toRowW.claim.pre args = true) : ∃ script : List Int, args = [.list (script.map .int)] ∧ script.length ≤ 63 := by
  obtain ⟨h1, h2⟩ := Bool.and_eq_true_iff.mp h
  replace h1 : WShape.hasAll [] args [.list .int] = true := h1
  replace h2 : WTm.holds [] (.and (.not (.lt (.lit (.int 63)) (.len (.arg 0)))) (.lit (.bool true))) { args := args } = true := h2
  match args, h1, h2 with
  | [], h1, _ => simp [WShape.hasAll] at h1
  | d :: r, h1, h2 =>
    simp only [WShape.hasAll, Bool.and_eq_true] at h1
    obtain ⟨h3, h4⟩ := h1
    obtain ⟨xs, rfl, h5⟩ := hasW_list h3
    obtain ⟨ns, rfl⟩ := items_int h5
    match r, h4, h2 with
    | _ :: _, h4, _ => simp [WShape.hasAll] at h4
    | [], _, h2 =>
      refine ⟨ns, rfl, ?_⟩
      by_cases q : ns.length ≤ 63
      · exact q
      · have q' : (63 : Int) < (ns.length : Nat) := by omega
        simp [WTm.holds, WTm.value, less?, Num.less?, q'] at h2
theorem rel_ints {P : Params} {h : Heap} {F : FM} : ∀ {script : List Int} {vs : List Value}, WellAll P h vs (script.map .int) → VRels F (intsL script) vs
  | [], vs, W => by cases W; exact (rfl : ([] : List Value) = [])
  | i :: r, vs, W => by
    obtain ⟨v, vs', rfl, a, b⟩ := wellAll_cons_inv W
    cases a with
    | int _ t => exact ⟨_, _, rfl, ⟨t, rfl⟩, rel_ints b⟩
theorem bareT : pwT.bare := ⟨rfl, rfl, rfl, rfl, rfl, by decide +kernel⟩
theorem opensT : opensWell pwT = true := by decide +kernel
theorem promT : rowT.toRowW.promised := ⟨[.list []], by decide +kernel, by decide +kernel⟩
theorem post_T (args ds : List WData) (R : WRecords) : (WShape.has R (.bool true) .bool && WTm.holds R (.eq .res (.lit (.bool true))) { args := args, res := some (.bool true), after := ds }) = true := by
  simp [WTm.holds, WTm.value, WShape.has, WShape.arms, same_self]
theorem last_of {R : WRecords} {cl : Str → Option Addr} {P : Params} {ord : List DictEntry → List DictEntry} {xs : List WData} {s s₁ : Shared} {vs : List Value} (h : layAllW R cl P ord [.list xs] s = some (vs, s₁)) : ∃ o, s₁.heap.get? (s₁.heap.objs.size - 1) = some o := by
  obtain ⟨a, q, h1, h2, h3⟩ := layAllW_cons h
  obtain ⟨q', h4, h5⟩ := layW_list h1
  cases h2
  cases h3
  subst h5
  refine ⟨{ cls := .type "list", data := .seq q'.1.toArray }, ?_⟩
  · rw [show (q'.2.heap.push { cls := .type "list", data := .seq q'.1.toArray }).objs.size - 1 = q'.2.heap.objs.size by rw [Heap.size_push]; rfl]
    exact Heap.get?_push_size _ rfl
theorem call_T (w : World) {x : Nat → Obj} (hx : TabX x) {s₀ s₁ : Shared} (hs₀ : s₀ = S28 w os0 x) {script : List Int} (hl : script.length ≤ 63) {vs : List Value} {as : List Addr} (L : Laid rowT.toRowW.records w s₀ s₁ [.list (script.map .int)] vs as) :
    wpAny (model pwT w) callerA (PySem.call (.ref 356) vs) (fun v s' => GoodWG rowT.toRowW.claim (classAt s₀.heap) (ExcName.means s₀.heap) [.list (script.map .int)] s₁ (.ok (.ret v)) s')
      (fun e s' => GoodWG rowT.toRowW.claim (classAt s₀.heap) (ExcName.means s₀.heap) [.list (script.map .int)] s₁ (.error e) s') s₁ := by
  obtain ⟨ord, _, hlaid⟩ := L.laid
  have X : Ext w.params x s₁.heap := by
    subst hs₀
    exact ⟨L.keeps, Nat.lt_trans (by decide) (Heap.lt_size (L.keeps _ _ (gt356 _ x))), last_of hlaid⟩
  have hg : s₁.gens = #[] := L.gens
  have S := st_T X hx (s := s₁) rfl (os := s₁.os) rfl hg
  obtain ⟨v, vs', rfl, a, b⟩ := wellAll_cons_inv L.well
  cases b
  cases a with
  | list h1 h2 =>
    rename_i ad ws
    refine wpAny_call (codeAny_mono (law_T X hx hl (σ := fun _ => none) (.ref 356) _ [] callerA ⟨rfl, by decide, by decide⟩ s₁ S (Eq.refl (Value.ref 356)) ⟨_, [], rfl, ⟨_, _, 0, rfl, ⟨rfl, h1, fun z => by cases z⟩, rel_ints h2⟩, rfl⟩ (rfl : ([] : List Value) = [])) fun r s' z => ?_)
    unfold CPost at z
    cases r with
    | error e => exact z.elim
    | ok f =>
      cases f with
      | ret v =>
        obtain ⟨p, σ', S', _, hv, rfl⟩ := z
        obtain rfl : v = .bool true := hv
        exact ⟨.inl ⟨_, .bool true, [], rfl, fun _ => rfl, .bool true, post_T _ _ _, fun _ => ⟨List.nodup_nil, fun _ h => by cases h⟩⟩, S'.old, S'.os, S'.gens⟩
      | next => exact z.elim
      | brk => exact z.elim
      | cont => exact z.elim
theorem asleep_T (w : World) (x : Nat → Obj) : (S28 w os0 x).asleep := ⟨rfl, rfl⟩
theorem identT : ∀ a b, rowT.toRowW.claim.ident a b = true := by
  have k : frees rowT.toRowW = true := by decide +kernel
  obtain ⟨_, hu, ha, hap, _⟩ := frees_parts k
  exact ident_freeW hu ha hap
theorem from_T (w : World) {x : Nat → Obj} (hx : TabX x) (free : Addr → Prop) (gens : Prop) : rowT.toRowW.claim.CallFrom (callStub rowT.name) w free gens (fun h' => rowT.writes = true → namesKept pwT rowT.keeps (S28 w os0 x).heap h' ∧ ∀ x' ∈ rowT.toRowW.claim.records, ∀ a, classAt (S28 w os0 x).heap x'.1 = some a → recordClass h' a x'.1 (x'.2.map (·.1)) = true) (S28 w os0 x) := by
  refine ClaimW.callFrom_of_specG (c := rowT.toRowW.claim) (tree := fun vs => do match ← nsGet mainNs rowT.name with
      | some f => do ret (← PySem.call f vs)
      | none => unsupported "claim.caller:no-such-global") (asleep_T w x) rfl fun args hpre hlay ord hord => ?_
  obtain ⟨script, rfl, hl⟩ := pre_is hpre
  obtain ⟨⟨vs, s₁⟩, hlaid⟩ := Option.isSome_iff_exists.mp (layAllW_isSome (R := []) (cl := classAt (S28 w os0 x).heap) (P := w.params) (ord := ord) (fun _ h => (nomatch h)) [.list (script.map .int)] rowT.args (S28 w os0 x) (pre_splitW hpre).1)
  have keeps := layAllW_keeps _ _ _ hlaid
  have hal := layAllW_rest _ _ _ hlaid
  obtain ⟨as, hrd, hin, hold⟩ := reads_layAllW hord _ _ _ hlaid hlay s₁.heap (fun _ _ e => e)
  have L : Laid rowT.toRowW.records w (S28 w os0 x) s₁ [.list (script.map .int)] vs as := ⟨⟨ord, hord, hlaid⟩, hrd, hin, hold, keeps, hal.1, hal.2.2.1⟩
  have hc := call_T w hx rfl hl L
  have hns : s₁.heap.Ns mainGlobals (mgT w.params x) := ns_keeps (nsT _ x).1 keeps
  have hf : mgT w.params x rowT.name = some (.ref 356) := zip_at (globsT w.params x) 19 rfl rfl
  refine ⟨vs, s₁, hlaid, wpAny_bind (wpAny_nsGet hns ?_)⟩
  rw [hf]
  refine wpAny_bind (wpAny_mono hc (fun v s' g => wpAny_pure ?_) fun e s' g => ?_)
  · have z := g.laid (c := rowT.toRowW.claim) rfl rfl identT L
    exact ⟨_, rfl, z.1, z.2.1, z.2.2, fun q => (Bool.false_ne_true q).elim⟩
  · have z := g.laid (c := rowT.toRowW.claim) rfl rfl identT L
    exact ⟨z.1, z.2.1, z.2.2, fun q => (Bool.false_ne_true q).elim⟩
theorem looks_1 : sreFenced pwT.main = true := by kernel_rfl
theorem looks_2 : ((moduleNames pwT.main.body).isEmpty || lookedIntoSs (moduleNames pwT.main.body) pwT.main.body) = true := by kernel_rfl
theorem looks_3 : namesResolve pwT = true := by kernel_rfl
theorem looks_4 : pwT.boundNames.all (fun n => !worldNames.contains n) = true := by kernel_rfl
theorem reads_1 : readsOut pwT pwT.main.body "vars" = false := by kernel_rfl
theorem reads_2 : readsOut pwT pwT.main.body "dir" = false := by kernel_rfl
theorem reads_3 : readsOut pwT pwT.main.body "locals" = false := by kernel_rfl
theorem strict_T : (!(importedModules pwT.main.body).all cThrough.contains) = false := by kernel_rfl
theorem nr_app (lk : Look) : ∀ a b : List Stmt, noRoadLSs lk (a ++ b) = (noRoadLSs lk a && noRoadLSs lk b)
  | [], b => rfl
  | s :: a, b => by
    show (noRoadLS lk s && noRoadLSs lk (a ++ b)) = ((noRoadLS lk s && noRoadLSs lk a) && noRoadLSs lk b)
    rw [nr_app lk a b, Bool.and_assoc]
theorem nr_1 : noRoadLSs { strict := false, foot := none, bare := [] } (pwT.main.body.take 11) = true := by kernel_rfl
theorem nr_2 : noRoadLSs { strict := false, foot := none, bare := [] } (pwT.main.body.drop 11) = true := by kernel_rfl
theorem nr_T : noRoadLSs { strict := false, foot := none, bare := [] } pwT.main.body = true := by
  have h := nr_app { strict := false, foot := none, bare := [] } (pwT.main.body.take 11) (pwT.main.body.drop 11)
  rw [nr_1, nr_2, List.take_append_drop] at h
  exact h
theorem bare_T : (["vars", "dir", "locals"] : List Str).filter (readsOut pwT pwT.main.body) = [] := by
  rw [List.filter_cons, reads_1, List.filter_cons, reads_2, List.filter_cons, reads_3]
  rfl
theorem looks_5 : (noRoadLSs { strict := !(importedModules pwT.main.body).all cThrough.contains, foot := none, bare := (["vars", "dir", "locals"] : List Str).filter (readsOut pwT pwT.main.body) } pwT.main.body) = true := by
  rw [strict_T, bare_T]
  exact nr_T
theorem looks_6 : (namesMeet pwT pwT.main.body fun _ n => attrL n) = true := by kernel_rfl
theorem looks_T : looksOpen pwT = true := by
  unfold looksOpen
  rw [looks_1, looks_2, looks_3, looks_4, looks_5, looks_6]
  rfl
theorem said_1 : rowT.partSaid = true := by
  unfold OpenRow.partSaid
  rw [show looksOpen rowT.prog = true from looks_T]
  kernel_rfl
theorem said_2 : rowT.wellSaid = true := by
  unfold OpenRow.wellSaid
  rw [said_1]
  kernel_rfl
theorem said_3 : (noRoadLSs { strict := true, foot := some PySem.Challenge.rw_uc0056_01.bound', writes := PySem.Challenge.rw_uc0056_01.writes, may := PySem.Challenge.rw_uc0056_01.may } PySem.Challenge.rw_uc0056_01.footing) = true := by kernel_rfl
theorem said_T : PySem.Challenge.rw_uc0056_01.wellSaid = true := by
  unfold OpenLaw.wellSaid
  rw [show PySem.Challenge.rw_uc0056_01.row.wellSaid = true from said_2, said_3]
  kernel_rfl
theorem holds_T : PySem.Challenge.rw_uc0056_01.Holds := by
  refine ⟨said_T, said_2, promT, ⟨bareT, opensT, rfl⟩, promT.witness, fun w => ⟨⟨_, after_0 w⟩, fun s' hs' => ?_⟩⟩
  obtain rfl := AfterImport.unique hs' (after_0 w)
  obtain ⟨x, hx, hT⟩ := topRan w os0
  refine ⟨S0 w os0, fence_0 w os0, rfl, S28 w os0 x, hT, fun n hn => ?_, (fun _ h => (nomatch h)), (fun _ h => (nomatch h)), ?_⟩
  · replace hn : n ∈ [Str.ofString "law"] := hn
    obtain rfl : n = Str.ofString "law" := List.mem_singleton.mp hn
    exact law_is w.params x
  · have h := from_T w hx (fun b => rowT.writes = true ∧ madeByTheTop (S0 w os0) (S28 w os0 x) b) (rowT.writes = false)
    exact h
end Mine
end
set_option maxRecDepth 100000 in
theorem PySem.Challenge.cw_uc0056_01_holds : PySem.Challenge.rw_uc0056_01.Holds :=
  Mine.holds_T
