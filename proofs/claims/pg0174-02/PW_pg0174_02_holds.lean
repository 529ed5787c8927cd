import PyProof.Rows.All
import Wide.All
import Open.Line
import Wide.FinOn
import PyProof.AttrMissHeap
import Wide.BytesFacts
import PyProof.StrLawsRepr
import PyProof.ReprLen
import PyProof.FString2
import PyProof.ReprRoads
import PyProof.Rows.Catch
import PyProof.ExcFactsAll.TypeError
import PyProof.Rows.CatchTuple
import PyProof.ExcStrAll.TypeError
import Lean
import PySem.Challenge.RW_pg0174_02
set_option Elab.async false
set_option maxRecDepth 100000
set_option linter.unusedVariables false
set_option genInjectivity false
set_option genSizeOfSpec false
open PySem PySem.W PyProof.Rows

namespace Mine

set_option genInjectivity true in
/-- pure values -/
inductive PV where
  | none
  | bool (b : Bool)
  | int (i : Int)
  | str (x : Str)
  | bytes (b : Array UInt8)
  | tuple (vs : List PV)
  | list (vs : List PV)
  | dict (es : List (Str × PV))
  | range (a b c : Int)
  | type (n : String)
  deriving Inhabited

noncomputable abbrev Excl := Addr → Prop

noncomputable def tupObj (vs : List Value) (n : Nat) : Obj := { cls := .type "tuple", data := .seq vs.toArray n }
noncomputable def lstObj (vs : List Value) (n : Nat) : Obj := { cls := .type "list", data := .seq vs.toArray n }
mutual
noncomputable def Den (w : World) (X : Excl) (h : Heap) : PV → Value → Prop
  | .none, v => v = .none
  | .bool b, v => v = .bool b
  | .int i, v => ∃ t, v = .int i t
  | .str x, v => x.length ≤ sizeLine ∧ ∃ t, v = .str x t
  | .bytes x, v => ∃ t, v = .bytes x t
  | .tuple pvs, v => pvs.length ≤ sizeLine ∧ ∃ a vs n, v = .ref a ∧ ¬ X a ∧ h.get? a = some (tupObj vs n) ∧ DenL w X h pvs vs
  | .list pvs, v => pvs.length ≤ sizeLine ∧ ∃ a vs n, v = .ref a ∧ ¬ X a ∧ h.get? a = some (lstObj vs n) ∧ DenL w X h pvs vs
  | .dict ps, v => ∃ a es, v = .ref a ∧ ¬ X a ∧ (a == sysModules) = false ∧ (∀ prog, h.DictOf (strKind prog w) a es) ∧ DenD w X h ps es
  | .range a b c, v => ∃ r t u z, v = .ref r ∧ ¬ X r ∧ IsRange h r a b c t u z
  | .type n, v => v = .type n
noncomputable def DenL (w : World) (X : Excl) (h : Heap) : List PV → List Value → Prop
  | [], vs => vs = []
  | p :: ps, vs => ∃ v r, vs = v :: r ∧ Den w X h p v ∧ DenL w X h ps r
noncomputable def DenD (w : World) (X : Excl) (h : Heap) : List (Str × PV) → List (Str × Value) → Prop
  | [], es => es = []
  | (k, p) :: ps, es => ∃ v r, es = (k, v) :: r ∧ Den w X h p v ∧ DenD w X h ps r
end

section
variable {w : World} {X X' : Excl} {h h' : Heap}
mutual
theorem Den.move (hm : ∀ a o, ¬ X a → h.get? a = some o → ¬ X' a ∧ h'.get? a = some o) : ∀ {p : PV} {v : Value}, Den w X h p v → Den w X' h' p v
  | .none, _, d => by simpa only [Den] using d
  | .type _, _, d => by simpa only [Den] using d
  | .bool _, _, d => by simpa only [Den] using d
  | .int _, _, d => by simpa only [Den] using d
  | .str _, _, d => by simpa only [Den] using d
  | .bytes _, _, d => by simpa only [Den] using d
  | .tuple pvs, v, d => by
    simp only [Den] at d ⊢
    obtain ⟨hz, a, vs, n, rfl, hx, hg, dl⟩ := d
    have := hm a _ hx hg
    exact ⟨hz, a, vs, n, rfl, this.1, this.2, DenL.move hm dl⟩
  | .list pvs, v, d => by
    simp only [Den] at d ⊢
    obtain ⟨hz, a, vs, n, rfl, hx, hg, dl⟩ := d
    have := hm a _ hx hg
    exact ⟨hz, a, vs, n, rfl, this.1, this.2, DenL.move hm dl⟩
  | .dict ps, v, d => by
    simp only [Den] at d ⊢
    obtain ⟨a, es, rfl, hx, hsm, hg, dl⟩ := d
    refine ⟨a, es, rfl, ?_, hsm, fun prog => (hg prog).at fun o e => (hm a o hx e).2, DenD.move hm dl⟩
    obtain ⟨o, _, _, ho, _⟩ := hg default
    exact (hm a o hx ho).1
  | .range a b c, v, d => by
    simp only [Den] at d ⊢
    obtain ⟨r, t, u, z, rfl, hx, hg⟩ := d
    have := hm r _ hx hg
    exact ⟨r, t, u, z, rfl, this.1, this.2⟩
theorem DenL.move (hm : ∀ a o, ¬ X a → h.get? a = some o → ¬ X' a ∧ h'.get? a = some o) : ∀ {ps : List PV} {vs : List Value}, DenL w X h ps vs → DenL w X' h' ps vs
  | [], _, d => by simpa only [DenL] using d
  | p :: ps, vs, d => by
    simp only [DenL] at d ⊢
    obtain ⟨v, r, rfl, d1, d2⟩ := d
    exact ⟨v, r, rfl, Den.move hm d1, DenL.move hm d2⟩
theorem DenD.move (hm : ∀ a o, ¬ X a → h.get? a = some o → ¬ X' a ∧ h'.get? a = some o) : ∀ {ps : List (Str × PV)} {es : List (Str × Value)}, DenD w X h ps es → DenD w X' h' ps es
  | [], _, d => by simpa only [DenD] using d
  | (k, p) :: ps, es, d => by
    simp only [DenD] at d ⊢
    obtain ⟨v, r, rfl, d1, d2⟩ := d
    exact ⟨v, r, rfl, Den.move hm d1, DenD.move hm d2⟩
end

theorem Den.keeps (hk : ∀ b o, h.get? b = some o → h'.get? b = some o) {p : PV} {v : Value} (d : Den w X h p v) : Den w X h' p v := d.move fun a o hx e => ⟨hx, hk a o e⟩
theorem DenL.keeps (hk : ∀ b o, h.get? b = some o → h'.get? b = some o) {p : List PV} {v : List Value} (d : DenL w X h p v) : DenL w X h' p v := d.move fun a o hx e => ⟨hx, hk a o e⟩
theorem DenL.length : ∀ {ps : List PV} {vs : List Value}, DenL w X h ps vs → vs.length = ps.length
  | [], _, d => by simp only [DenL] at d; rw [d]; rfl
  | p :: ps, vs, d => by
    simp only [DenL] at d
    obtain ⟨v, r, rfl, _, d2⟩ := d
    simp [DenL.length d2]
theorem DenL.get : ∀ {ps : List PV} {vs : List Value} {i : Nat} {p : PV}, DenL w X h ps vs → ps[i]? = some p → ∃ v, vs[i]? = some v ∧ Den w X h p v
  | [], _, _, _, _, e => by simp at e
  | p :: ps, vs, 0, q, d, e => by
    simp only [DenL] at d
    obtain ⟨v, r, rfl, d1, d2⟩ := d
    simp at e; subst e
    exact ⟨v, rfl, d1⟩
  | p :: ps, vs, i + 1, q, d, e => by
    simp only [DenL] at d
    obtain ⟨v, r, rfl, d1, d2⟩ := d
    have e' : ps[i]? = some q := by simpa using e
    obtain ⟨u, hu, du⟩ := DenL.get d2 e'
    exact ⟨u, by simpa using hu, du⟩
theorem DenL.append : ∀ {ps qs : List PV} {vs us : List Value}, DenL w X h ps vs → DenL w X h qs us → DenL w X h (ps ++ qs) (vs ++ us)
  | [], qs, vs, us, d, e => by simp only [DenL] at d; subst d; simpa using e
  | p :: ps, qs, vs, us, d, e => by
    simp only [DenL] at d
    obtain ⟨v, r, rfl, d1, d2⟩ := d
    simp only [List.cons_append, DenL]
    exact ⟨v, r ++ us, rfl, d1, DenL.append d2 e⟩
theorem DenL.cons {p : PV} {ps : List PV} {v : Value} {vs : List Value} (d : Den w X h p v) (e : DenL w X h ps vs) : DenL w X h (p :: ps) (v :: vs) := by
  simp only [DenL]; exact ⟨v, vs, rfl, d, e⟩
theorem DenL.nil : DenL w X h [] [] := by simp only [DenL]
theorem DenL.one {p : PV} {v : Value} (d : Den w X h p v) : DenL w X h [p] [v] := .cons d .nil
theorem DenL.inv_cons {p : PV} {ps : List PV} {vs : List Value} (d : DenL w X h (p :: ps) vs) : ∃ v r, vs = v :: r ∧ Den w X h p v ∧ DenL w X h ps r := by
  simpa only [DenL] using d
theorem DenL.inv_nil {vs : List Value} (d : DenL w X h [] vs) : vs = [] := by simpa only [DenL] using d
theorem DenL.of_get : ∀ {ps : List PV} {vs : List Value}, ps.length = vs.length → (∀ (i : Nat) (p : PV) (v : Value), ps[i]? = some p → vs[i]? = some v → Den w X h p v) → DenL w X h ps vs
  | [], [], _, _ => .nil
  | [], _ :: _, e, _ => by simp at e
  | _ :: _, [], e, _ => by simp at e
  | p :: ps, v :: vs, e, g => .cons (g 0 p v rfl rfl) (DenL.of_get (by simpa using e) fun i q u h1 h2 => g (i + 1) q u (by simpa using h1) (by simpa using h2))
theorem pairs_any {w : World} {p p' : Program} : ∀ {es : List DictEntry} {kvs : List (Str × Value)}, Pairs (strKind p w) es kvs → Pairs (strKind p' w) es kvs
  | _, _, .nil => .nil
  | _, _, .cons h1 h2 r => .cons h1 h2 (pairs_any r)
theorem DenD.split : ∀ {ps : List (Str × PV)} {kvs : List (Str × Value)}, DenD w X h ps kvs → kvs.map (·.1) = ps.map (·.1) ∧ DenL w X h (ps.map (·.2)) (kvs.map (·.2))
  | [], _, d => by simp only [DenD] at d; subst d; exact ⟨rfl, .nil⟩
  | (k, p) :: ps, kvs, d => by
    simp only [DenD] at d
    obtain ⟨v, r, rfl, d1, d2⟩ := d
    have := DenD.split d2
    exact ⟨by simp [this.1], .cons d1 this.2⟩
theorem DenD.of_split : ∀ {ps : List (Str × PV)} {kvs : List (Str × Value)}, kvs.map (·.1) = ps.map (·.1) → DenL w X h (ps.map (·.2)) (kvs.map (·.2)) → DenD w X h ps kvs
  | [], [], _, _ => by simp only [DenD]
  | [], _ :: _, e, _ => by simp at e
  | _ :: _, [], e, _ => by simp at e
  | (k, p) :: ps, (k', v) :: kvs, e, d => by
    simp only [List.map_cons, List.cons.injEq] at e d
    obtain ⟨rfl, e⟩ := e
    obtain ⟨v', r, e', d1, d2⟩ := d.inv_cons
    cases e'
    simp only [DenD]
    exact ⟨v, kvs, rfl, d1, DenD.of_split e d2⟩
theorem den_dict {ps : List (Str × PV)} {v : Value} (d : Den w X h (.dict ps) v) : ∃ a kvs, v = .ref a ∧ ¬ X a ∧ (a == sysModules) = false ∧ (∀ prog, h.DictOf (strKind prog w) a kvs) ∧ kvs.map (·.1) = ps.map (·.1) ∧ DenL w X h (ps.map (·.2)) (kvs.map (·.2)) := by
  simp only [Den] at d
  obtain ⟨a, kvs, rfl, hx, hsm, hd, dd⟩ := d
  exact ⟨a, kvs, rfl, hx, hsm, hd, dd.split⟩
theorem mk_dict {ps : List (Str × PV)} {a : Addr} {kvs : List (Str × Value)} {prog : Program} (hx : ¬ X a) (hsm : (a == sysModules) = false) (hd : h.DictOf (strKind prog w) a kvs) (hm : kvs.map (·.1) = ps.map (·.1)) (d : DenL w X h (ps.map (·.2)) (kvs.map (·.2))) : Den w X h (.dict ps) (.ref a) := by
  simp only [Den]
  refine ⟨a, kvs, rfl, hx, hsm, fun prog' => ?_, DenD.of_split hm d⟩
  obtain ⟨o, es, ep, ho, hc, hdat, hk, hp, hn⟩ := hd
  refine ⟨o, es, ep, ho, hc, hdat, hk, ?_, hn⟩
  exact pairs_any hp
end

theorem keeps_refl (s : Shared) : Keeps s s := ⟨s.heap, s.toks, rfl, fun _ _ e => e⟩
theorem keeps_tk (s : Shared) (k : Nat) : Keeps s { s with toks := k } := ⟨s.heap, k, rfl, fun _ _ e => e⟩
theorem keeps_push (s : Shared) (o : Obj) (k : Nat) : Keeps s { s with heap := s.heap.push o, toks := k } := ⟨_, k, rfl, fun _ _ e => Heap.get?_push_of_some _ e⟩
theorem keeps_push' (s : Shared) (o : Obj) : Keeps s { s with heap := s.heap.push o } := ⟨_, s.toks, rfl, fun _ _ e => Heap.get?_push_of_some _ e⟩
theorem keeps_trans {a b c : Shared} (x : Keeps a b) (y : Keeps b c) : Keeps a c := by
  obtain ⟨h, t, rfl, k⟩ := x
  obtain ⟨h', t', rfl, k'⟩ := y
  exact ⟨h', t', rfl, fun b o e => k' b o (k b o e)⟩
theorem keeps_mem {a b : Shared} (x : Keeps a b) : ∀ c o, a.heap.get? c = some o → b.heap.get? c = some o := by
  obtain ⟨h, t, rfl, k⟩ := x
  exact k
theorem keeps_of {s : Shared} {h' : Heap} {tk : Nat} (k : ∀ b o, s.heap.get? b = some o → h'.get? b = some o) : Keeps s { s with heap := h', toks := tk } := ⟨h', tk, rfl, k⟩
/-- all excluded addresses lie in the heap (a new object is not excluded) -/
noncomputable def Xlt (X : Excl) (h : Heap) : Prop := ∀ a, X a → ∃ o, h.get? a = some o
theorem Xlt.new {X : Excl} {h : Heap} (x : Xlt X h) {a : Addr} (ha : h.objs.size ≤ a) : ¬ X a := fun q => let ⟨_, e⟩ := x a q; absurd (Heap.lt_size e) (Nat.not_lt.mpr ha)
theorem Xlt.keeps {X : Excl} {h h' : Heap} (x : Xlt X h) (hk : ∀ b o, h.get? b = some o → h'.get? b = some o) : Xlt X h' := fun a ha => let ⟨o, e⟩ := x a ha; ⟨o, hk a o e⟩
noncomputable def Post (w : World) (X : Excl) (s : Shared) (K : PV → Prop) (Q : Value → Shared → Prop) : Prop :=
  ∀ v pv s', K pv → Keeps s s' → Den w X s'.heap pv v → Q v s'
theorem Post.after {w : World} {X : Excl} {s s₁ : Shared} {K : PV → Prop} {Q : Value → Shared → Prop} (h : Post w X s K Q) (k : Keeps s s₁) : Post w X s₁ K Q :=
  fun v pv s' hk ks d => h v pv s' hk (keeps_trans k ks) d
end Mine
namespace Mine

/-- a branch, an obligation: whnf stops here -/
inductive Br (b : Bool) (T F : Prop) : Prop
  | mk (h1 : b = true → T) (h2 : b = false → F)
inductive Ob (P K : Prop) : Prop
  | mk (h1 : P) (h2 : K)
inductive Ex {α : Type} (o : Option α) (K : α → Prop) : Prop
  | mk (v : α) (h : o = some v) (k : K v)
theorem Br.intro {b : Bool} {T F : Prop} (h1 : b = true → T) (h2 : b = false → F) : Br b T F := .mk h1 h2
theorem Ob.intro {P K : Prop} (h1 : P) (h2 : K) : Ob P K := .mk h1 h2
theorem Br.tt {T F : Prop} (h : T) : Br true T F := .mk (fun _ => h) fun e => nomatch e
theorem Br.ff {T F : Prop} (h : F) : Br false T F := .mk (fun e => nomatch e) fun _ => h
theorem Br.elim {b : Bool} {T F : Prop} (h : Br b T F) : (b = true → T) ∧ (b = false → F) := let ⟨h1, h2⟩ := h; ⟨h1, h2⟩
theorem Ob.elim {P K : Prop} (h : Ob P K) : P ∧ K := let ⟨h1, h2⟩ := h; ⟨h1, h2⟩
theorem Ex.intro {α : Type} {o : Option α} {K : α → Prop} (v : α) (h : o = some v) (k : K v) : Ex o K := .mk v h k
theorem Ex.elim {α : Type} {o : Option α} {K : α → Prop} (h : Ex o K) : ∃ v, o = some v ∧ K v := let ⟨v, h, k⟩ := h; ⟨v, h, k⟩

noncomputable def sliceL {α : Type} (xs : List α) (lo hi st : Option Int) : List α :=
  (sliceRange (sliceBounds lo hi st xs.length).1 (sliceBounds lo hi st xs.length).2.1 (sliceBounds lo hi st xs.length).2.2).filterMap (xs[·]?)

noncomputable def asI (p : PV) (F : Int → Prop) : Prop := match p with | .int a => F a | _ => False
noncomputable def asS (p : PV) (F : Str → Prop) : Prop := match p with | .str a => F a | _ => False
noncomputable def asL (p : PV) (F : List PV → Prop) : Prop := match p with | .list a => F a | _ => False
noncomputable def asN (p : PV) (F : String → Prop) : Prop := match p with | .type a => F a | _ => False
theorem asI.inv {p : PV} {F : Int → Prop} (h : asI p F) : ∃ a, p = .int a ∧ F a := by
  cases p <;> first | exact False.elim h | exact ⟨_, rfl, h⟩
theorem asS.inv {p : PV} {F : Str → Prop} (h : asS p F) : ∃ a, p = .str a ∧ F a := by
  cases p <;> first | exact False.elim h | exact ⟨_, rfl, h⟩
theorem asL.inv {p : PV} {F : List PV → Prop} (h : asL p F) : ∃ a, p = .list a ∧ F a := by
  cases p <;> first | exact False.elim h | exact ⟨_, rfl, h⟩
theorem asN.inv {p : PV} {F : String → Prop} (h : asN p F) : ∃ a, p = .type a ∧ F a := by
  cases p <;> first | exact False.elim h | exact ⟨_, rfl, h⟩
noncomputable def gd (b : Bool) (P : Prop) : Prop := match b with | true => P | false => False
theorem gd.inv {b : Bool} {P : Prop} (h : gd b P) : b = true ∧ P := by
  cases b
  · exact False.elim h
  · exact ⟨rfl, h⟩
noncomputable def gs {α : Type} (o : Option α) (F : α → Prop) : Prop := match o with | some a => F a | none => False
theorem gs.inv {α : Type} {o : Option α} {F : α → Prop} (h : gs o F) : ∃ a, o = some a ∧ F a := by
  cases o
  · exact False.elim h
  · exact ⟨_, rfl, h⟩
noncomputable def as0 {α : Type} (l : List α) (T : Prop) (F : α → List α → Prop) : Prop := match l with | [] => T | a :: r => F a r
noncomputable def as1 {α : Type} (l : List α) (F : α → Prop) : Prop := as0 l False fun a r => as0 r (F a) fun _ _ => False
theorem as1.inv {α : Type} {l : List α} {F : α → Prop} (h : as1 l F) : ∃ a, l = [a] ∧ F a := by
  rcases l with _ | ⟨a, _ | ⟨b, r⟩⟩
  · exact False.elim h
  · exact ⟨a, rfl, h⟩
  · exact False.elim h

theorem nsome {α : Type} {P : Prop} {a : α} (h : none = some a) : P := nomatch h
noncomputable def ob {α β : Type} (o : Option α) (F : α → Option β) : Option β := match o with | some a => F a | none => none
theorem ob.inv {α β : Type} {o : Option α} {F : α → Option β} {b : β} (h : ob o F = some b) : ∃ a, o = some a ∧ F a = some b := by
  cases o
  · exact nsome h
  · exact ⟨_, rfl, h⟩
noncomputable def og {β : Type} (c : Bool) (r : Option β) : Option β := match c with | true => r | false => none
theorem og.inv {β : Type} {c : Bool} {r : Option β} {b : β} (h : og c r = some b) : c = true ∧ r = some b := by
  cases c
  · exact nsome h
  · exact ⟨rfl, h⟩
noncomputable def o0 {α β : Type} (l : List α) (r : Option β) (F : α → List α → Option β) : Option β := match l with | [] => r | a :: l => F a l
theorem o0.inv {α β : Type} {l : List α} {r : Option β} {b : β} (h : o0 l r (fun _ _ => none) = some b) : l = [] ∧ r = some b := by
  cases l
  · exact ⟨rfl, h⟩
  · exact nsome h
noncomputable def o1 {α β : Type} (l : List α) (F : α → Option β) : Option β := o0 l none fun a r => o0 r (F a) fun _ _ => none
theorem o1.inv {α β : Type} {l : List α} {F : α → Option β} {b : β} (h : o1 l F = some b) : ∃ a, l = [a] ∧ F a = some b := by
  cases l with
  | nil => exact nsome h
  | cons a r => obtain ⟨rfl, h⟩ := o0.inv h; exact ⟨a, rfl, h⟩
noncomputable def o2 {α β : Type} (l : List α) (F : α → α → Option β) : Option β := o0 l none fun a r => o1 r (F a)
theorem o2.inv {α β : Type} {l : List α} {F : α → α → Option β} {b : β} (h : o2 l F = some b) : ∃ a c, l = [a, c] ∧ F a c = some b := by
  cases l with
  | nil => exact nsome h
  | cons a r => obtain ⟨c, rfl, h⟩ := o1.inv h; exact ⟨a, c, rfl, h⟩

noncomputable def truthW : PV → (Bool → Prop) → Prop
  | .none, K => K false
  | .bool b, K => K b
  | .int i, K => K (i != 0)
  | .str x, K => K (x.length != 0)
  | .list vs, K => K (!vs.isEmpty)
  | .tuple vs, K => K (!vs.isEmpty)
  | _, _ => False

noncomputable def binW (op : Operator) (p q : PV) (K : PV → Prop) : Prop := match op with
  | .Add => (match p with
    | .int a => asI q fun b => K (.int (a + b))
    | .str a => asS q fun b => Ob (a.length + b.length ≤ sizeLine) (K (.str (a ++ b)))
    | .list a => asL q fun b => Ob (a.length + b.length ≤ sizeLine) (K (.list (a ++ b)))
    | _ => False)
  | .Sub => asI p fun a => asI q fun b => K (.int (a - b))
  | .Mult => (match p with
    | .int a => asI q fun b => Ob (IntMulOk a b) (K (.int (a * b)))
    | .list a => asI q fun n => Ob (-(2 ^ 63 : Int) ≤ n ∧ n < 2 ^ 63 ∧ a.length * n.toNat ≤ 2 ^ 24) (K (.list (List.replicate n.toNat a).flatten))
    | _ => False)
  | .FloorDiv => asI p fun a => asI q fun b => Ob (b ≠ 0 ∧ b.natAbs < 1073741824) (K (.int (a.fdiv b)))
  | .Mod => asI p fun a => asI q fun b => Ob (b ≠ 0) (K (.int (a.fmod b)))
  | _ => False

section
variable {prog : Program} {w : World} {A : Around} {E : Value → Shared → Prop} {s : Shared} {X : Excl} {Q : Value → Shared → Prop} {K : PV → Prop}

theorem den_none {v} {h : Heap} (d : Den w X h .none v) : v = .none := by simpa only [Den] using d
theorem den_bool {v b} {h : Heap} (d : Den w X h (.bool b) v) : v = .bool b := by simpa only [Den] using d
theorem den_int {v i} {h : Heap} (d : Den w X h (.int i) v) : ∃ t, v = .int i t := by simpa only [Den] using d
theorem den_str {v x} {h : Heap} (d : Den w X h (.str x) v) : x.length ≤ sizeLine ∧ ∃ t, v = .str x t := by simpa only [Den] using d
theorem den_list {v vs} {h : Heap} (d : Den w X h (.list vs) v) : vs.length ≤ sizeLine ∧ ∃ a us n, v = .ref a ∧ ¬ X a ∧ h.get? a = some (lstObj us n) ∧ DenL w X h vs us := by simpa only [Den] using d
theorem den_tuple {v vs} {h : Heap} (d : Den w X h (.tuple vs) v) : vs.length ≤ sizeLine ∧ ∃ a us n, v = .ref a ∧ ¬ X a ∧ h.get? a = some (tupObj us n) ∧ DenL w X h vs us := by simpa only [Den] using d
theorem den_range {v a b c} {h : Heap} (d : Den w X h (.range a b c) v) : ∃ r t u z, v = .ref r ∧ ¬ X r ∧ IsRange h r a b c t u z := by simpa only [Den] using d
theorem mk_int {i t} {h : Heap} : Den w X h (.int i) (.int i t) := by simp only [Den]; exact ⟨t, rfl⟩
theorem mk_bool {b} {h : Heap} : Den w X h (.bool b) (.bool b) := by simp only [Den]
theorem mk_none {h : Heap} : Den w X h .none .none := by simp only [Den]
theorem mk_str {x t} {h : Heap} (hx : x.length ≤ sizeLine) : Den w X h (.str x) (.str x t) := by simp only [Den]; exact ⟨hx, t, rfl⟩
theorem mk_list {vs us a n} {h : Heap} (hz : vs.length ≤ sizeLine) (hx : ¬ X a) (hg : h.get? a = some (lstObj us n)) (d : DenL w X h vs us) : Den w X h (.list vs) (.ref a) := by
  simp only [Den]; exact ⟨hz, a, us, n, rfl, hx, hg, d⟩
theorem mk_tuple {vs us a n} {h : Heap} (hz : vs.length ≤ sizeLine) (hx : ¬ X a) (hg : h.get? a = some (tupObj us n)) (d : DenL w X h vs us) : Den w X h (.tuple vs) (.ref a) := by
  simp only [Den]; exact ⟨hz, a, us, n, rfl, hx, hg, d⟩
theorem lst_isList {h : Heap} {a : Addr} {us : List Value} {n : Nat} (hg : h.get? a = some (lstObj us n)) : h.IsList a us.toArray := ⟨_, hg, rfl, n, rfl⟩
theorem tup_isTup {h : Heap} {a : Addr} {us : List Value} {n : Nat} (hg : h.get? a = some (tupObj us n)) : IsTup h a us.toArray := ⟨_, hg, rfl, n, rfl⟩
theorem sizeLine_fit {n : Nat} (h : n ≤ sizeLine) : (n : Int) < 2 ^ 63 := by have := sizeLine_eq; omega

theorem truth_op {v : Value} {p : PV} {Qb : Bool → Shared → Prop} {Kb : Bool → Prop} (d : Den w X s.heap p v) (h : truthW p Kb) (hq : ∀ b s', Kb b → Keeps s s' → Qb b s') :
    wpAny (model prog w) A (truthy v) Qb E s := by
  cases p with
  | none => rw [den_none d]; exact wpAny_pure (hq _ _ h (keeps_refl s))
  | bool b => rw [den_bool d]; exact wpAny_truthy_bool (hq _ _ h (keeps_refl s))
  | int i => obtain ⟨t, rfl⟩ := den_int d; exact PyProof.Rows.truthy_int (hq _ _ h (keeps_refl s))
  | str x =>
    obtain ⟨hx, t, rfl⟩ := den_str d
    refine PySem.P.truthy_str (by have := sizeLine_fit hx; omega) ?_
    have e : ((x.length : Int) != 0) = (x.length != 0) := by
      cases hh : x.length with
      | zero => rfl
      | succ n => simp; omega
    rw [e]
    exact hq _ _ h (keeps_tk s _)
  | list vs =>
    obtain ⟨hz, a, us, n, rfl, _, hg, dl⟩ := den_list d
    have hl := dl.length
    refine wpAny_truthy_list (lst_isList hg) (by simp; rw [hl]; exact sizeLine_fit hz) ?_
    have e : (!us.toArray.isEmpty) = !vs.isEmpty := by
      cases vs <;> cases us <;> simp_all
    rw [e]
    exact hq _ _ h (keeps_tk s _)
  | tuple vs =>
    obtain ⟨hz, a, us, n, rfl, _, hg, dl⟩ := den_tuple d
    have hl := dl.length
    refine truthy_tuple (tup_isTup hg) (by simp; rw [hl]; exact sizeLine_fit hz) ?_
    have e : (!us.toArray.isEmpty) = !vs.isEmpty := by
      cases vs <;> cases us <;> simp_all
    rw [e]
    exact hq _ _ h (keeps_tk s _)
  | _ => exact h.elim

theorem str_len_append (a b : Str) : (a ++ b).length = a.length + b.length := Str.length_append a b

theorem denL_flatten {h : Heap} {ps : List PV} {us : List Value} (d : DenL w X h ps us) : ∀ n : Nat, DenL w X h (List.replicate n ps).flatten (List.replicate n us).flatten
  | 0 => by simpa using DenL.nil
  | n + 1 => by
    simp only [List.replicate_succ, List.flatten_cons]
    exact d.append (denL_flatten d n)
theorem foldl_replicate (us : List Value) : ∀ (n : Nat) (acc : Array Value), (List.foldl (fun x1 x2 => x1 ++ x2) acc (List.replicate n us.toArray)) = acc ++ (List.replicate n us).flatten.toArray
  | 0, acc => by simp
  | n + 1, acc => by
    simp only [List.replicate_succ, List.foldl_cons, List.flatten_cons]
    rw [foldl_replicate us n]
    simp [Array.append_assoc]

theorem alloc_den {o : Obj} {v : PV} {k : Nat} (hX : Xlt X s.heap) (hk : K v) (hpost : Post w X s K Q)
    (hd : ¬ X s.heap.objs.size → Den w X (s.heap.push o) v (.ref s.heap.objs.size)) : Q (.ref s.heap.objs.size) { s with heap := s.heap.push o, toks := k } :=
  hpost _ v _ hk (keeps_push s o k) (hd (hX.new (Nat.le_refl _)))

theorem bin_op {op : Operator} {v u : Value} {p q : PV} (hX : Xlt X s.heap) (d : Den w X s.heap p v) (e : Den w X s.heap q u) (h : binW op p q K) (hq : Post w X s K Q) :
    wpAny (model prog w) A (binaryOp op v u) Q E s := by
  cases op with
  | Add =>
    cases p with
    | int a =>
      obtain ⟨b, rfl, h⟩ := asI.inv h
      obtain ⟨t, rfl⟩ := den_int d; obtain ⟨t', rfl⟩ := den_int e
      exact PyProof.Rows.add_int (hq _ _ _ h (keeps_tk s _) mk_int)
    | str a =>
      obtain ⟨b, rfl, h⟩ := asS.inv h
      obtain ⟨_, t, rfl⟩ := den_str d; obtain ⟨_, t', rfl⟩ := den_str e
      obtain ⟨hz, h⟩ := h.elim
      exact PyProof.Rows.add_str (fun t' tk => hq _ _ _ h (keeps_tk s _) (mk_str (by rw [str_len_append]; exact hz))) hz
    | list vs =>
      obtain ⟨ws, rfl, h⟩ := asL.inv h
      obtain ⟨_, a, us, n, rfl, _, hg, dl⟩ := den_list d
      obtain ⟨_, b, us', n', rfl, _, hg', dl'⟩ := den_list e
      obtain ⟨hz, h⟩ := h.elim
      refine PySem.P.add_list (n := n) (n2 := n') hg hg' ?_ (by simpa [dl.length, dl'.length] using hz)
      rw [List.append_toArray]
      refine alloc_den (k := s.toks) hX h hq fun hx => ?_
      refine mk_list (by simpa using hz) hx (n := 0) (us := us ++ us') (Heap.get?_push_size _ rfl) ?_
      exact (dl.append dl').keeps fun _ _ e => Heap.get?_push_of_some _ e
    | _ => exact False.elim h
  | Sub =>
    obtain ⟨a, rfl, h⟩ := asI.inv h; obtain ⟨b, rfl, h⟩ := asI.inv h
    obtain ⟨t, rfl⟩ := den_int d; obtain ⟨t', rfl⟩ := den_int e
    exact PyProof.Rows.sub_int (hq _ _ _ h (keeps_tk s _) mk_int)
  | Mult =>
    cases p with
    | int a =>
      obtain ⟨b, rfl, h⟩ := asI.inv h
      obtain ⟨t, rfl⟩ := den_int d; obtain ⟨t', rfl⟩ := den_int e
      obtain ⟨hm, h⟩ := h.elim
      exact PyProof.Rows.mul_int (hq _ _ _ h (keeps_tk s _) mk_int) hm
    | list vs =>
      obtain ⟨m, rfl, h⟩ := asI.inv h
      obtain ⟨_, a, us, n, rfl, _, hg, dl⟩ := den_list d
      obtain ⟨t', rfl⟩ := den_int e
      obtain ⟨⟨h0, h1, h2⟩, h⟩ := h.elim
      have hl : us.toArray.size * Int.toNat m ≤ 2 ^ 24 := by rw [List.size_toArray, dl.length]; exact h2
      have back : ∀ k : Nat, (a : Addr) = a → Q (.ref s.heap.objs.size) { s with heap := s.heap.push { cls := Value.type "list", data := Data.seq (List.foldl (fun x1 x2 => x1 ++ x2) #[] (List.replicate (if us.toArray.isEmpty = true then 0 else Int.toNat m) us.toArray)) }, toks := k } := by
        intro k _
        rw [foldl_replicate]
        refine alloc_den hX h hq fun hx => ?_
        have e : (List.replicate (if us.toArray.isEmpty = true then 0 else Int.toNat m) us).flatten = (List.replicate (Int.toNat m) us).flatten := by
          cases us with
          | nil => simp
          | cons x r => simp
        rw [e]
        refine mk_list ?_ hx (n := 0) (us := (List.replicate (Int.toNat m) us).flatten) (by rw [Array.empty_append]; exact Heap.get?_push_size _ rfl) ?_
        · rw [List.length_flatten]
          simp only [List.map_replicate, List.sum_replicate_nat]
          have := sizeLine_eq
          rw [Nat.mul_comm]
          omega
        · exact (denL_flatten dl _).keeps fun _ _ e => Heap.get?_push_of_some _ e
      exact wpAny_binaryOp_repeat_ref (T := "list") (U := "int") (by decide) ⟨_, hg, rfl⟩ (fun s' => typeIs_int s' _ _) noFill_list_mul PySem.F.fills_int_mul PySem.F.slot_int_rmul repeat_list PySem.F.slot_int_index.lookup
        (call_meets PySem.F.slot_int_rmul (typeIs_int s _ _) PySem.F.entry_int_rmul (PySem.F.args_int_rmul_2 _ _) (int___rmul___int_list _ _ a us.toArray n)
          ⟨hg, rfl, ⟨_, hg, rfl⟩, call_meets PySem.F.slot_list_mul ⟨_, hg, rfl⟩ PySem.F.entry_list_mul (PySem.F.args_list_mul_2 _ _)
            (AutoListH.list___mul___list_int_3 a us.toArray n _ _ (by simp [Builtin.List.listFitsIndex]; omega) (by omega) (by have := sizeLine_eq; simp only [Builtin.List.listTooLong, decide_eq_true_eq]; omega))
            ⟨hg, back _ rfl⟩⟩)
    | _ => exact False.elim h
  | FloorDiv =>
    obtain ⟨a, rfl, h⟩ := asI.inv h; obtain ⟨b, rfl, h⟩ := asI.inv h
    obtain ⟨t, rfl⟩ := den_int d; obtain ⟨t', rfl⟩ := den_int e
    obtain ⟨⟨h0, h1⟩, h⟩ := h.elim
    exact PyProof.Rows.floordiv_int h0 (hq _ _ _ h (keeps_tk s _) mk_int) (.inl (PyProof.noPylong_small h1))
  | Mod =>
    obtain ⟨a, rfl, h⟩ := asI.inv h; obtain ⟨b, rfl, h⟩ := asI.inv h
    obtain ⟨t, rfl⟩ := den_int d; obtain ⟨t', rfl⟩ := den_int e
    obtain ⟨h0, h⟩ := h.elim
    exact PyProof.Rows.mod_int h0 (hq _ _ _ h (keeps_tk s _) mk_int)
  | _ => exact False.elim h
end
end Mine
namespace Mine

noncomputable def ints? : List PV → Option (List Int)
  | [] => some []
  | p :: r => (match p with
    | .int i => (match ints? r with | some l => some (i :: l) | none => none)
    | _ => none)
theorem ints_inv {vs : List PV} : ∀ {ns : List Int}, ints? vs = some ns → vs = ns.map PV.int := by
  induction vs with
  | nil => intro ns h; cases h; rfl
  | cons p r ih =>
    intro ns h
    unfold ints? at h
    cases p with
    | int i =>
      simp only at h
      cases hr : ints? r with
      | none => rw [hr] at h; cases h
      | some l => rw [hr] at h; cases h; rw [ih hr]; rfl
    | _ => cases h
theorem ints_map (ns : List Int) : ints? (ns.map PV.int) = some ns := by
  induction ns with
  | nil => rfl
  | cons a r ih => simp only [List.map_cons, ints?, ih]
noncomputable def strs? : List PV → Option (List Str)
  | [] => some []
  | p :: r => (match p with
    | .str i => (match strs? r with | some l => some (i :: l) | none => none)
    | _ => none)
theorem strs_inv {vs : List PV} : ∀ {ns : List Str}, strs? vs = some ns → vs = ns.map PV.str := by
  induction vs with
  | nil => intro ns h; cases h; rfl
  | cons p r ih =>
    intro ns h
    unfold strs? at h
    cases p with
    | str i =>
      simp only at h
      cases hr : strs? r with
      | none => rw [hr] at h; cases h
      | some l => rw [hr] at h; cases h; rw [ih hr]; rfl
    | _ => cases h
theorem denL_strs {w : World} {X : Excl} {h : Heap} {ns : List Str} : ∀ {us : List Value}, DenL w X h (ns.map PV.str) us → ∃ l : List (Str × Tok), us = strValues l ∧ l.map (·.1) = ns := by
  induction ns with
  | nil => intro us d; exact ⟨[], d.inv_nil, rfl⟩
  | cons a r ih =>
    intro us d
    obtain ⟨v, us, rfl, d1, d2⟩ := d.inv_cons
    obtain ⟨_, t, rfl⟩ := den_str d1
    obtain ⟨l, rfl, e⟩ := ih d2
    exact ⟨(a, t) :: l, rfl, congrArg (a :: ·) e⟩

mutual
noncomputable def pyOf : PV → Option PyData
  | .none => some .none
  | .bool b => some (.bool b)
  | .int i => some (.int i)
  | .str x => some (.str x)
  | .list vs => (match pyOfs vs with | some l => some (.list l) | none => none)
  | .tuple vs => (match pyOfs vs with | some l => some (.tuple l) | none => none)
  | _ => none
noncomputable def pyOfs : List PV → Option (List PyData)
  | [] => some []
  | p :: ps => (match pyOf p with
    | some d => (match pyOfs ps with | some l => some (d :: l) | none => none)
    | none => none)
end
mutual
theorem den_reads {w : World} {X : Excl} {h : Heap} : ∀ (p : PV) {v : Value} {d : PyData}, pyOf p = some d → Den w X h p v → ∃ as, Reads h v d as
  | .none, v, d, e, dv => by cases e; cases (show v = .none by simpa only [Den] using dv); exact ⟨_, .none⟩
  | .bool b, v, d, e, dv => by cases e; rw [den_bool dv]; exact ⟨_, .bool b⟩
  | .int i, v, d, e, dv => by cases e; obtain ⟨t, rfl⟩ := den_int dv; exact ⟨_, .int i t⟩
  | .str x, v, d, e, dv => by cases e; obtain ⟨_, t, rfl⟩ := den_str dv; exact ⟨_, .str x t⟩
  | .list vs, v, d, e, dv => by
    simp only [pyOf] at e
    cases hl : pyOfs vs with
    | none => rw [hl] at e; cases e
    | some l =>
      rw [hl] at e
      cases e
      obtain ⟨_, a, us, n, rfl, _, hg, dl⟩ := den_list dv
      obtain ⟨as, r⟩ := denL_reads vs hl dl
      exact ⟨_, .list hg rfl rfl r⟩
  | .tuple vs, v, d, e, dv => by
    simp only [pyOf] at e
    cases hl : pyOfs vs with
    | none => rw [hl] at e; cases e
    | some l =>
      rw [hl] at e
      cases e
      obtain ⟨_, a, us, n, rfl, _, hg, dl⟩ := den_tuple dv
      obtain ⟨as, r⟩ := denL_reads vs hl dl
      exact ⟨_, .tuple hg rfl rfl r⟩
  | .bytes _, _, _, e, _ => by cases e
  | .dict _, _, _, e, _ => by cases e
  | .range _ _ _, _, _, e, _ => by cases e
  | .type _, _, _, e, _ => by cases e
theorem denL_reads {w : World} {X : Excl} {h : Heap} : ∀ (ps : List PV) {vs : List Value} {ds : List PyData}, pyOfs ps = some ds → DenL w X h ps vs → ∃ as, ReadsAll h vs ds as
  | [], vs, ds, e, dl => by cases e; rw [dl.inv_nil]; exact ⟨_, .nil⟩
  | p :: ps, vs, ds, e, dl => by
    obtain ⟨v, r, rfl, d1, d2⟩ := dl.inv_cons
    simp only [pyOfs] at e
    cases hd : pyOf p with
    | none => rw [hd] at e; cases e
    | some d =>
      rw [hd] at e
      cases hl : pyOfs ps with
      | none => rw [hl] at e; cases e
      | some l =>
        rw [hl] at e
        cases e
        obtain ⟨as, r1⟩ := den_reads p hd d1
        obtain ⟨bs, r2⟩ := denL_reads ps hl d2
        exact ⟨_, .cons r1 r2⟩
end
theorem pyOfs_strs (ns : List Str) : pyOfs (ns.map PV.str) = some (ns.map PyData.str) := by
  induction ns with
  | nil => simp only [List.map_nil, pyOfs]
  | cons a r ih => simp only [List.map_cons, pyOfs, pyOf, ih]
noncomputable def dataW (p q : PV) (K : Bool → Prop) : Prop :=
  Ex (pyOf p) fun d => Ex (pyOf q) fun e => Ob (d.canLay0 = true ∧ e.canLay0 = true ∧ d.depth ≤ 16) (K (PyData.eqv d e))
noncomputable def isStr (x : Str) : Value → Bool
  | .str y _ => y == x
  | _ => false
noncomputable def isInt (i : Int) : Value → Bool
  | .int j _ => j == i
  | _ => false
/-- what a text or a number is sought in -/
noncomputable def inSeq (p : PV) (vs : List PV) (K : Bool → Prop) : Prop := match p with
  | .str x => Ex (strs? vs) fun ns => K (ns.any (· == x))
  | .int i => Ex (ints? vs) fun ns => K (ns.any (· == i))
  | _ => False
noncomputable def inW (p q : PV) (K : Bool → Prop) : Prop := match q with
  | .str b => asS p fun a => K (Txt.contains b a)
  | .list vs => inSeq p vs K
  | .tuple vs => inSeq p vs K
  | .dict ps => asS p fun a => K ((ps.map (·.1)).any (· == a))
  | _ => False

noncomputable def cmpW (op : CmpOp) (p q : PV) (K : PV → Prop) : Prop := match op with
  | .Eq => (match p with
    | .int a => asI q fun b => K (.bool (a == b))
    | .str a => asS q fun b => K (.bool (a == b))
    | .list vs => dataW (.list vs) q fun b => K (.bool b)
    | .tuple vs => dataW (.tuple vs) q fun b => K (.bool b)
    | _ => False)
  | .NotEq => (match p with
    | .int a => asI q fun b => K (.bool (a != b))
    | .str a => asS q fun b => K (.bool (a != b))
    | .list vs => dataW (.list vs) q fun b => K (.bool (!b))
    | .tuple vs => dataW (.tuple vs) q fun b => K (.bool (!b))
    | _ => False)
  | .Lt => asI p fun a => asI q fun b => K (.bool (decide (a < b)))
  | .Gt => asI p fun a => asI q fun b => K (.bool (decide (b < a)))
  | .GtE => asI p fun a => asI q fun b => K (.bool (decide (b ≤ a)))
  | .In => inW p q fun b => K (.bool b)
  | .IsNot => asN p fun a => asN q fun b => K (.bool (!(a == b)))
  | _ => False

section
variable {prog : Program} {w : World} {A : Around} {E : Value → Shared → Prop} {s : Shared} {X : Excl} {Q : Value → Shared → Prop} {K : PV → Prop}

theorem den_type {v n} {h : Heap} (d : Den w X h (.type n) v) : v = .type n := by simpa only [Den] using d
theorem mk_type {n} {h : Heap} : Den w X h (.type n) (.type n) := by simp only [Den]

theorem data_eq {v u : Value} {p q : PV} {Kb : Bool → Prop} (hA : A.units + 64 < cLine) (d : Den w X s.heap p v) (e : Den w X s.heap q u) (h : dataW p q Kb) (hq : ∀ b, Kb b → Q (.bool b) s) : wpAny (model prog w) A (compareOp .Eq v u) Q E s := by
  obtain ⟨dd, h1, h⟩ := Ex.elim h
  obtain ⟨de, h2, h⟩ := Ex.elim h
  obtain ⟨⟨h3, h4, h5⟩, h⟩ := Ob.elim h
  obtain ⟨as, ra⟩ := den_reads p h1 d
  obtain ⟨bs, rb⟩ := den_reads q h2 e
  exact SeqAt.compareEq_reads ra rb h3 h4 (Nat.lt_of_le_of_lt (Nat.add_le_add_left (Nat.le_trans (Nat.min_le_left _ _) (Nat.le_trans h5 (by decide))) _) hA) (hq _ h)
theorem data_ne {v u : Value} {p q : PV} {Kb : Bool → Prop} (hA : A.units + 64 < cLine) (d : Den w X s.heap p v) (e : Den w X s.heap q u) (h : dataW p q Kb) (hq : ∀ b, Kb b → Q (.bool (!b)) s) : wpAny (model prog w) A (compareOp .NotEq v u) Q E s := by
  obtain ⟨dd, h1, h⟩ := Ex.elim h
  obtain ⟨de, h2, h⟩ := Ex.elim h
  obtain ⟨⟨h3, h4, h5⟩, h⟩ := Ob.elim h
  obtain ⟨as, ra⟩ := den_reads p h1 d
  obtain ⟨bs, rb⟩ := den_reads q h2 e
  exact SeqAt.compareNe_reads ra rb h3 h4 (Nat.lt_of_le_of_lt (Nat.add_le_add_left (Nat.le_trans (Nat.min_le_left _ _) (Nat.le_trans h5 (by decide))) _) hA) (hq _ h)
theorem any_str {x : Str} {l : List (Str × Tok)} : (strValues l).toArray.any (isStr x) = (l.map (·.1)).any (· == x) := by
  rw [List.any_toArray]
  induction l with
  | nil => rfl
  | cons a l ih => exact congrArg ((a.1 == x) || ·) ih
theorem any_int {i : Int} {ns : List Int} : ∀ {us : List Value}, DenL w X s.heap (ns.map PV.int) us → us.toArray.any (isInt i) = ns.any (· == i) := by
  induction ns with
  | nil => intro us d; rw [d.inv_nil]; simp
  | cons a r ih =>
    intro us d
    obtain ⟨v, us, rfl, d1, d2⟩ := d.inv_cons
    obtain ⟨t, rfl⟩ := den_int d1
    have := ih d2
    rw [List.any_toArray] at this ⊢
    exact congrArg ((a == i) || ·) this
theorem str_item {x : Str} {t : Tok} {l : List (Str × Tok)} (B : Around) : ∀ y, y ∈ (strValues l).toArray → SeqAt.EqAt B s y (.str x t) (isStr x y) := by
  intro y hy
  rw [List.mem_toArray] at hy
  obtain ⟨q, _, rfl⟩ := List.mem_map.mp hy
  exact (eqGives_str q.1 x q.2 t).at B s
theorem int_item {i : Int} {t : Tok} {ns : List Int} {us : List Value} (d : DenL w X s.heap (ns.map PV.int) us) (B : Around) : ∀ y, y ∈ us.toArray → SeqAt.EqAt B s y (.int i t) (isInt i y) := by
  intro y hy
  rw [List.mem_toArray] at hy
  obtain ⟨k, hk, rfl⟩ := List.getElem_of_mem hy
  have hl := d.length
  obtain ⟨v, hv, dv⟩ := d.get (List.getElem?_eq_getElem (l := ns.map PV.int) (i := k) (by omega))
  rw [List.getElem?_eq_getElem hk] at hv
  cases hv
  rw [List.getElem_map] at dv
  obtain ⟨u, e⟩ := den_int dv
  rw [e]
  exact (MeetsSeq.EqGives.int _ i u t).at B s
theorem valueAt_some (kvs : List (Str × Value)) (a : Str) : (valueAt kvs a).isSome = (kvs.map (·.1)).any (· == a) := by
  unfold valueAt
  induction kvs with
  | nil => rfl
  | cons q r ih =>
    simp only [List.find?_cons, List.map_cons, List.any_cons]
    by_cases h : q.1 = a
    · simp [h]
    · have : (q.1 == a) = false := by simpa using h
      rw [this, decide_eq_false h]
      simpa using ih
theorem in_op {v u : Value} {p q : PV} {Kb : Bool → Prop} (d : Den w X s.heap p v) (e : Den w X s.heap q u) (h : inW p q Kb) (hq : ∀ b s', Kb b → Keeps s s' → Q (.bool b) s') : wpAny (model prog w) A (compareOp .In v u) Q E s := by
  cases q with
  | str b =>
    obtain ⟨a, rfl, h⟩ := asS.inv h
    obtain ⟨_, t, rfl⟩ := den_str d; obtain ⟨_, t', rfl⟩ := den_str e
    exact SB.contains (hq _ s h (keeps_refl s))
  | list vs =>
    obtain ⟨_, a, us, n, rfl, _, hg, dl⟩ := den_list e
    cases p with
    | str x =>
      obtain ⟨ns, hn, h2⟩ := Ex.elim h
      cases strs_inv hn
      obtain ⟨_, t, rfl⟩ := den_str d
      obtain ⟨l, rfl, rfl⟩ := denL_strs dl
      exact SeqAt.in_listAt (isStr x) (lst_isList hg) (str_item _) (any_str ▸ hq _ s h2 (keeps_refl s))
    | int i =>
      obtain ⟨ns, hn, h2⟩ := Ex.elim h
      cases ints_inv hn
      obtain ⟨t, rfl⟩ := den_int d
      exact SeqAt.in_listAt (isInt i) (lst_isList hg) (int_item dl _) (any_int dl ▸ hq _ s h2 (keeps_refl s))
    | _ => exact False.elim h
  | tuple vs =>
    obtain ⟨_, a, us, n, rfl, _, hg, dl⟩ := den_tuple e
    cases p with
    | str x =>
      obtain ⟨ns, hn, h2⟩ := Ex.elim h
      cases strs_inv hn
      obtain ⟨_, t, rfl⟩ := den_str d
      obtain ⟨l, rfl, rfl⟩ := denL_strs dl
      exact SeqAt.in_tupleAt (isStr x) (tup_isTup hg) (str_item _) (any_str ▸ hq _ s h2 (keeps_refl s))
    | int i =>
      obtain ⟨ns, hn, h2⟩ := Ex.elim h
      cases ints_inv hn
      obtain ⟨t, rfl⟩ := den_int d
      exact SeqAt.in_tupleAt (isInt i) (tup_isTup hg) (int_item dl _) (any_int dl ▸ hq _ s h2 (keeps_refl s))
    | _ => exact False.elim h
  | dict ps =>
    obtain ⟨a, rfl, h⟩ := asS.inv h
    obtain ⟨_, t, rfl⟩ := den_str d
    obtain ⟨b, kvs, rfl, _, hsm, hd, he, dl⟩ := den_dict e
    refine wpAny_in_of (strKind_is prog w a t) hsm (hd prog).mapOf ?_
    rw [valueAt_some, he]
    exact hq _ _ h (keeps_tk _ _)
  | _ => exact False.elim h

theorem cmp_op {op : CmpOp} {v u : Value} {p q : PV} (hA : A.units + 64 < cLine) (d : Den w X s.heap p v) (e : Den w X s.heap q u) (h : cmpW op p q K) (hq : Post w X s K Q) :
    wpAny (model prog w) A (compareOp op v u) Q E s := by
  cases op with
  | Eq =>
    cases p with
    | int a =>
      obtain ⟨b, rfl, h⟩ := asI.inv h
      obtain ⟨t, rfl⟩ := den_int d; obtain ⟨t', rfl⟩ := den_int e
      exact PyProof.Rows.eq_int (hq _ _ _ h (keeps_refl s) mk_bool)
    | str a =>
      obtain ⟨b, rfl, h⟩ := asS.inv h
      obtain ⟨_, t, rfl⟩ := den_str d; obtain ⟨_, t', rfl⟩ := den_str e
      exact PyProof.Rows.eq_str (hq _ _ _ h (keeps_refl s) mk_bool)
    | list vs => exact data_eq (Kb := fun b => K (.bool b)) hA d e h fun b hb => hq _ _ _ hb (keeps_refl s) mk_bool
    | tuple vs => exact data_eq (Kb := fun b => K (.bool b)) hA d e h fun b hb => hq _ _ _ hb (keeps_refl s) mk_bool
    | _ => exact False.elim h
  | NotEq =>
    cases p with
    | int a =>
      obtain ⟨b, rfl, h⟩ := asI.inv h
      obtain ⟨t, rfl⟩ := den_int d; obtain ⟨t', rfl⟩ := den_int e
      exact PyProof.Rows.ne_int (hq _ _ _ h (keeps_refl s) mk_bool)
    | str a =>
      obtain ⟨b, rfl, h⟩ := asS.inv h
      obtain ⟨_, t, rfl⟩ := den_str d; obtain ⟨_, t', rfl⟩ := den_str e
      exact PyProof.Rows.ne_str (hq _ _ _ h (keeps_refl s) mk_bool)
    | list vs => exact data_ne (Kb := fun b => K (.bool (!b))) hA d e h fun b hb => hq _ _ _ hb (keeps_refl s) mk_bool
    | tuple vs => exact data_ne (Kb := fun b => K (.bool (!b))) hA d e h fun b hb => hq _ _ _ hb (keeps_refl s) mk_bool
    | _ => exact False.elim h
  | Lt =>
    obtain ⟨a, rfl, h⟩ := asI.inv h; obtain ⟨b, rfl, h⟩ := asI.inv h
    obtain ⟨t, rfl⟩ := den_int d; obtain ⟨t', rfl⟩ := den_int e
    exact PyProof.Rows.lt_int (hq _ _ _ h (keeps_refl s) mk_bool)
  | Gt =>
    obtain ⟨a, rfl, h⟩ := asI.inv h; obtain ⟨b, rfl, h⟩ := asI.inv h
    obtain ⟨t, rfl⟩ := den_int d; obtain ⟨t', rfl⟩ := den_int e
    exact PyProof.Rows.gt_int (hq _ _ _ h (keeps_refl s) mk_bool)
  | GtE =>
    obtain ⟨a, rfl, h⟩ := asI.inv h; obtain ⟨b, rfl, h⟩ := asI.inv h
    obtain ⟨t, rfl⟩ := den_int d; obtain ⟨t', rfl⟩ := den_int e
    exact PyProof.Rows.ge_int (hq _ _ _ h (keeps_refl s) mk_bool)
  | In => exact in_op (Kb := fun b => K (.bool b)) d e h fun b s2 hb k2 => hq _ _ _ hb k2 mk_bool
  | IsNot =>
    obtain ⟨a, rfl, h⟩ := asN.inv h; obtain ⟨b, rfl, h⟩ := asN.inv h
    rw [den_type d, den_type e]
    refine wpAny_isNot_plain rfl ?_
    have e : (Value.type a == Value.type b) = (a == b) := by rw [Bool.eq_iff_iff, beq_iff_eq, beq_iff_eq, Value.type.injEq]
    rw [e]
    exact hq _ _ _ h (keeps_refl s) mk_bool
  | _ => exact False.elim h

noncomputable def rangeItems (a b c : Int) : List PV := (List.range (Builtin.Range.rangeSize a b c).toNat).map fun i : Nat => PV.int (a + i * c)
noncomputable def iterW : PV → (List PV → Prop) → Prop
  | .list vs, K => K vs
  | .tuple vs, K => K vs
  | .str x, K => K (x.cps.toList.map fun c => PV.str ⟨#[c]⟩)
  | .range a b c, K => Ob (Builtin.Range.small a b c = true ∧ 0 ≤ Builtin.Range.rangeSize a b c ∧ Builtin.Range.rangeSize a b c ≤ sizeLine) (K (rangeItems a b c))
  | _, _ => False

noncomputable def plainIter (n : String) : Bool := !(["enumerate", "zip", "dict_itemiterator", "dict_reverseitemiterator", "odict_iterator", "itertools.zip_longest", "itertools.pairwise"].contains n)
structure IterAt (prog : Program) (w : World) (X : Excl) (xs : List PV) (I : Addr) (h : Heap) (fp : List Addr) (P : Nat → Value → Prop) (St : Nat → Heap → Prop) : Prop where
  walks : ∀ A : Around, A.handled = none → Walks prog w A I fp [I] xs.length P St
  start : St 0 h
  out : ∀ b ∈ fp, b ≠ I → ¬ X b
  old : ∀ b ∈ fp, b < h.objs.size
  self : ¬ X I
  live : ∀ i h, St i h → ∃ o, h.get? I = some o
  item : ∀ (X' : Excl) i v h', (∀ b o, ¬ X b → b ≠ I → h.get? b = some o → ¬ X' b ∧ h'.get? b = some o) → P i v → ∃ p, xs[i]? = some p ∧ Den w X' h' p v
  len : xs.length ≤ sizeLine
  newI : h.objs.size = I + 1
  cls : ∀ i h, St i h → ∃ o n, h.get? I = some o ∧ o.cls = .type n ∧ plainIter n = true
  alive : ∀ b ∈ fp, ∃ o, h.get? b = some o

theorem iter_op {v : Value} {p : PV} {Kl : List PV → Prop} {Qi : Value → Shared → Prop} (hX : Xlt X s.heap) (d : Den w X s.heap p v) (h : iterW p Kl)
    (hq : ∀ xs s' fp P St, Kl xs → Keeps s s' → IterAt prog w X xs s.heap.objs.size s'.heap fp P St → Qi (.ref s.heap.objs.size) s') :
    wpAny (model prog w) A (pyIter v) Qi E s := by
  have hI : ¬ X s.heap.objs.size := hX.new (Nat.le_refl _)
  -- what stood before stands, the new iterator apart
  have later : ∀ (X' : Excl) (o : Obj) (h' : Heap) {q : PV} {u : Value}, Den w X s.heap q u → (∀ b o', ¬ X b → b ≠ s.heap.objs.size → (s.heap.push o).get? b = some o' → ¬ X' b ∧ h'.get? b = some o') →
      Den w X' h' q u := fun X' o h' q u d hk => d.move fun a o' hx e => hk a o' hx (Nat.ne_of_lt (Heap.lt_size e)) (Heap.get?_push_of_some _ e)
  cases p with
  | list vs =>
    obtain ⟨hz, a, us, n, rfl, hx, hg, dl⟩ := den_list d
    have hl := dl.length
    have hl' := lst_isList hg
    have hlt : a < s.heap.objs.size := Heap.lt_size hg
    refine wpAny_pyIter_list hl' (hq vs _ [s.heap.objs.size, a] (fun i v => us.toArray[i]? = some v) (fun i h => h.IsListIter s.heap.objs.size a i ∧ h.IsList a us.toArray) h (keeps_push' s _) ⟨fun A hA => ?_, ?_, ?_, ?_, hI, (fun i h st => let ⟨o, e, _⟩ := st.1; ⟨o, e⟩), ?_, hz, by simp, ?_, ?_⟩)
    · have := Walks.list (prog := prog) (w := w) hA s.heap.objs.size a (Nat.ne_of_lt hlt) us.toArray
      simpa [hl] using this
    · exact ⟨⟨_, Heap.get?_push_size _ rfl, rfl, rfl⟩, hl'.push _⟩
    · intro b hb hne
      simp at hb
      rcases hb with rfl | rfl
      · exact absurd rfl hne
      · exact hx
    · intro b hb
      rw [Heap.size_push]
      rcases List.mem_cons.mp hb with e | hb
      · rw [e]; exact Nat.lt_succ_self _
      · rw [List.mem_singleton.mp hb]; exact Nat.lt_succ_of_lt hlt
    · intro X' i v h' hk hv
      have hv' : us[i]? = some v := by simpa using hv
      have hi : i < vs.length := by
        have := (List.getElem?_eq_some_iff.mp hv').1
        omega
      obtain ⟨u, hu, du⟩ := dl.get (List.getElem?_eq_getElem hi)
      rw [hv'] at hu; cases hu
      exact ⟨_, List.getElem?_eq_getElem hi, later X' _ h' du hk⟩
    · intro i h st
      obtain ⟨o, e, ec, _⟩ := st.1
      exact ⟨o, _, e, ec, by decide⟩
    · intro b hb
      rcases List.mem_cons.mp hb with e | hb
      · rw [e]; exact ⟨_, Heap.get?_push_size _ rfl⟩
      · rw [List.mem_singleton.mp hb]; exact ⟨_, Heap.get?_push_of_some _ hg⟩
  | tuple vs =>
    obtain ⟨hz, a, us, n, rfl, hx, hg, dl⟩ := den_tuple d
    have hl := dl.length
    have hl' : s.heap.IsTuple a us.toArray := ⟨_, hg, rfl, n, rfl⟩
    have hlt : a < s.heap.objs.size := Heap.lt_size hg
    refine wpAny_pyIter_tuple hl' (hq vs _ [s.heap.objs.size, a] (fun i v => us.toArray[i]? = some v) (fun i h => h.IsTupleIter s.heap.objs.size a i ∧ h.IsTuple a us.toArray) h (keeps_push' s _) ⟨fun A hA => ?_, ?_, ?_, ?_, hI, (fun i h st => let ⟨o, e, _⟩ := st.1; ⟨o, e⟩), ?_, hz, by simp, ?_, ?_⟩)
    · have := Walks.tuple (prog := prog) (w := w) hA s.heap.objs.size a (Nat.ne_of_lt hlt) us.toArray
      simpa [hl] using this
    · exact ⟨⟨_, Heap.get?_push_size _ rfl, rfl, rfl⟩, hl'.push _⟩
    · intro b hb hne
      simp at hb
      rcases hb with rfl | rfl
      · exact absurd rfl hne
      · exact hx
    · intro b hb
      rw [Heap.size_push]
      rcases List.mem_cons.mp hb with e | hb
      · rw [e]; exact Nat.lt_succ_self _
      · rw [List.mem_singleton.mp hb]; exact Nat.lt_succ_of_lt hlt
    · intro X' i v h' hk hv
      have hv' : us[i]? = some v := by simpa using hv
      have hi : i < vs.length := by
        have := (List.getElem?_eq_some_iff.mp hv').1
        omega
      obtain ⟨u, hu, du⟩ := dl.get (List.getElem?_eq_getElem hi)
      rw [hv'] at hu; cases hu
      exact ⟨_, List.getElem?_eq_getElem hi, later X' _ h' du hk⟩
    · intro i h st
      obtain ⟨o, e, ec, _⟩ := st.1
      exact ⟨o, _, e, ec, by decide⟩
    · intro b hb
      rcases List.mem_cons.mp hb with e | hb
      · rw [e]; exact ⟨_, Heap.get?_push_size _ rfl⟩
      · rw [List.mem_singleton.mp hb]; exact ⟨_, Heap.get?_push_of_some _ hg⟩
  | str x =>
    obtain ⟨hz, t, rfl⟩ := den_str d
    have fin : ∀ (o : Obj) (St : Nat → Heap → Prop), (∀ A' : Around, A'.handled = none → Walks prog w A' s.heap.objs.size [s.heap.objs.size] [s.heap.objs.size] x.cps.size (SignAt x) St) →
        (∀ i h, St i h → ∃ o n, h.get? s.heap.objs.size = some o ∧ o.cls = .type n ∧ plainIter n = true) → St 0 (s.heap.push o) → Qi (.ref s.heap.objs.size) { s with heap := s.heap.push o } := by
     intro o St hW hlive hst
     refine hq _ _ [s.heap.objs.size] (SignAt x) St h (keeps_push' s _) ⟨fun A hA => ?_, hst, ?_, ?_, hI, (fun i h st => let ⟨o, _, e, _⟩ := hlive i h st; ⟨o, e⟩), ?_, ?_, by simp, hlive, fun b hb => ?_⟩
     · have := hW A hA
       simpa using this
     · intro b hb hne
       simp at hb
       exact absurd hb hne
     · intro b hb
       simp at hb
       simp [hb]
     · rintro X' i v h' hk ⟨c, u, hc, rfl⟩
       refine ⟨.str ⟨#[c]⟩, ?_, ?_⟩
       · simp [hc]
       · exact mk_str (by show 1 ≤ sizeLine; have := sizeLine_eq; omega)
     · simpa [Str.length] using hz
     · rw [List.mem_singleton.mp hb]
       obtain ⟨o, _, e, _⟩ := hlive 0 _ hst
       exact ⟨o, e⟩
    cases ha : x.cps.all (· < 128)
    · exact wpAny_pyIter_wide ha (fin _ _ (fun A' hA => Walks.strWide hA _ x t) (fun i h st => let ⟨o, e, ec, _⟩ := st; ⟨o, _, e, ec, by decide⟩) ⟨_, Heap.get?_push_size _ rfl, rfl, rfl⟩)
    · exact wpAny_pyIter_ascii ha (fin _ _ (fun A' hA => Walks.strAscii hA _ x t) (fun i h st => let ⟨o, e, ec, _⟩ := st; ⟨o, _, e, ec, by decide⟩) ⟨_, Heap.get?_push_size _ rfl, rfl, rfl⟩)
  | range a b c =>
    obtain ⟨⟨h1, h2, h3⟩, hK⟩ := Ob.elim h
    obtain ⟨r, t, u, z, rfl, hx, hg⟩ := den_range d
    have hn : ((Builtin.Range.rangeSize a b c).toNat : Int) = Builtin.Range.rangeSize a b c := Int.toNat_of_nonneg h2
    have hlen : (rangeItems a b c).length = (Builtin.Range.rangeSize a b c).toNat := by simp [rangeItems]
    have fin : ∀ o, o = ({ cls := .type "range_iterator", data := .fields #[rawInt a, rawInt (Builtin.Range.rangeSize a b c), rawInt c] } : Obj) → Qi (.ref s.heap.objs.size) { s with heap := s.heap.push o } := by
      intro o ho
      refine hq _ _ [s.heap.objs.size] (fun i v => i < (rangeItems a b c).length ∧ ∃ t, v = .int (a + i * c) t) (fun i h => IsRangeIter h s.heap.objs.size (a + (i : Nat) * c) (((Builtin.Range.rangeSize a b c).toNat : Int) - (i : Nat)) c) hK (keeps_push' s _) ⟨fun A hA => ?_, ?_, ?_, ?_, hI, (fun i h st => ⟨_, st⟩), ?_, ?_, by simp, fun i h st => ⟨_, _, st, rfl, by decide⟩, fun b hb => ?_⟩
      · have W := Walks.range (prog := prog) (w := w) hA s.heap.objs.size a c (Builtin.Range.rangeSize a b c).toNat
        rw [← hlen] at W
        refine ⟨W.sub, ?_, fun i s Q E hi st hQ => W.item i s Q E hi (by rw [hlen]; exact st) fun v h' tk hp st' hk => hQ v h' tk ⟨hi, hp⟩ (by rw [hlen] at st'; exact st') hk,
          fun s Q E st hQ => W.done s Q E (by rw [hlen] at *; exact st) hQ, fun i s Q E st hQ => W.self i s Q E (by rw [hlen]; exact st) hQ⟩
        intro i h h' st hk
        have := W.frame i h h' (by rw [hlen]; exact st) hk
        rw [hlen] at this; exact this
      · subst ho
        show IsRangeIter _ _ (a + ((0 : Nat) : Int) * c) (((Builtin.Range.rangeSize a b c).toNat : Int) - ((0 : Nat) : Int)) c
        have e1 : a + ((0 : Nat) : Int) * c = a := by simp
        have e2 : (((Builtin.Range.rangeSize a b c).toNat : Int) - ((0 : Nat) : Int)) = Builtin.Range.rangeSize a b c := by rw [hn]; simp
        rw [e1, e2]
        exact Heap.get?_push_size _ rfl
      · intro b' hb hne
        simp at hb
        exact absurd hb hne
      · intro b' hb
        simp at hb
        simp [hb]
      · rintro X' i v h' hk ⟨hi, t, rfl⟩
        refine ⟨.int (a + i * c), ?_, mk_int⟩
        rw [hlen] at hi
        simp [rangeItems, hi]
      · rw [hlen]; omega
      · rw [List.mem_singleton.mp hb]; exact ⟨_, Heap.get?_push_size _ (by rw [ho]; rfl)⟩
    exact wpAny_pyIter_range hg h1 (fin _ rfl)
  | _ => exact h.elim
end
end Mine
namespace Mine

inductive BI where
  | len | min | range | list | sum | chr | type | repr
  deriving DecidableEq

noncomputable def kindOf? : PV → Option String
  | .none => some "NoneType" | .bool _ => some "bool" | .int _ => some "int" | .str _ => some "str" | .tuple _ => some "tuple" | .list _ => some "list" | _ => none

noncomputable def lenW (p : PV) (K : PV → Prop) : Prop := match p with
  | .str x => K (.int x.length)
  | .list vs => K (.int vs.length)
  | .tuple vs => K (.int vs.length)
  | _ => False
noncomputable def listW (p : PV) (K : PV → Prop) : Prop := match p with
  | .range a b c => Ob (Builtin.Range.small a b c = true ∧ 0 ≤ Builtin.Range.rangeSize a b c ∧ Builtin.Range.rangeSize a b c ≤ sizeLine) (K (.list (rangeItems a b c)))
  | .list vs => K (.list vs)
  | _ => False
noncomputable def bcallW (f : BI) (ps : List PV) (K : PV → Prop) : Prop := match f with
  | .len => as1 ps fun p => lenW p K
  | .min => as0 ps False fun a r => as0 r False fun b r => asI a fun a => asI b fun b =>
      as0 r (K (.int (if b < a then b else a))) fun c r => as0 r (asI c fun c => K (.int (min a (min b c)))) fun _ _ => False
  | .range => as0 ps False fun a r => asI a fun a => as0 r (K (.range 0 a 1)) fun b r => asI b fun b => as0 r False fun c r =>
      as0 r (asI c fun c => Ob (c ≠ 0 ∧ c.natAbs < 1073741824) (K (.range a b c))) fun _ _ => False
  | .list => as1 ps fun p => listW p K
  | .sum => as1 ps fun p => asL p fun vs => Ex (ints? vs) fun ns => K (.int ns.sum)
  | .chr => as1 ps fun p => asI p fun i => Ob (0 ≤ i ∧ i ≤ 1114111) (K (.str ⟨#[i.toNat]⟩))
  | .type => as1 ps fun p => Ex (kindOf? p) fun k => K (.type k)
  | .repr => as1 ps fun p => asL p fun vs => Ex (pyOf (.list vs)) fun d => Ob (d.showable = true ∧ d.hasDict = false ∧ d.depth ≤ 16 ∧ d.shown.length ≤ sizeLine) (K (.str d.shown))

noncomputable def BI.val : BI → Value
  | .len => .builtin "len" | .min => .builtin "min" | .range => .type "range" | .list => .type "list" | .sum => .builtin "sum" | .chr => .builtin "chr" | .type => .type "type" | .repr => .builtin "repr"

section
variable {prog : Program} {w : World} {A : Around} {E : Value → Shared → Prop} {s : Shared} {X : Excl} {Q : Value → Shared → Prop} {K : PV → Prop}

theorem denL_one {p : PV} {vs : List Value} {h : Heap} (d : DenL w X h [p] vs) : ∃ v, vs = [v] ∧ Den w X h p v := by
  obtain ⟨v, r, rfl, d1, d2⟩ := d.inv_cons
  rw [d2.inv_nil]; exact ⟨v, rfl, d1⟩
theorem denL_two {p q : PV} {vs : List Value} {h : Heap} (d : DenL w X h [p, q] vs) : ∃ v u, vs = [v, u] ∧ Den w X h p v ∧ Den w X h q u := by
  obtain ⟨v, r, rfl, d1, d2⟩ := d.inv_cons
  obtain ⟨u, rfl, d3⟩ := denL_one d2
  exact ⟨v, u, rfl, d1, d3⟩
theorem denL_three {p q r : PV} {vs : List Value} {h : Heap} (d : DenL w X h [p, q, r] vs) : ∃ v u z, vs = [v, u, z] ∧ Den w X h p v ∧ Den w X h q u ∧ Den w X h r z := by
  obtain ⟨v, r, rfl, d1, d2⟩ := d.inv_cons
  obtain ⟨u, z, rfl, d3, d4⟩ := denL_two d2
  exact ⟨v, u, z, rfl, d1, d3, d4⟩

theorem ints_den {h : Heap} {vs : List PV} {ns : List Int} {us : List Value} (e : ints? vs = some ns) (_ : DenL w X h vs us) : vs = ns.map PV.int := ints_inv e

theorem iter_ints {xs : List PV} {ns : List Int} {I : Addr} {h : Heap} {fp : List Addr} {P : Nat → Value → Prop} {St : Nat → Heap → Prop} (it : IterAt prog w X xs I h fp P St) (e : xs = ns.map PV.int) :
    ∀ i v, P i v → ∃ t, v = .int (ns.getD i 0) t := fun i v hp => by
  obtain ⟨p, hp, d⟩ := it.item X i v h (fun _ _ hx _ e => ⟨hx, e⟩) hp
  subst e
  simp at hp
  obtain ⟨a, ha, rfl⟩ := hp
  obtain ⟨t, rfl⟩ := den_int d
  exact ⟨t, by simp [ha]⟩

theorem preSum_getD : ∀ (ns : List Int), preSum (fun i => ns.getD i 0) ns.length = ns.sum := by
  intro ns
  have key : ∀ (k : Nat), k ≤ ns.length → preSum (fun i => ns.getD i 0) k = (ns.take k).sum := by
    intro k
    induction k with
    | zero => intro _; simp [preSum]
    | succ k ih =>
      intro hk
      have hk' : k < ns.length := hk
      rw [preSum, ih (by omega), List.take_succ_eq_append_getElem hk', List.sum_append]
      simp [hk']
  rw [key _ (Nat.le_refl _), List.take_length]

theorem min3_v {a b c : Int} {t u x : Tok} : ∃ tk, (if b < a then (if c < b then Value.int c x else .int b u) else (if c < a then .int c x else .int a t)) = .int (min a (min b c)) tk := by
  by_cases h1 : b < a
  · rw [if_pos h1]
    by_cases h2 : c < b
    · rw [if_pos h2]
      exact ⟨x, by rw [Int.min_eq_right (Int.le_of_lt h2), Int.min_eq_right (Int.le_of_lt (Int.lt_trans h2 h1))]⟩
    · rw [if_neg h2]
      exact ⟨u, by rw [Int.min_eq_left (Int.not_lt.mp h2), Int.min_eq_right (Int.le_of_lt h1)]⟩
  · rw [if_neg h1]
    by_cases h2 : c < a
    · rw [if_pos h2]
      exact ⟨x, by rw [Int.min_eq_right (Int.le_trans (Int.le_of_lt h2) (Int.not_lt.mp h1)), Int.min_eq_right (Int.le_of_lt h2)]⟩
    · rw [if_neg h2]
      exact ⟨t, by rw [Int.min_eq_left (Int.le_min.mpr ⟨Int.not_lt.mp h1, Int.not_lt.mp h2⟩)]⟩
theorem bcall_op {b : BI} {vs : List Value} {ps : List PV} (hh : A.handled = none) (hgd : A.guards = some []) (hA : A.units + 64 < cLine) (hX : Xlt X s.heap) (d : DenL w X s.heap ps vs) (h : bcallW b ps K) (hq : Post w X s K Q) :
    wpAny (model prog w) A (call b.val vs) Q E s := by
  cases b with
  | len =>
    obtain ⟨p, rfl, h⟩ := as1.inv h
    cases p with
    | str x =>
      obtain ⟨v, rfl, dv⟩ := denL_one d
      obtain ⟨hz, t, rfl⟩ := den_str dv
      exact PySem.P.len_str (by have := sizeLine_fit hz; omega) (hq _ _ _ h (keeps_tk s _) mk_int)
    | list vs =>
      obtain ⟨v, rfl, dv⟩ := denL_one d
      obtain ⟨hz, a, us, n, rfl, _, hg, dl⟩ := den_list dv
      refine Calls.call_len_list (lst_isList hg) (by rw [List.size_toArray, dl.length]; exact sizeLine_fit hz) ?_
      rw [List.size_toArray, dl.length]
      exact hq _ _ _ h (keeps_tk s _) mk_int
    | tuple vs =>
      obtain ⟨v, rfl, dv⟩ := denL_one d
      obtain ⟨hz, a, us, n, rfl, _, hg, dl⟩ := den_tuple dv
      refine PyProof.Rows.len_tuple (tup_isTup hg) (by rw [List.size_toArray, dl.length]; exact sizeLine_fit hz) ?_
      rw [List.size_toArray, dl.length]
      exact hq _ _ _ h (keeps_tk s _) mk_int
    | _ => exact False.elim h
  | min =>
    rcases ps with _ | ⟨p, _ | ⟨q, r⟩⟩
    · exact False.elim h
    · exact False.elim h
    · obtain ⟨a, rfl, h⟩ := asI.inv h; obtain ⟨b, rfl, h⟩ := asI.inv h
      rcases r with _ | ⟨c, _ | ⟨u, r⟩⟩
      · change K (.int (if b < a then b else a)) at h
        obtain ⟨v, u, rfl, d1, d2⟩ := denL_two d
        obtain ⟨t, rfl⟩ := den_int d1; obtain ⟨t', rfl⟩ := den_int d2
        refine min_two_ints hh fun h' tk hk => ?_
        split <;> rename_i hc <;> simp only [hc, if_true, if_false] at h
        · exact hq _ _ _ h (keeps_of hk) mk_int
        · exact hq _ _ _ h (keeps_of hk) mk_int
      · obtain ⟨c, rfl, h⟩ := asI.inv h
        obtain ⟨v, u, z, rfl, d1, d2, d3⟩ := denL_three d
        obtain ⟨t, rfl⟩ := den_int d1; obtain ⟨t', rfl⟩ := den_int d2; obtain ⟨t'', rfl⟩ := den_int d3
        refine min_three_ints hh fun h' tk hk => ?_
        obtain ⟨tk', e⟩ := min3_v (a := a) (b := b) (c := c) (t := t) (u := t') (x := t'')
        rw [e]
        exact hq _ _ _ h (keeps_of hk) mk_int
      · exact False.elim h
  | range =>
    rcases ps with _ | ⟨p, r⟩
    · exact False.elim h
    obtain ⟨a, rfl, h⟩ := asI.inv h
    rcases r with _ | ⟨q, r⟩
    · obtain ⟨v, rfl, dv⟩ := denL_one d
      obtain ⟨t, rfl⟩ := den_int dv
      refine call_range_1 ?_
      refine hq _ _ _ h (keeps_push s _ _) ?_
      simp only [Den]
      exact ⟨_, _, _, _, rfl, hX.new (Nat.le_refl _), IsRange.new ..⟩
    obtain ⟨b, rfl, h⟩ := asI.inv h
    rcases r with _ | ⟨c, _ | ⟨u, r⟩⟩
    · exact False.elim h
    · obtain ⟨c, rfl, h⟩ := asI.inv h
      obtain ⟨v, u, z, rfl, d1, d2, d3⟩ := denL_three d
      obtain ⟨⟨hc, hc'⟩, h⟩ := h.elim
      obtain ⟨t, rfl⟩ := den_int d1; obtain ⟨t', rfl⟩ := den_int d2; obtain ⟨t'', rfl⟩ := den_int d3
      refine PySem.call_range_3 hc ?_ (.inl (PyProof.noPylong_small hc'))
      refine hq _ _ _ h (keeps_push s _ _) ?_
      simp only [Den]
      exact ⟨_, _, _, _, rfl, hX.new (Nat.le_refl _), IsRange.new ..⟩
    · exact False.elim h
  | list =>
    obtain ⟨p, rfl, h⟩ := as1.inv h
    cases p with
    | range a b c =>
      obtain ⟨v, rfl, dv⟩ := denL_one d
      obtain ⟨⟨h1, h2, h3⟩, h⟩ := h.elim
      obtain ⟨r, t, u, z, rfl, hx, hg⟩ := den_range dv
      have hn : ((Builtin.Range.rangeSize a b c).toNat : Int) = Builtin.Range.rangeSize a b c := Int.toNat_of_nonneg h2
      refine call_list_range (n := (Builtin.Range.rangeSize a b c).toNat) hh hg h1 hn.symm (by have := sizeLine_eq; omega) fun h' tk acc' c' hk hg' hit => ?_
      refine hq _ _ _ h (keeps_of hk) ?_
      refine mk_list (us := acc'.toList) (n := c') ?_ (hX.new (Nat.le_refl _)) hg' (DenL.of_get ?_ ?_)
      · simp [rangeItems]; omega
      · simp [rangeItems, hit.1]
      · intro i p v hp hv
        obtain ⟨t, rfl⟩ := hit.2 i v (by simpa using hv)
        simp only [rangeItems, List.getElem?_map, Option.map_eq_some_iff] at hp
        obtain ⟨j, hj, rfl⟩ := hp
        obtain ⟨hi, rfl⟩ := List.getElem?_eq_some_iff.mp hj
        simp only [List.getElem_range]
        exact mk_int
    | list vs =>
      obtain ⟨v, rfl, dv⟩ := denL_one d
      obtain ⟨hz, a, us, n, rfl, _, hg, dl⟩ := den_list dv
      refine call_list_seq a (.inl rfl) hg rfl rfl (fun h' c' hk hg' => ?_) (by rw [List.size_toArray, dl.length]; exact hz)
      refine hq _ _ _ h (keeps_of hk) ?_
      exact mk_list hz (hX.new (Nat.le_refl _)) hg' (dl.keeps hk)
    | _ => exact False.elim h
  | sum =>
    obtain ⟨p, rfl, h⟩ := as1.inv h
    obtain ⟨vs, rfl, h⟩ := asL.inv h
    obtain ⟨v, rfl, dv⟩ := denL_one d
    obtain ⟨ns, hn, h⟩ := h.elim
    obtain ⟨_, _, _, _, rfl, _, _, dl⟩ := den_list dv
    have e := ints_den hn dl
    refine call_sum_walkG (iter_op (Kl := fun xs => xs = ns.map PV.int) hX dv e ?_)
    intro xs s' fp P St hxs hk it
    subst hxs
    have hv := iter_ints it rfl
    refine ⟨_, fp, [s.heap.objs.size], _, P, St, _, rfl, it.walks _ hh, it.start, it.old, hv, fun h' tk t' hk' => ?_⟩
    rw [List.length_map, preSum_getD]
    obtain ⟨hp, tk0, rfl, hk0⟩ := hk
    exact hq _ _ _ h (keeps_of fun b o e => hk' b o (by simpa using Nat.ne_of_lt (Heap.lt_size e)) (hk0 b o e)) mk_int
  | chr =>
    obtain ⟨p, rfl, h⟩ := as1.inv h
    obtain ⟨i, rfl, h⟩ := asI.inv h
    obtain ⟨v, rfl, dv⟩ := denL_one d
    obtain ⟨⟨h1, h2⟩, h⟩ := h.elim
    obtain ⟨t, rfl⟩ := den_int dv
    exact PyProof.Rows.chr_of_range h1 h2 (hq _ _ _ h (keeps_tk s _) (mk_str (by show 1 ≤ sizeLine; have := sizeLine_eq; omega)))
  | type =>
    obtain ⟨p, rfl, h⟩ := as1.inv h
    obtain ⟨v, rfl, dv⟩ := denL_one d
    obtain ⟨k, hk, h⟩ := h.elim
    cases p with
    | none => rw [den_none dv]; cases hk; exact call_type_of (Tx := "NoneType") rfl (by decide) (hq _ _ _ h (keeps_refl s) mk_type)
    | bool b => rw [den_bool dv]; cases hk; exact call_type_of (Tx := "bool") rfl (by decide) (hq _ _ _ h (keeps_refl s) mk_type)
    | int i => obtain ⟨t, rfl⟩ := den_int dv; cases hk; exact call_type_of (Tx := "int") rfl (by decide) (hq _ _ _ h (keeps_refl s) mk_type)
    | str x => obtain ⟨_, t, rfl⟩ := den_str dv; cases hk; exact call_type_of (Tx := "str") rfl (by decide) (hq _ _ _ h (keeps_refl s) mk_type)
    | list vs => obtain ⟨_, a, us, n, rfl, _, hg, dl⟩ := den_list dv; cases hk; exact call_type_of (Tx := "list") ⟨_, hg, rfl⟩ (by decide) (hq _ _ _ h (keeps_refl s) mk_type)
    | tuple vs => obtain ⟨_, a, us, n, rfl, _, hg, dl⟩ := den_tuple dv; cases hk; exact call_type_of (Tx := "tuple") ⟨_, hg, rfl⟩ (by decide) (hq _ _ _ h (keeps_refl s) mk_type)
    | _ => cases hk
  | repr =>
    obtain ⟨p, rfl, h2⟩ := as1.inv h
    obtain ⟨us, rfl, h3⟩ := asL.inv h2
    obtain ⟨v, rfl, dv⟩ := denL_one d
    obtain ⟨dd, h4, h5⟩ := h3.elim
    obtain ⟨⟨g1, g2, g3, g4⟩, h6⟩ := h5.elim
    obtain ⟨as, r⟩ := den_reads _ h4 dv
    obtain ⟨_, a, _, _, rfl, _⟩ := den_list dv
    exact PySem.repr_of_reads' r g1 (fun e => by rw [g2] at e; cases e) hgd (Nat.lt_of_le_of_lt (Nat.add_le_add_left (Nat.le_trans (Nat.add_le_add_right g3 1) (by decide)) _) hA) (fun _ _ e => e)
      (fun h' u tk hk => hq _ _ _ h6 (keeps_of hk) (mk_str g4)) g4
end
end Mine
namespace Mine

/-- the item at a place -/
noncomputable def itemAt {α : Type} (xs : List α) (i : Int) : Option α := (seqIndex? i xs.length).bind (xs[·]?)
noncomputable def idxW (p q : PV) (K : PV → Prop) : Prop := match p with
  | .list vs => asI q fun i => Ex (itemAt vs i) K
  | .tuple vs => asI q fun i => Ex (itemAt vs i) K
  | _ => False
noncomputable def sliceW (p : PV) (lo hi st : Option Int) (K : PV → Prop) : Prop := match p with
  | .list vs => Ob (st = none) (K (.list (sliceL vs lo hi none)))
  | _ => False
/-- a part of a slice -/
noncomputable def partOf : PV → Option (Option Int)
  | .none => some none
  | .int i => some (some i)
  | _ => none

section
variable {prog : Program} {w : World} {A : Around} {E : Value → Shared → Prop} {s : Shared} {X : Excl} {Q : Value → Shared → Prop} {K : PV → Prop}

theorem subscripted_op (slice : Expr) (o i : Value) : ∃ ops, subscripted slice false o i = operate ops (getItem o i) := by
  cases slice with
  | Slice a b c p => cases c <;> exact ⟨_, rfl⟩
  | _ => exact ⟨_, rfl⟩
theorem seqIndex_range {i : Int} {n k : Nat} (h : seqIndex? i n = some k) : k < n ∧ ((0 ≤ i ∧ k = i.toNat ∧ i < n) ∨ (i < 0 ∧ k = (i + n).toNat ∧ -(n : Int) ≤ i)) := by
  unfold seqIndex? at h
  by_cases hi : i < 0
  · simp only [hi, if_true] at h
    split at h
    · rename_i hc
      simp only [Bool.and_eq_true, decide_eq_true_eq] at hc
      cases h
      exact ⟨(Int.toNat_lt hc.1).mpr hc.2, .inr ⟨hi, rfl, by have := hc.1; omega⟩⟩
    · cases h
  · simp only [hi, if_false] at h
    split at h
    · rename_i hc
      simp only [Bool.and_eq_true, decide_eq_true_eq] at hc
      cases h
      exact ⟨(Int.toNat_lt hc.1).mpr hc.2, .inl ⟨hc.1, rfl, hc.2⟩⟩
    · cases h

theorem idx_op {value slice : Expr} {v u : Value} {p q : PV} (d : Den w X s.heap p v) (e : Den w X s.heap q u) (h : idxW p q K) (hq : Post w X s K Q) :
    wpAny (model prog w) A (subscriptTail value slice v u) Q E s := by
  obtain ⟨ops, hs⟩ := subscripted_op slice v u
  cases p with
  | list vs =>
    obtain ⟨i, rfl, h⟩ := asI.inv h
    obtain ⟨hz, a, us, n, rfl, hx, hg, dl⟩ := den_list d
    obtain ⟨t', rfl⟩ := den_int e
    obtain ⟨c, hc, h⟩ := h.elim
    have hz' := sizeLine_fit hz
    unfold itemAt at hc
    obtain ⟨k, hk, hc⟩ := Option.bind_eq_some_iff.mp hc
    obtain ⟨hv, hu, du⟩ := dl.get hc
    obtain ⟨h1, h2⟩ := seqIndex_range hk
    refine tail_any ((lst_isList hg).typeIs) slot_list_getitem.lookup ?_ hs
    rcases h2 with ⟨h2, rfl, h3⟩ | ⟨h2, rfl, h3⟩
    · exact wpAny_getItem_list (lst_isList hg) h2 (by omega) (by simpa using hu) (hq _ _ _ h (keeps_refl s) du)
    · refine wpAny_getItem_list_neg (lst_isList hg) h2 ?_ (by omega) ?_ (hq _ _ _ h (keeps_refl s) du)
      · rw [List.size_toArray, dl.length]; exact h3
      · rw [List.size_toArray, dl.length]; simpa using hu
  | tuple vs =>
    obtain ⟨i, rfl, h⟩ := asI.inv h
    obtain ⟨hz, a, us, n, rfl, hx, hg, dl⟩ := den_tuple d
    obtain ⟨t', rfl⟩ := den_int e
    obtain ⟨c, hc, h⟩ := h.elim
    have hz' := sizeLine_fit hz
    unfold itemAt at hc
    obtain ⟨k, hk, hc⟩ := Option.bind_eq_some_iff.mp hc
    obtain ⟨hv, hu, du⟩ := dl.get hc
    obtain ⟨h1, h2⟩ := seqIndex_range hk
    refine tail_any (T := "tuple") ⟨_, hg, rfl⟩ PySem.F.slot_tuple_getitem.lookup ?_ hs
    refine PySem.P.getItem_tuple (n := n) hg ?_ ?_ (by rw [List.size_toArray, dl.length]; exact hk) (by simpa using hu) (hq _ _ _ h (keeps_refl s) du)
    · omega
    · omega
  | _ => exact False.elim h

theorem part_is {h : Heap} {p : PV} {v : Value} {o : Option Int} (d : Den w X h p v) (e : partOf p = some o) : ∃ q : Option (Int × Tok), v = partValue q ∧ q.map (·.1) = o := by
  cases p with
  | none => rw [den_none d]; cases e; exact ⟨none, rfl, rfl⟩
  | int i => obtain ⟨t, rfl⟩ := den_int d; cases e; exact ⟨some (i, t), rfl, rfl⟩
  | _ => cases e
theorem isPart_of {q : Option (Int × Tok)} : IsPart (partValue q) (q.map (·.1)) := by
  cases q with
  | none => exact .none
  | some p => exact .int _ _

theorem sliceL_den {h : Heap} {ps : List PV} {us : List Value} (d : DenL w X h ps us) (lo hi st : Option Int) : DenL w X h (sliceL ps lo hi st) (sliceL us lo hi st) := by
  unfold sliceL
  rw [d.length]
  generalize sliceRange _ _ _ = l
  induction l with
  | nil => exact .nil
  | cons a l ih =>
    simp only [List.filterMap_cons]
    cases hp : ps[a]? with
    | none =>
      have : us[a]? = none := by
        rw [List.getElem?_eq_none_iff] at hp ⊢
        rw [d.length]; exact hp
      rw [this]; exact ih
    | some p =>
      obtain ⟨v, hv, dv⟩ := d.get hp
      rw [hv]
      exact .cons dv ih

theorem pick_range {α : Type} (xs : List α) : ∀ (n a : Nat), a + n ≤ xs.length → ((List.range n).map (a + ·)).filterMap (xs[·]?) = (xs.drop a).take n := by
  intro n
  induction n with
  | zero => intro a _; simp
  | succ n ih =>
    intro a h
    rw [List.range_succ, List.map_append, List.filterMap_append, ih a (by omega), List.take_add_one]
    congr 1
    rw [List.map_singleton, List.filterMap_cons, List.getElem?_drop]
    cases xs[a + n]? <;> rfl
theorem clip_le (n : Nat) (i : Int) : clipAt n i ≤ n := Int.toNat_le.mpr (Int.max_le.mpr ⟨Int.natCast_nonneg n, Int.min_le_right _ _⟩)
theorem sliceL_plain {α : Type} (xs : List α) (lo hi : Option Int) : sliceL xs lo hi none = (xs.drop (lo.elim 0 (clipAt xs.length))).take (hi.elim xs.length (clipAt xs.length) - lo.elim 0 (clipAt xs.length)) := by
  unfold sliceL
  rw [sliceBounds_plain]
  show (sliceRange _ _ 1).filterMap _ = _
  rw [sliceRange_one]
  have hl : lo.elim 0 (clipAt xs.length) ≤ xs.length := by cases lo with | none => exact Nat.zero_le _ | some i => exact clip_le _ _
  have hh : hi.elim xs.length (clipAt xs.length) ≤ xs.length := by cases hi with | none => exact Nat.le_refl _ | some i => exact clip_le _ _
  exact pick_range xs _ _ (by omega)
theorem sliceL_length {α : Type} (xs : List α) (lo hi : Option Int) : (sliceL xs lo hi none).length ≤ xs.length := by
  rw [sliceL_plain]
  refine Nat.le_trans (List.length_take_le' _ _) ?_
  rw [List.length_drop]
  exact Nat.sub_le _ _

theorem slice_op {value slice : Expr} {v : Value} {p : PV} {lo hi st : Option (Int × Tok)} (hX : Xlt X s.heap) (d : Den w X s.heap p v) {sl : Addr}
    (hs : s.heap.get? sl = some { cls := .type "slice", data := .fields #[partValue lo, partValue hi, partValue st] })
    (h : sliceW p (lo.map (·.1)) (hi.map (·.1)) (st.map (·.1)) K) (hq : Post w X s K Q) :
    wpAny (model prog w) A (subscriptTail value slice v (.ref sl)) Q E s := by
  obtain ⟨ops, ho⟩ := subscripted_op slice v (.ref sl)
  generalize hl : lo.map (·.1) = l at h
  generalize hh : hi.map (·.1) = u at h
  generalize hst : st.map (·.1) = t at h
  cases p with
  | list vs =>
    obtain ⟨hz, a, us, n, rfl, hx, hg, dl⟩ := den_list d
    obtain ⟨h0, hk⟩ := Ob.elim h
    subst h0
    refine tail_any ((lst_isList hg).typeIs) slot_list_getitem.lookup ?_ ho
    refine wpAny_getItem_list_slice (lo := lo.map (·.1)) (hi := hi.map (·.1)) (st := st.map (·.1)) (lst_isList hg) ⟨_, hs, rfl, rfl⟩ isPart_of isPart_of isPart_of (by rw [hst]; exact fun e => nomatch e) ?_ (by rw [List.size_toArray, dl.length]; exact hz)
    rw [hl, hh, hst]
    have e : slicePick us.toArray l u none = (sliceL us l u none).toArray := by
      unfold slicePick sliceL
      simp
    rw [e]
    exact alloc_den hX hk hq fun hx => mk_list (Nat.le_trans (sliceL_length _ _ _) hz) hx (n := 0) (us := sliceL us l u none) (Heap.get?_push_size _ rfl) ((sliceL_den dl _ _ _).keeps fun _ _ e => Heap.get?_push_of_some _ e)
  | _ => exact h.elim
end
end Mine
namespace Mine

noncomputable def eqNats : List Nat → List Nat → Bool
  | [], [] => true
  | a :: as, b :: bs => match Nat.beq a b with
    | true => eqNats as bs
    | false => false
  | _, _ => false
theorem eqNats_iff : ∀ (a b : List Nat), eqNats a b = true ↔ a = b
  | [], [] => by simp [eqNats]
  | [], _ :: _ => by simp [eqNats]
  | _ :: _, [] => by simp [eqNats]
  | a :: as, b :: bs => by
    unfold eqNats
    cases h : Nat.beq a b with
    | true =>
      have : a = b := Nat.eq_of_beq_eq_true h
      subst this
      simp [eqNats_iff as bs]
    | false =>
      have : a ≠ b := Nat.ne_of_beq_eq_false h
      simp [this]
noncomputable def nmEq (a b : Str) : Bool := eqNats a.cps.toList b.cps.toList
theorem nmEq_iff (a b : Str) : nmEq a b = true ↔ a = b := by
  unfold nmEq
  rw [eqNats_iff]
  constructor
  · intro h
    cases a; cases b
    exact congrArg Str.mk (Array.toList_inj.mp h)
  · rintro rfl; rfl

inductive LV where
  | val (p : PV)
  | own (vs : List PV)
  | ownd (es : List (Str × PV))
  | is (u : Value) (p : PV)
noncomputable abbrev Loc := List (Str × LV)
noncomputable def get : Loc → Str → Option LV
  | [], _ => none
  | (y, v) :: r, x => match nmEq y x with
    | true => some v
    | false => get r x
noncomputable def set : Loc → Str → LV → Loc
  | [], x, v => [(x, v)]
  | (y, u) :: r, x, v => match nmEq y x with
    | true => (y, v) :: r
    | false => (y, u) :: set r x v
theorem get_set (σ : Loc) (x y : Str) (v : LV) : get (set σ x v) y = if y = x then some v else get σ y := by
  induction σ with
  | nil =>
    simp only [set, get]
    cases h : nmEq x y with
    | true => rw [(nmEq_iff x y).mp h]; simp
    | false =>
      have : ¬ y = x := fun e => by rw [(nmEq_iff x y).mpr e.symm] at h; cases h
      simp [this]
  | cons a r ih =>
    obtain ⟨z, u⟩ := a
    simp only [set]
    cases h : nmEq z x with
    | true =>
      have hz := (nmEq_iff z x).mp h
      subst hz
      simp only [get]
      cases h2 : nmEq z y with
      | true => rw [(nmEq_iff z y).mp h2]; simp
      | false =>
        have : ¬ y = z := fun e => by rw [(nmEq_iff z y).mpr e.symm] at h2; cases h2
        simp [this]
    | false =>
      simp only [get]
      rw [ih]
      cases h2 : nmEq z y with
      | true =>
        have hz := (nmEq_iff z y).mp h2
        subst hz
        have : ¬ z = x := fun e => by rw [(nmEq_iff z x).mpr e] at h; cases h
        simp [this]
      | false => simp

inductive VK where
  | loc | glob
noncomputable abbrev Sc := List (Str × NameKind)
noncomputable def kd : Sc → Str → Option VK
  | [], _ => none
  | (y, k) :: r, x => match nmEq y x with
    | true => (match k with | .local | .cell | .free => some .loc | .globalImplicit => some .glob | .globalExplicit => none)
    | false => kd r x
noncomputable def vkOf : Option NameKind → Option VK
  | some .local | some .cell | some .free => some .loc
  | some .globalImplicit => some .glob
  | _ => none
theorem kd_lookup (sc : Sc) (x : Str) : kd sc x = vkOf (sc.lookup x) := by
  induction sc with
  | nil => rfl
  | cons a r ih =>
    obtain ⟨y, k⟩ := a
    simp only [kd, List.lookup_cons]
    cases h : nmEq y x with
    | true =>
      rw [(nmEq_iff y x).mp h]
      simp only [beq_self_eq_true]
      cases k <;> rfl
    | false =>
      have : (x == y) = false := by
        rw [beq_eq_false_iff_ne]
        exact fun e => by rw [(nmEq_iff y x).mpr e.symm] at h; cases h
      simp only [this]
      exact ih

noncomputable abbrev PSpec := List PV → (PV → Prop) → Prop
/-- what the text's top holds: its defs (by their contracts), its constants -/
structure GC where
  fn : Str → Option PSpec
  const : Str → Option PV
  /-- a def that hands a thing back or tells why not -/
  hand : Option (Str × (Nat → List Str) × (Str → Str → Str)) := none
  /-- names whose very value is to be known behind a `for` -/
  pin : List Str := []

structure Wd where
  prog : Program
  w : World
  p : Program
  loose : List Str
  mean : ExcName → Option Value
  mg : Str → Option Value
  mb : Str → Option Value
  top : Heap
  T : Top p loose mean mg mb top

noncomputable abbrev Wd.M (W : Wd) : Model := model W.prog W.w

structure Room (d : Nat) (A : Around) : Prop where
  handled : A.handled = none
  depth : A.depth + d ≤ 900
  units : A.units + 64 * d ≤ 9000
  guards : A.guards = some []
theorem Room.less {d e : Nat} {A : Around} (r : Room d A) (h : e ≤ d) : Room e A := ⟨r.handled, by have := r.depth; omega, by have := r.units; omega, r.guards⟩

noncomputable def LDen (prog : Program) (w : World) (X M : Excl) (h : Heap) : LV → Value → Prop
  | .val p, v => Den w X h p v
  | .own vs, v => vs.length ≤ sizeLine ∧ ∃ a us n, v = .ref a ∧ M a ∧ h.get? a = some (lstObj us n) ∧ DenL w X h vs us
  | .ownd es, v => es.length ≤ 1000 ∧ ∃ a kvs, v = .ref a ∧ M a ∧ h.DictOf (strKind prog w) a kvs ∧ kvs.map (·.1) = es.map (·.1) ∧ DenL w X h (es.map (·.2)) (kvs.map (·.2))
  | .is u p, v => v = u ∧ Den w X h p v
theorem LDen.keeps {prog : Program} {w : World} {X M : Excl} {h h' : Heap} (hk : ∀ b o, h.get? b = some o → h'.get? b = some o) {l : LV} {v : Value} (d : LDen prog w X M h l v) : LDen prog w X M h' l v := by
  cases l with
  | val p => exact Den.keeps hk d
  | own vs => obtain ⟨hz, a, us, n, e, m, g, dl⟩ := d; exact ⟨hz, a, us, n, e, m, hk _ _ g, dl.keeps hk⟩
  | ownd es => obtain ⟨hz, a, us, e, m, g, e2, dl⟩ := d; exact ⟨hz, a, us, e, m, g.keep hk, e2, dl.keeps hk⟩
  | is u p => exact ⟨d.1, d.2.keeps hk⟩

theorem LDen.move {prog : Program} {w : World} {X X' M : Excl} {h h' : Heap} (hk : ∀ b o, h.get? b = some o → h'.get? b = some o) (hx : ∀ a o, ¬ X a → h.get? a = some o → ¬ X' a) {l : LV} {v : Value} (d : LDen prog w X M h l v) : LDen prog w X' M h' l v := by
  cases l with
  | val p => exact Den.move (fun a o ha e => ⟨hx a o ha e, hk a o e⟩) d
  | own vs => obtain ⟨hz, a, us, n, e, m, g, dl⟩ := d; exact ⟨hz, a, us, n, e, m, hk _ _ g, dl.move fun a o ha e => ⟨hx a o ha e, hk a o e⟩⟩
  | ownd es => obtain ⟨hz, a, us, e, m, g, e2, dl⟩ := d; exact ⟨hz, a, us, e, m, g.keep hk, e2, dl.move fun a o ha e => ⟨hx a o ha e, hk a o e⟩⟩
  | is u p => exact ⟨d.1, d.2.move fun a o ha e => ⟨hx a o ha e, hk a o e⟩⟩

noncomputable def ReadsName (env : Env) (h : Heap) (x : Str) (v : Value) : Prop := match env.kindOf x with
  | some .local => ∃ m, h.Ns env.locals m ∧ m x = some v
  | some .cell | some .free => ∃ c, env.cells.lookup x = some c ∧ h.IsCell c (some v)
  | _ => False
theorem ReadsName.keeps {env : Env} {h h' : Heap} {x : Str} {v : Value} (hk : ∀ b o, h.get? b = some o → h'.get? b = some o) (r : ReadsName env h x v) : ReadsName env h' x v := by
  unfold ReadsName at r ⊢
  split at r
  · obtain ⟨m, hn, e⟩ := r; exact ⟨m, hn.keeps hk, e⟩
  · obtain ⟨c, hl, e⟩ := r; exact ⟨c, hl, e.keeps hk⟩
  · obtain ⟨c, hl, e⟩ := r; exact ⟨c, hl, e.keeps hk⟩
  · exact r.elim

structure EnvOk (env : Env) (sc : Sc) : Prop where
  kind : env.scope.kind = .function
  globals : env.globals = mainGlobals
  builtins : env.builtins = builtinsNs
  kinds : ∀ x, env.kindOf x = sc.lookup x ∨ (sc.lookup x = some .free ∧ env.kindOf x = some .cell)
  noDebug : kd sc (Str.ofString "__debug__") = none
  cells : ∀ x, env.kindOf x = some .cell ∨ env.kindOf x = some .free → ∃ c, env.cells.lookup x = some c
  noClass : kd sc (Str.ofString "__classdict__") = none

theorem EnvOk.names {env : Env} {sc : Sc} (e : EnvOk env sc) (x : Str) : vkOf (env.kindOf x) = kd sc x := by
  rw [kd_lookup]
  rcases e.kinds x with h | ⟨h1, h2⟩
  · rw [h]
  · rw [h1, h2]; rfl

noncomputable def Vis (prog : Program) (w : World) (env : Env) (X M : Excl) (σ : Loc) (h : Heap) : Prop :=
  ∀ x l, get σ x = some l → vkOf (env.kindOf x) = some .loc → ∃ v, ReadsName env h x v ∧ LDen prog w X M h l v
theorem Vis.keeps {prog : Program} {w : World} {env : Env} {X M : Excl} {σ : Loc} {h h' : Heap} (hk : ∀ b o, h.get? b = some o → h'.get? b = some o) (V : Vis prog w env X M σ h) : Vis prog w env X M σ h' :=
  fun x l e k => let ⟨v, r, d⟩ := V x l e k; ⟨v, r.keeps hk, d.keeps hk⟩

/-- the state in which an expression is reckoned -/
structure ES (W : Wd) (A : Around) (d : Nat) (X M : Excl) (env : Env) (sc : Sc) (σ : Loc) (s : Shared) : Prop where
  room : Room d A
  top : ∀ b o, W.top.get? b = some o → s.heap.get? b = some o
  eok : EnvOk env sc
  xlt : Xlt X s.heap
  mx : ∀ a, M a → X a
  vis : Vis W.prog W.w env X M σ s.heap
  tok : 1 ≤ s.toks
theorem ES.after {W : Wd} {A : Around} {d : Nat} {X M : Excl} {env : Env} {sc : Sc} {σ : Loc} {s s' : Shared} (x : ES W A d X M env sc σ s) (k : Keeps s s') (t : s.toks ≤ s'.toks) : ES W A d X M env sc σ s' :=
  ⟨x.room, fun b o e => keeps_mem k b o (x.top b o e), x.eok, x.xlt.keeps (keeps_mem k), x.mx, x.vis.keeps (keeps_mem k), Nat.le_trans x.tok t⟩

noncomputable def KeepsF (fl : Option Addr) (s s' : Shared) : Prop := ∃ h' tk, s' = { s with heap := h', toks := tk } ∧ ∀ b o, s.heap.get? b = some o → (fl ≠ some b → h'.get? b = some o) ∧ ∃ sl, h'.get? b = some { o with slots := sl }
theorem KeepsF.of {fl : Option Addr} {s s' : Shared} (k : Keeps s s') : KeepsF fl s s' := by
  obtain ⟨h', tk, rfl, k⟩ := k
  exact ⟨h', tk, rfl, fun b o e => ⟨fun _ => k b o e, o.slots, k b o e⟩⟩
theorem KeepsF.trans {fl : Option Addr} {a b c : Shared} (x : KeepsF fl a b) (y : KeepsF fl b c) : KeepsF fl a c := by
  obtain ⟨h, t, rfl, k⟩ := x
  obtain ⟨h', t', rfl, k'⟩ := y
  refine ⟨h', t', rfl, fun b o e => ?_⟩
  obtain ⟨k1, sl, k2⟩ := k b o e
  refine ⟨fun hb => (k' b o (k1 hb)).1 hb, ?_⟩
  obtain ⟨_, sl', k4⟩ := k' b _ k2
  exact ⟨sl', k4⟩
theorem KeepsF.none {s s' : Shared} (k : KeepsF none s s') : Keeps s s' := by
  obtain ⟨h', tk, rfl, k⟩ := k
  exact ⟨h', tk, rfl, fun b o e => (k b o e).1 (by simp)⟩
theorem KeepsF.mem {fl : Option Addr} {s s' : Shared} (k : KeepsF fl s s') {b : Addr} {o : Obj} (e : s.heap.get? b = some o) (hb : fl ≠ some b) : s'.heap.get? b = some o := by
  obtain ⟨h', tk, rfl, k⟩ := k
  exact (k b o e).1 hb
theorem KeepsF.slots {fl : Option Addr} {s s' : Shared} (k : KeepsF fl s s') {b : Addr} {o : Obj} (e : s.heap.get? b = some o) : ∃ sl, s'.heap.get? b = some { o with slots := sl } := by
  obtain ⟨h', tk, rfl, k⟩ := k
  exact (k b o e).2
/-- the object whose slots may change is a namespace, and nobody's value -/
structure FlOk (W : Wd) (X : Excl) (fl : Option Addr) (h : Heap) : Prop where
  ex : ∀ L, fl = some L → X L
  top : ∀ L, fl = some L → W.top.get? L = none
  ns : ∀ L, fl = some L → ∃ m, h.Ns L m
theorem FlOk.none {W : Wd} {X : Excl} {h : Heap} : FlOk W X none h := ⟨nofun, nofun, nofun⟩

section
variable {W : Wd} {A : Around} {d : Nat} {X M : Excl} {env : Env} {sc : Sc} {σ : Loc} {s s' : Shared} {fl : Option Addr}
theorem Den.keepsF {w : World} (k : KeepsF fl s s') (hx : ∀ L, fl = some L → X L) {p : PV} {v : Value} (d : Den w X s.heap p v) : Den w X s'.heap p v := d.move fun a o ha e => ⟨ha, k.mem e fun q => ha (hx a q)⟩
theorem DenL.keepsF {w : World} (k : KeepsF fl s s') (hx : ∀ L, fl = some L → X L) {p : List PV} {v : List Value} (d : DenL w X s.heap p v) : DenL w X s'.heap p v := d.move fun a o ha e => ⟨ha, k.mem e fun q => ha (hx a q)⟩
theorem ns_keepsF {m : Str → Option Value} {a : Addr} (k : KeepsF fl s s') (hn : s.heap.Ns a m) : s'.heap.Ns a m := by
  obtain ⟨o, es, ep, ho, r⟩ := hn
  obtain ⟨sl, e⟩ := k.slots ho
  exact ⟨_, es, ep, e, r⟩
theorem cell_keepsF {a : Addr} {v : Option Value} (k : KeepsF fl s s') (hc : s.heap.IsCell a v) : s'.heap.IsCell a v := by
  obtain ⟨o, ho, r⟩ := hc
  obtain ⟨sl, e⟩ := k.slots ho
  exact ⟨_, e, r⟩
theorem reads_keepsF {x : Str} {v : Value} (k : KeepsF fl s s') (r : ReadsName env s.heap x v) : ReadsName env s'.heap x v := by
  unfold ReadsName at r ⊢
  split at r
  · obtain ⟨m, hn, e⟩ := r; exact ⟨m, ns_keepsF k hn, e⟩
  · obtain ⟨c, hl, e⟩ := r; exact ⟨c, hl, cell_keepsF k e⟩
  · obtain ⟨c, hl, e⟩ := r; exact ⟨c, hl, cell_keepsF k e⟩
  · exact r.elim
noncomputable def noOwnd : Loc → Bool
  | [] => true
  | (_, l) :: r => (match l with | .ownd _ => false | _ => true) && noOwnd r
theorem noOwnd_get : ∀ {σ : Loc}, noOwnd σ = true → ∀ {x l}, get σ x = some l → ∀ es, l ≠ .ownd es
  | [], _, _, _, e => by cases e
  | (y, k) :: r, h, x, l, e => by
    simp only [noOwnd, Bool.and_eq_true] at h
    simp only [get] at e
    split at e
    · cases e
      intro es q
      subst q
      cases h.1
    · exact noOwnd_get h.2 e
theorem LDen.keepsF {l : LV} {v : Value} (k : KeepsF fl s s') (F : FlOk W X fl s.heap) (hno : fl = none ∨ ∀ es, l ≠ .ownd es) (d : LDen W.prog W.w X M s.heap l v) : LDen W.prog W.w X M s'.heap l v := by
  cases l with
  | val p => exact Den.keepsF k F.ex d
  | is u p => exact ⟨d.1, d.2.keepsF k F.ex⟩
  | own vs =>
    obtain ⟨hz, a, us, n, e, m, g, dl⟩ := d
    refine ⟨hz, a, us, n, e, m, k.mem g fun q => ?_, dl.keepsF k F.ex⟩
    obtain ⟨m', o, es, ep, ho, hd, _⟩ := F.ns a q
    rw [g] at ho
    cases ho
    cases hd
  | ownd es =>
    rcases hno with rfl | hno
    · exact LDen.keeps (l := .ownd es) (keeps_mem k.none) d
    · exact absurd rfl (hno es)
theorem Vis.keepsF (k : KeepsF fl s s') (F : FlOk W X fl s.heap) (hno : fl = none ∨ noOwnd σ = true) (V : Vis W.prog W.w env X M σ s.heap) : Vis W.prog W.w env X M σ s'.heap :=
  fun x l e q => let ⟨v, r, d⟩ := V x l e q; ⟨v, reads_keepsF k r, d.keepsF k F (hno.imp id fun h => noOwnd_get h e)⟩
theorem top_keepsF (k : KeepsF fl s s') (F : FlOk W X fl s.heap) (h : ∀ b o, W.top.get? b = some o → s.heap.get? b = some o) : ∀ b o, W.top.get? b = some o → s'.heap.get? b = some o :=
  fun b o e => k.mem (h b o e) fun q => by have := F.top b q; rw [e] at this; cases this
theorem xlt_keepsF (k : KeepsF fl s s') (x : Xlt X s.heap) : Xlt X s'.heap := fun a ha => let ⟨o, e⟩ := x a ha; let ⟨sl, e2⟩ := k.slots e; ⟨_, e2⟩
theorem ES.afterF (x : ES W A d X M env sc σ s) (F : FlOk W X fl s.heap) (hno : fl = none ∨ noOwnd σ = true) (k : KeepsF fl s s') (t : 1 ≤ s'.toks) : ES W A d X M env sc σ s' :=
  ⟨x.room, top_keepsF k F x.top, x.eok, xlt_keepsF k x.xlt, x.mx, x.vis.keepsF k F hno, t⟩
theorem FlOk.after (F : FlOk W X fl s.heap) (k : KeepsF fl s s') : FlOk W X fl s'.heap := ⟨F.ex, F.top, fun L q => let ⟨m, hn⟩ := F.ns L q; ⟨m, ns_keepsF k hn⟩⟩
end
end Mine
namespace Mine

noncomputable abbrev WE := Sc → Expr → Loc → (PV → Prop) → Prop
noncomputable abbrev WT := Sc → Expr → Loc → (Bool → Prop) → Prop

noncomputable def EOk (W : Wd) (d : Nat) (f : WE) : Prop :=
  ∀ A E s X M env sc e σ K Q, ES W A d X M env sc σ s → f sc e σ K → Post W.w X s K Q → wpAny W.M A (eval e env) Q E s
noncomputable def TOk (W : Wd) (d : Nat) (f : WT) : Prop :=
  ∀ A E s X M env sc e σ (K : Bool → Prop) Q, ES W A d X M env sc σ s → f sc e σ K → (∀ b s', K b → Keeps s s' → Q b s') → wpAny W.M A (isTrue e env (eval e env)) Q E s

structure CallOK (W : Wd) (d : Nat) (f : Str) (spec : PSpec) : Prop where
  get : ∃ a, W.mg f = some (.ref a) ∧ (∃ o fd, W.top.get? a = some o ∧ o.data = .func fd) ∧
    ∀ A E s X vs ps K Q, Room d A → (∀ b o, W.top.get? b = some o → s.heap.get? b = some o) → Xlt X s.heap → 1 ≤ s.toks → DenL W.w X s.heap ps vs → spec ps K →
      Post W.w X s K Q → wpAny W.M A (call (.ref a) vs) Q E s

noncomputable def BI.name : BI → Str
  | .len => Str.ofString "len" | .min => Str.ofString "min" | .range => Str.ofString "range" | .list => Str.ofString "list" | .sum => Str.ofString "sum" | .chr => Str.ofString "chr" | .type => Str.ofString "type" | .repr => Str.ofString "repr"
noncomputable def biOf (x : Str) : List BI → Option BI
  | [] => none
  | b :: r => match nmEq b.name x with
    | true => some b
    | false => biOf x r
noncomputable def allBI : List BI := [.len, .min, .range, .list, .sum, .chr, .type, .repr]
theorem biOf_name {x : Str} : ∀ {l : List BI} {b : BI}, biOf x l = some b → b.name = x
  | [], _, e => by cases e
  | c :: r, b, e => by
    simp only [biOf] at e
    cases h : nmEq c.name x with
    | true => rw [h] at e; cases e; exact (nmEq_iff _ _).mp h
    | false => rw [h] at e; exact biOf_name e

inductive HandL (sg : List Str) (ms : Str → Str → Str) (ps : List PV) (Kt : PV → Prop) (Ks : Prop) : Prop
  | mk (l : List Str) (e : ps = l.map PV.str) (hz : (PyData.list (l.map PyData.str)).shown.length ≤ 100000) (ht : (∃ c ∈ sg, c ∈ l) → Kt (.tuple [.str (ms (PyData.list (l.map PyData.str)).shown (Str.ofString "list"))])) (hs : (∀ c ∈ sg, ¬ c ∈ l) → Ks)
noncomputable def handW (sg : List Str) (ms : Str → Str → Str) (p : PV) (Kt : PV → Prop) (Ks : Prop) : Prop := match p with
  | .none => Kt (.tuple [.str (ms (Str.ofString "None") (Str.ofString "NoneType"))])
  | .int i => Ob (i = 7) (Kt (.tuple [.str (ms (Str.ofString "7") (Str.ofString "int"))]))
  | .bytes b => Ob (b = #[38]) (Kt (.tuple [.str (ms (Str.ofString "b'&'") (Str.ofString "bytes"))]))
  | .list ps => HandL sg ms ps Kt Ks
  | _ => False
structure HandOK (W : Wd) (d : Nat) (f : Str) (sg : Nat → List Str) (ms : Str → Str → Str) : Prop where
  get : ∃ a, W.mg f = some (.ref a) ∧ (∃ o fd, W.top.get? a = some o ∧ o.data = .func fd) ∧
    ∀ {A : Around} {E : Value → Shared → Prop} {s : Shared} {X : Excl} {env : Env} {p : PV} {v : Value} {k : Nat} {t : Tok} {Kt : PV → Prop} {Ks : Prop} {Q : Value → Shared → Prop}, Room d A → A.frames = some [env] → env.frame = some env.locals → env.scope.kind = .function →
      FlOk W X (some env.locals) s.heap → (∀ b o, W.top.get? b = some o → s.heap.get? b = some o) → Xlt X s.heap → Den W.w X s.heap p v → k < 5 → handW (sg k) ms p Kt Ks →
      (∀ u q s', Kt q → KeepsF (some env.locals) s s' → Den W.w X s'.heap q u → Q u s') → (∀ s', Ks → KeepsF (some env.locals) s s' → Q v s') → wpAny W.M A (call (.ref a) [v, .int (k : Int) t]) Q E s

structure GOk (W : Wd) (d : Nat) (G : GC) : Prop where
  fn : ∀ f spec, G.fn f = some spec → CallOK W d f spec
  const : ∀ x p, G.const x = some p → ∃ v, W.mg x = some v ∧ ∀ X h, Den W.w X h p v
  bi : ∀ b : BI, W.mg b.name = none ∧ W.mb b.name = some b.val
  int : W.mg (Str.ofString "int") = none ∧ W.mb (Str.ofString "int") = some (.type "int")
  hand : ∀ q, G.hand = some q → d = 11 ∧ HandOK W d q.1 q.2.1 q.2.2

section
variable {W : Wd} {A : Around} {d : Nat} {X M : Excl} {env : Env} {sc : Sc} {σ : Loc} {s : Shared} {E : Value → Shared → Prop} {Q : Value → Shared → Prop} {K : PV → Prop} {G : GC} {r : WE} {t : WT}

theorem EOk.tk (h : EOk W d r) {e : Expr} (x : ES W A d X M env sc σ s) (hr : r sc e σ K) (hq : ∀ v p s', K p → Keeps s s' → s.toks ≤ s'.toks → Den W.w X s'.heap p v → Q v s') :
    wpAny W.M A (eval e env) Q E s :=
  wpAny_with_toks (Nat.le_refl _) (h A _ s X M env sc e σ K _ x hr fun v p s' hk ks dn ht => hq v p s' hk ks ht dn)

noncomputable def nameOf? (e : Expr) : Option (Str × Pos) := match e with | .Name x p => some (x, p) | _ => none
theorem nameOf?.inv {e : Expr} {q : Str × Pos} (h : nameOf? e = some q) : e = .Name q.1 q.2 := by
  cases e <;> first | exact nsome h | (cases h; rfl)
noncomputable def sliceOf? (e : Expr) : Option (Option Expr × Option Expr × Option Expr × Pos) := match e with | .Slice lo hi st p => some (lo, hi, st, p) | _ => none
theorem sliceOf?.inv {e : Expr} {q : Option Expr × Option Expr × Option Expr × Pos} (h : sliceOf? e = some q) : e = .Slice q.1 q.2.1 q.2.2.1 q.2.2.2 := by
  cases e <;> first | exact nsome h | (cases h; rfl)
noncomputable def constOf? (e : Expr) : Option (Const × Nat × Pos) := match e with | .Constant c k p => some (c, k, p) | _ => none
theorem constOf?.inv {e : Expr} {q : Const × Nat × Pos} (h : constOf? e = some q) : e = .Constant q.1 q.2.1 q.2.2 := by
  cases e <;> first | exact nsome h | (cases h; rfl)
noncomputable def strOf? (c : Const) : Option Str := match c with | .str x => some x | _ => none
theorem strOf?.inv {c : Const} {x : Str} (h : strOf? c = some x) : c = .str x := by
  cases c <;> first | exact nsome h | (cases h; rfl)
noncomputable def strC? (e : Expr) : Option (Str × Nat × Pos) := ob (constOf? e) fun c => ob (strOf? c.1) fun x => some (x, c.2.1, c.2.2)
theorem strC?.inv {e : Expr} {q : Str × Nat × Pos} (h : strC? e = some q) : e = .Constant (.str q.1) q.2.1 q.2.2 := by
  obtain ⟨c, h1, h⟩ := ob.inv h
  obtain ⟨x, h2, h⟩ := ob.inv h
  rw [constOf?.inv h1, strOf?.inv h2, ← Option.some.inj h]
  all_goals rfl
noncomputable def is0 (n : Int) : Bool := match n with
  | .ofNat m => (match m with | 0 => true | _ + 1 => false)
  | .negSucc _ => false
theorem is0.inv {n : Int} (h : is0 n = true) : n = 0 := by
  cases n with
  | ofNat m => cases m <;> first | rfl | cases h
  | negSucc m => cases h
/-- the one clause of a comprehension over one name -/
noncomputable def genOf? (gens : List Comprehension) : Option ((Str × Pos) × Expr × List Expr) := o1 gens fun g => ob (nameOf? g.target) fun q => og (is0 g.is_async) (some (q, g.iter, g.ifs))
theorem genOf?.inv {gens : List Comprehension} {q : (Str × Pos) × Expr × List Expr} (h : genOf? gens = some q) : gens = [⟨.Name q.1.1 q.1.2, q.2.1, q.2.2, 0⟩] := by
  obtain ⟨⟨t, it, ifs, n⟩, rfl, h⟩ := o1.inv h
  obtain ⟨x, h1, h⟩ := ob.inv h
  obtain ⟨h2, h⟩ := og.inv h
  rw [← Option.some.inj h, ← nameOf?.inv h1, ← is0.inv h2]
  all_goals rfl

noncomputable def constW : Const → (PV → Prop) → Prop
  | .none, K => K .none
  | .bool b, K => K (.bool b)
  | .int i, K => K (.int i)
  | .str x, K => match Nat.ble x.length 1000 with
    | true => K (.str x)
    | false => False
  | .bytes b, K => match Nat.ble b.toArray.size 1000 with
    | true => K (.bytes b.toArray)
    | false => False
  | _, _ => False
theorem le_1000 {n : Nat} (h : Nat.ble n 1000 = true) : n ≤ sizeLine := by
  have := Nat.le_of_ble_eq_true h
  have := sizeLine_eq
  omega
theorem const_ok {c : Const} {k pos} (h : constW c K) (hq : Post W.w X s K Q) : wpAny W.M A (eval (.Constant c k pos) env) Q E s := by
  rw [arm_eval_Constant]
  cases c with
  | none => exact wpAny_pure (hq _ _ _ h (keeps_refl s) mk_none)
  | bool b => exact wpAny_pure (hq _ _ _ h (keeps_refl s) mk_bool)
  | int i => exact wpAny_mkInt (hq _ _ _ h (keeps_tk s _) mk_int)
  | str x =>
    simp only [constW] at h
    split at h
    · rename_i hc
      exact wpAny_mkText (hq _ _ _ h (keeps_tk s _) (mk_str (le_1000 hc)))
    · exact h.elim
  | bytes b =>
    simp only [constW] at h
    split at h
    · rename_i hc
      show wpAny W.M A (mkTextBytes b.toArray) Q E s
      unfold mkTextBytes
      exact fun _ _ _ => hq _ _ _ h (keeps_tk s (s.toks + 1)) (by simp only [Den]; exact ⟨_, rfl⟩)
    · exact h.elim
  | _ => exact h.elim

noncomputable def nameW (G : GC) (sc : Sc) (σ : Loc) (x : Str) (K : PV → Prop) : Prop :=
  match kd sc x with
  | some .loc => (match get σ x with | some (.val p) => K p | some (.is _ p) => K p | _ => False)
  | some .glob => (match G.const x with
    | some p => K p
    | none => (match nmEq (Str.ofString "int") x with | true => K (.type "int") | false => False))
  | none => False

theorem reads_wp {x : Str} {v : Value} {Qv : Value → Shared → Prop} (ek : EnvOk env sc) (hr : ReadsName env s.heap x v) (h : Qv v s) (hcd : (x == ("__classdict__" : Str)) = false) : wpAny W.M A (loadName env x) Qv E s := by
  unfold ReadsName at hr
  split at hr
  · rename_i hk
    obtain ⟨m, hn, e⟩ := hr
    exact wpAny_loadName_local ek.kind hk hn e h
  · rename_i hk
    obtain ⟨c, hl, e⟩ := hr
    exact wpAny_loadName_cell ek.kind hk hl e h
  · rename_i hk
    obtain ⟨c, hl, e⟩ := hr
    exact wpAny_loadName_free ek.kind hk hl e h hcd
  · exact hr.elim

theorem EnvOk.ne_debug {k : VK} {x : Str} (ek : EnvOk env sc) (h : kd sc x = some k) : (x == ("__debug__" : Str)) = false := by
  rw [beq_eq_false_iff_ne]
  rintro rfl
  rw [ek.noDebug] at h; cases h
theorem EnvOk.ne_class {k : VK} {x : Str} (ek : EnvOk env sc) (h : kd sc x = some k) : (x == ("__classdict__" : Str)) = false := by
  rw [beq_eq_false_iff_ne]
  rintro rfl
  rw [ek.noClass] at h; cases h
theorem glob_kind {x : Str} (ek : EnvOk env sc) (h : kd sc x = some .glob) : env.kindOf x = some .globalImplicit := by
  have := ek.names x
  rw [h] at this
  cases hk : env.kindOf x with
  | none => rw [hk] at this; cases this
  | some k => rw [hk] at this; cases k <;> first | rfl | cases this

theorem nsTop {s : Shared} (hs : ∀ b o, W.top.get? b = some o → s.heap.get? b = some o) (ek : EnvOk env sc) : s.heap.Ns env.globals W.mg ∧ s.heap.Ns env.builtins W.mb := by
  rw [ek.globals, ek.builtins]
  exact ⟨W.T.g.keeps hs, W.T.b.keeps hs⟩

theorem name_ok {x : Str} {pos : Pos} (hG : GOk W d G) (es : ES W A d X M env sc σ s) (h : nameW G sc σ x K) (hq : Post W.w X s K Q) : wpAny W.M A (eval (.Name x pos) env) Q E s := by
  unfold nameW at h
  split at h
  · rename_i hk
    refine wpAny_Name ?_ (es.eok.ne_debug hk)
    split at h
    · rename_i p hg
      obtain ⟨v, hr, dv⟩ := es.vis x _ hg (by rw [es.eok.names, hk])
      exact reads_wp es.eok hr (hq _ _ _ h (keeps_refl s) dv) (es.eok.ne_class hk)
    · rename_i u p hg
      obtain ⟨v, hr, dv⟩ := es.vis x _ hg (by rw [es.eok.names, hk])
      exact reads_wp es.eok hr (hq _ _ _ h (keeps_refl s) dv.2) (es.eok.ne_class hk)
    · exact h.elim
  · rename_i hk
    have hn := nsTop es.top es.eok
    refine Calls.Name_function_global es.eok.kind (glob_kind es.eok hk) ?_ (es.eok.ne_debug hk)
    split at h
    · rename_i p hc
      obtain ⟨v, hv, dv⟩ := hG.const x p hc
      exact Calls.loadGlobal_global hn.1 hv (hq _ _ _ h (keeps_refl s) (dv X s.heap))
    · split at h
      · rename_i hx
        have e := (nmEq_iff _ _).mp hx
        subst e
        exact Calls.loadGlobal_builtin hn.1 hG.int.1 hn.2 hG.int.2 (hq _ _ _ h (keeps_refl s) mk_type)
      · exact h.elim
  · exact h.elim

theorem two_ok {e1 e2 : Expr} {f : PV → PV → (PV → Prop) → Prop} {g : Value → Value → Sem Value} {Q' : Value → Shared → Prop} (hr : EOk W d r) (es : ES W A d X M env sc σ s)
    (hop : ∀ v u p q s', ES W A d X M env sc σ s' → Keeps s s' → Den W.w X s'.heap p v → Den W.w X s'.heap q u → f p q K → wpAny W.M A (g v u) Q' E s')
    (h : r sc e1 σ fun a => r sc e2 σ fun b => f a b K) :
    wpAny W.M A (eval e1 env) (fun a s₁ => wpAny W.M A (eval e2 env) (fun b s₂ => wpAny W.M A (g a b) Q' E s₂) E s₁) E s := by
  refine hr.tk es h fun v p s1 h1 k1 t1 d1 => ?_
  have es1 := es.after k1 t1
  refine hr.tk es1 h1 fun u q s2 h2 k2 t2 d2 => ?_
  exact hop v u p q s2 (es1.after k2 t2) (keeps_trans k1 k2) (d1.keeps (keeps_mem k2)) d2 h2

theorem binop_ok {l rr : Expr} {op : Operator} {pos : Pos} (hr : EOk W d r) (es : ES W A d X M env sc σ s) (h : r sc l σ fun a => r sc rr σ fun b => binW op a b K) (hq : Post W.w X s K Q) :
    wpAny W.M A (eval (.BinOp l op rr pos) env) Q E s :=
  wpAny_BinOp (two_ok (f := fun a b K => binW op a b K) hr es (fun v u p q s' es' k' d1 d2 hf => bin_op es'.xlt d1 d2 hf (hq.after k')) h)

noncomputable def noSet : Expr → Bool
  | .Set .. => false
  | _ => true
theorem marks_of {op : CmpOp} {e : Expr} (h : noSet e = true) : behindInMarks op e = false := by
  cases e <;> first | rfl | cases h
theorem room_units {A : Around} (r : Room d A) : A.units + 64 < cLine := by have := r.units; show A.units + 64 < 9900; omega
theorem compare_ok {l rr : Expr} {op : CmpOp} {pos : Pos} (hr : EOk W d r) (hs : noSet rr = true) (es : ES W A d X M env sc σ s) (h : r sc l σ fun a => r sc rr σ fun b => cmpW op a b K) (hq : Post W.w X s K Q) :
    wpAny W.M A (eval (.Compare l [op] [rr] pos) env) Q E s :=
  wpAny_Compare1 (two_ok (f := fun a b K => cmpW op a b K) hr es (fun v u p q s' es' k' d1 d2 hf => cmp_op (room_units es'.room) d1 d2 hf (hq.after k')) h) (marks_of hs)

noncomputable def boolW (r : Expr → (PV → Prop) → Prop) : BoolOp → List Expr → (PV → Prop) → Prop
  | _, [], _ => False
  | _, [x], K => r x K
  | .Or, x :: rest, K => r x fun v => truthW v fun b => Br b (K v) (boolW r .Or rest K)
  | .And, x :: rest, K => r x fun v => truthW v fun b => Br b (boolW r .And rest K) (K v)
theorem bool_ok {op : BoolOp} {pos : Pos} (hr : EOk W d r) : ∀ {vs : List Expr} {s : Shared} {Q : Value → Shared → Prop}, ES W A d X M env sc σ s → boolW (fun e K => r sc e σ K) op vs K → Post W.w X s K Q →
    wpAny W.M A (boolOp pos op (evalEach vs env)) Q E s
  | [], _, _, _, h, _ => by cases op <;> exact h.elim
  | [x], s, Q, es, h, hq => by
    have h' : r sc x σ K := by cases op <;> exact h
    show wpAny W.M A (eval x env) Q E s
    exact hr _ _ _ _ _ _ _ _ _ _ _ es h' hq
  | x :: y :: rest, s, Q, es, h, hq => by
    show wpAny W.M A (do
      let v ← eval x env
      standAt pos
      let t ← holding [v] (truthy v)
      match op, t with
      | .And, false | .Or, true => pure v
      | _, _ => boolOp pos op (evalEach (y :: rest) env)) Q E s
    cases op with
    | Or =>
      simp only [boolW] at h
      refine wpAny_bind (hr.tk es h fun v p s1 h1 k1 t1 d1 => ?_)
      have es1 := es.after k1 t1
      refine wpAny_bind (wpAny_standAt (wpAny_bind (wpAny_holding (wpAny_with_toks (Nat.le_refl _) (truth_op d1 h1 fun b s2 h2 k2 t2 => ?_)))))
      have h3 := h2.elim
      cases b with
      | true => exact wpAny_pure (hq _ _ _ (h3.1 rfl) (keeps_trans k1 k2) (d1.keeps (keeps_mem k2)))
      | false => exact bool_ok hr (es1.after k2 t2) (h3.2 rfl) (hq.after (keeps_trans k1 k2))
    | And =>
      simp only [boolW] at h
      refine wpAny_bind (hr.tk es h fun v p s1 h1 k1 t1 d1 => ?_)
      have es1 := es.after k1 t1
      refine wpAny_bind (wpAny_standAt (wpAny_bind (wpAny_holding (wpAny_with_toks (Nat.le_refl _) (truth_op d1 h1 fun b s2 h2 k2 t2 => ?_)))))
      have h3 := h2.elim
      cases b with
      | false => exact wpAny_pure (hq _ _ _ (h3.2 rfl) (keeps_trans k1 k2) (d1.keeps (keeps_mem k2)))
      | true => exact bool_ok hr (es1.after k2 t2) (h3.1 rfl) (hq.after (keeps_trans k1 k2))

theorem ifexp_ok {c a b : Expr} {pos : Pos} (hr : EOk W d r) (ht : TOk W d t) (es : ES W A d X M env sc σ s) (h : t sc c σ fun x => Br x (r sc a σ K) (r sc b σ K)) (hq : Post W.w X s K Q) :
    wpAny W.M A (eval (.IfExp c a b pos) env) Q E s := by
  rw [arm_eval_IfExp]
  refine wpAny_bind (wpAny_with_toks (Nat.le_refl _) (ht _ _ _ _ _ _ _ _ _ _ _ es h fun x s1 h1 k1 t1 => ?_))
  have h2 := h1.elim
  cases x with
  | true => exact hr _ _ _ _ _ _ _ _ _ _ _ (es.after k1 t1) (h2.1 rfl) (hq.after k1)
  | false => exact hr _ _ _ _ _ _ _ _ _ _ _ (es.after k1 t1) (h2.2 rfl) (hq.after k1)

noncomputable def noStar : Expr → Bool
  | .Starred .. => false
  | _ => true
noncomputable def eachW (r : Expr → (PV → Prop) → Prop) : List Expr → (List PV → Prop) → Prop
  | [], K => K []
  | e :: es, K => match noStar e with
    | true => r e fun p => eachW r es fun ps => K (p :: ps)
    | false => False
theorem starEach_plain {e : Expr} {es : List Expr} (h : noStar e = true) : starEach (e :: es) env = (false, eval e env) :: starEach es env := by
  cases e <;> first | rfl | cases h
theorem each_ok {pos : Pos} (hr : EOk W d r) : ∀ {es : List Expr} {s : Shared} {K : List PV → Prop} {Q : List Value → Shared → Prop}, ES W A d X M env sc σ s → eachW (fun e K => r sc e σ K) es K →
    (∀ vs ps s', K ps → Keeps s s' → s.toks ≤ s'.toks → DenL W.w X s'.heap ps vs → Q vs s') → wpAny W.M A (spliced (backTo pos (starEach es env))) Q E s
  | [], s, K, Q, x, h, hq => Calls.spliced_nil (hq _ _ _ h (keeps_refl s) (Nat.le_refl _) .nil)
  | e :: es, s, K, Q, x, h, hq => by
    simp only [eachW] at h
    split at h
    · rename_i hn
      rw [starEach_plain hn]
      show wpAny W.M A (spliced ((false, eval e env) :: backTo pos (starEach es env))) Q E s
      refine Calls.spliced_cons (hr.tk x h fun v p s1 h1 k1 t1 d1 => ?_)
      refine each_ok hr (x.after k1 t1) h1 fun vs ps s2 h2 k2 t2 d2 => ?_
      exact hq _ _ _ h2 (keeps_trans k1 k2) (Nat.le_trans t1 t2) (.cons (d1.keeps (keeps_mem k2)) d2)
    · exact h.elim
theorem list_ok {es : List Expr} {pos : Pos} (hr : EOk W d r) (x : ES W A d X M env sc σ s) (h : eachW (fun e K => r sc e σ K) es fun ps => Ob (ps.length ≤ sizeLine) (K (.list ps))) (hq : Post W.w X s K Q) :
    wpAny W.M A (eval (.List es pos) env) Q E s := by
  refine List_ (each_ok hr x h fun vs ps s1 h1 k1 t1 d1 => ?_)
  obtain ⟨hz, h1⟩ := h1.elim
  refine wpAny_newObj_type ?_ (by show vs.toArray.size ≤ sizeLine; rw [List.size_toArray, d1.length]; exact hz)
  exact alloc_den (x.after k1 t1).xlt h1 (hq.after k1) fun hx => mk_list hz hx (n := 0) (us := vs) (Heap.get?_push_size _ rfl) (d1.keeps fun _ _ e => Heap.get?_push_of_some _ e)
theorem tuple_ok {es : List Expr} {n : Nat} {pos : Pos} (hr : EOk W d r) (x : ES W A d X M env sc σ s) (h : eachW (fun e K => r sc e σ K) es fun ps => Ob (ps.length ≤ sizeLine) (K (.tuple ps))) (hq : Post W.w X s K Q) :
    wpAny W.M A (eval (.Tuple es n pos) env) Q E s := by
  refine Tuple_ (each_ok hr x h fun vs ps s1 h1 k1 t1 d1 => ?_)
  obtain ⟨hz, h1⟩ := h1.elim
  refine wpAny_newObj_type ?_ (by show vs.toArray.size ≤ sizeLine; rw [List.size_toArray, d1.length]; exact hz)
  exact alloc_den (x.after k1 t1).xlt h1 (hq.after k1) fun hx => mk_tuple hz hx (n := 0) (us := vs) (Heap.get?_push_size _ rfl) (d1.keeps fun _ _ e => Heap.get?_push_of_some _ e)

theorem item_ok {v i : Expr} {pos : Pos} (hr : EOk W d r) (x : ES W A d X M env sc σ s) (h : r sc v σ fun p => r sc i σ fun q => idxW p q K) (hq : Post W.w X s K Q) :
    wpAny W.M A (eval (.Subscript v i pos) env) Q E s :=
  Subscript_ (two_ok (f := fun a b K => idxW a b K) (g := fun a b => subscriptTail v i a b) hr x (fun v u p q s' es' k' d1 d2 hf => idx_op d1 d2 hf (hq.after k')) h)
end
end Mine
namespace Mine

section
variable {W : Wd} {A : Around} {d : Nat} {X M : Excl} {env : Env} {sc : Sc} {σ : Loc} {s : Shared} {E : Value → Shared → Prop} {Q : Value → Shared → Prop} {K : PV → Prop} {G : GC} {r : WE} {t : WT}

noncomputable def ownItemW (r : Expr → (PV → Prop) → Prop) (sc : Sc) (σ : Loc) (x : Str) (i : Expr) (K : PV → Prop) : Prop :=
  match kd sc x with
  | some .loc => (match get σ x with
    | some (.own vs) => r i fun q => (match q with | .int k => Ex (itemAt vs k) K | _ => False)
    | some (.val p) => r i fun q => idxW p q K
    | _ => False)
  | _ => False
theorem own_item_ok {x : Str} {i : Expr} {p pos : Pos} (hr : EOk W d r) (es : ES W A d X M env sc σ s) (h : ownItemW (fun e K => r sc e σ K) sc σ x i K) (hq : Post W.w X s K Q) :
    wpAny W.M A (eval (.Subscript (.Name x p) i pos) env) Q E s := by
  unfold ownItemW at h
  split at h
  · rename_i hk
    split at h
    · rename_i vs hg
      obtain ⟨v, hrn, hz, a, us, n, rfl, hm, ho, dl⟩ := es.vis x _ hg (by rw [es.eok.names, hk])
      refine Subscript_ (wpAny_Name (reads_wp es.eok hrn ?_ (es.eok.ne_class hk)) (es.eok.ne_debug hk))
      refine hr.tk es h fun u q s1 h1 k1 t1 d1 => ?_
      cases q with
      | int k =>
        obtain ⟨t', rfl⟩ := den_int d1
        obtain ⟨c, hc, h1⟩ := Ex.elim h1
        have hz' := sizeLine_fit hz
        unfold itemAt at hc
        obtain ⟨k', hk', hc⟩ := Option.bind_eq_some_iff.mp hc
        obtain ⟨hv, hu, du⟩ := dl.get hc
        obtain ⟨e1, e2⟩ := seqIndex_range hk'
        have hl := lst_isList (keeps_mem k1 _ _ ho)
        obtain ⟨ops, hs⟩ := subscripted_op i (.ref a) (.int k t')
        refine tail_any hl.typeIs slot_list_getitem.lookup ?_ hs
        rcases e2 with ⟨e2, rfl, e3⟩ | ⟨e2, rfl, e3⟩
        · exact wpAny_getItem_list hl e2 (by omega) (by simpa using hu) (hq _ _ _ h1 k1 (du.keeps (keeps_mem k1)))
        · refine wpAny_getItem_list_neg hl e2 ?_ (by omega) ?_ (hq _ _ _ h1 k1 (du.keeps (keeps_mem k1)))
          · rw [List.size_toArray, dl.length]; exact e3
          · rw [List.size_toArray, dl.length]; simpa using hu
      | _ => exact h1.elim
    · rename_i q hg
      obtain ⟨v, hrn, dv⟩ := es.vis x _ hg (by rw [es.eok.names, hk])
      refine Subscript_ (wpAny_Name (reads_wp es.eok hrn ?_ (es.eok.ne_class hk)) (es.eok.ne_debug hk))
      refine hr.tk es h fun u q' s1 h1 k1 t1 d1 => ?_
      exact idx_op (LDen.keeps (l := .val q) (M := M) (keeps_mem k1) dv) d1 h1 (hq.after k1)
    · exact h.elim
  · exact h.elim

noncomputable def partW (r : Expr → (PV → Prop) → Prop) : Option Expr → (Option Int → Prop) → Prop
  | none, K => K none
  | some e, K => r e fun p => Ex (partOf p) K
theorem part_ok {e : Option Expr} {Kp : Option Int → Prop} {Qp : Value → Shared → Prop} (hr : EOk W d r) (es : ES W A d X M env sc σ s) (h : partW (fun e K => r sc e σ K) e Kp)
    (hq : ∀ (q : Option (Int × Tok)) s', Kp (q.map (·.1)) → Keeps s s' → s.toks ≤ s'.toks → Qp (partValue q) s') : wpAny W.M A (evalPart e env) Qp E s := by
  cases e with
  | none => rw [evalPart_none]; exact wpAny_pure (hq none s h (keeps_refl s) (Nat.le_refl _))
  | some e =>
    rw [evalPart_some]
    refine hr.tk es h fun v p s1 h1 k1 t1 d1 => ?_
    obtain ⟨o, ho, h1⟩ := h1.elim
    obtain ⟨q, rfl, hm⟩ := part_is d1 ho
    exact hq q s1 (hm ▸ h1) k1 t1
noncomputable def slicesW (r : Expr → (PV → Prop) → Prop) (v : Expr) (lo hi st : Option Expr) (K : PV → Prop) : Prop :=
  r v fun p => partW r lo fun l => partW r hi fun u => partW r st fun z => sliceW p l u z K
theorem slices_ok {v : Expr} {lo hi st : Option Expr} {p pos : Pos} (hr : EOk W d r) (es : ES W A d X M env sc σ s) (h : slicesW (fun e K => r sc e σ K) v lo hi st K) (hq : Post W.w X s K Q) :
    wpAny W.M A (eval (.Subscript v (.Slice lo hi st p) pos) env) Q E s := by
  refine Subscript_ (hr.tk es h fun v p s1 h1 k1 t1 d1 => ?_)
  have es1 := es.after k1 t1
  refine wpAny_Slice (part_ok hr es1 h1 fun l s2 h2 k2 t2 => ?_)
  have es2 := es1.after k2 t2
  refine part_ok hr es2 h2 fun u s3 h3 k3 t3 => ?_
  have es3 := es2.after k3 t3
  refine part_ok hr es3 h3 fun z s4 h4 k4 t4 => ?_
  have es4 := es3.after k4 t4
  have kk := keeps_trans k2 (keeps_trans k3 (keeps_trans k4 (keeps_push' s4 { cls := .type "slice", data := .fields #[partValue l, partValue u, partValue z] })))
  refine slice_op (lo := l) (hi := u) (st := z) ?_ (d1.keeps (keeps_mem kk)) (Heap.get?_push_size _ rfl) h4 (hq.after (keeps_trans k1 kk))
  exact es4.xlt.keeps fun _ _ e => Heap.get?_push_of_some _ e

noncomputable def callW (G : GC) (r : Expr → (PV → Prop) → Prop) (sc : Sc) (f : Str) (args : List Expr) (K : PV → Prop) : Prop :=
  match args with
  | [] => False
  | a :: as => (match kd sc f with
    | some .glob => (match G.fn f with
      | some spec => eachW r (a :: as) fun ps => spec ps K
      | none => (match biOf f allBI with
        | some b => eachW r (a :: as) fun ps => bcallW b ps K
        | none => False))
    | _ => False)
theorem evalArgs_ok {f : Value} {a : Expr} {as : List Expr} {pos : Pos} {Ka : List PV → Prop} {Qa : Args → Shared → Prop} (hr : EOk W d r) (es : ES W A d X M env sc σ s) (h : eachW (fun e K => r sc e σ K) (a :: as) Ka)
    (hq : ∀ vs ps s', Ka ps → Keeps s s' → s.toks ≤ s'.toks → DenL W.w X s'.heap ps vs → Qa ⟨vs, []⟩ s') : wpAny W.M A (evalArgs f true (backTo pos (starEach (a :: as) env)) (backToKw pos (keywordEach [] env))) Qa E s := by
  have h' := h
  simp only [eachW] at h
  split at h
  · rename_i hn
    rw [starEach_plain hn]
    refine Calls.evalArgs_plain ?_
    have e : backTo pos (starEach (a :: as) env) = (false, eval a env) :: backTo pos (starEach as env) := by rw [starEach_plain hn]; rfl
    exact e ▸ each_ok (pos := pos) hr es h' hq
  · exact h.elim

theorem starEach_any : ∀ {es : List Expr} {pos : Pos} {f : Expr → (PV → Prop) → Prop} (hn : ∀ e ∈ es, noStar e = true), (backTo pos (starEach es env)).any (·.1) = false
  | [], _, _, _ => rfl
  | e :: es, pos, f, hn => by
    rw [starEach_plain (hn e List.mem_cons_self)]
    show (false || (backTo pos (starEach es env)).any (·.1)) = false
    rw [Bool.false_or]
    exact starEach_any (f := f) fun x hx => hn x (List.mem_cons_of_mem _ hx)
noncomputable def noStars (es : List Expr) : Bool := es.all noStar

noncomputable def callW' (G : GC) (r : Expr → (PV → Prop) → Prop) (sc : Sc) (f : Str) (args : List Expr) (K : PV → Prop) : Prop :=
  match noStars args with
  | true => callW G r sc f args K
  | false => False

theorem call_ok {f : Str} {p pos : Pos} {args : List Expr} (hG : GOk W d G) (hr : EOk W d r) (es : ES W A d X M env sc σ s) (h : callW' G (fun e K => r sc e σ K) sc f args K) (hq : Post W.w X s K Q) :
    wpAny W.M A (eval (.Call (.Name f p) args [] pos) env) Q E s := by
  unfold callW' at h
  split at h
  · rename_i hns
    unfold callW at h
    cases args with
    | nil => exact h.elim
    | cons a as =>
      simp only at h
      split at h
      · rename_i hk
        have hn := nsTop es.top es.eok
        refine wpAny_Call_Name_kw (Calls.Name_function_global es.eok.kind (glob_kind es.eok hk) ?_ (es.eok.ne_debug hk))
        have hst : (backTo pos (starEach (a :: as) env)).any (·.1) = false := starEach_any (f := fun _ _ => True) (List.all_eq_true.mp hns)
        split at h
        · rename_i spec hf
          obtain ⟨fa, hfa, ⟨o, fd, hto, hod⟩, hc⟩ := (hG.fn f spec hf).get
          refine Calls.loadGlobal_global hn.1 hfa ?_
          refine Calls.callWith_function (o := o) (fd := fd) (evalArgs_ok hr es h fun vs ps s1 h1 k1 t1 d1 => ?_)
          have es1 := es.after k1 t1
          exact ⟨⟨es1.top _ _ hto, hod⟩, hc A E s1 X vs ps K Q es1.room es1.top es1.xlt es1.tok d1 h1 (hq.after k1)⟩
        · split at h
          · rename_i b hb
            have hbn := biOf_name hb
            have hbi := hG.bi b
            rw [hbn] at hbi
            refine Calls.loadGlobal_builtin hn.1 hbi.1 hn.2 hbi.2 ?_
            have fin : wpAny W.M A (evalArgs b.val true (backTo pos (starEach (a :: as) env)) (backToKw pos (keywordEach [] env))) (fun x s₁ => wpAny W.M A (call b.val ([] ++ x.pos) x.kw) Q E s₁) E s :=
              evalArgs_ok hr es h fun vs ps s1 h1 k1 t1 d1 => by
                have es1 := es.after k1 t1
                exact bcall_op es1.room.handled es1.room.guards (room_units es1.room) es1.xlt d1 h1 (hq.after k1)
            cases b with
            | len => exact Calls.callWith_builtin (id := "len") hst fin
            | min => exact Calls.callWith_builtin (id := "min") hst fin
            | range => exact PySem.callWith_type (T := "range") hst fin
            | list => exact PySem.callWith_type (T := "list") hst fin
            | sum => exact Calls.callWith_builtin (id := "sum") hst fin
            | chr => exact Calls.callWith_builtin (id := "chr") hst fin
            | type => exact PySem.callWith_type (T := "type") hst fin
            | repr => exact Calls.callWith_builtin (id := "repr") hst fin
          · exact h.elim
      · exact h.elim
  · exact h.elim

inductive SM where
  | lower | join | replace | upper | swapcase
noncomputable def SM.name : SM → Str
  | .lower => Str.ofString "lower" | .join => Str.ofString "join" | .replace => Str.ofString "replace" | .upper => Str.ofString "upper" | .swapcase => Str.ofString "swapcase"
noncomputable def smOf (x : Str) : List SM → Option SM
  | [] => none
  | b :: r => match nmEq b.name x with
    | true => some b
    | false => smOf x r
theorem smOf_name {x : Str} : ∀ {l : List SM} {b : SM}, smOf x l = some b → b.name = x
  | [], _, e => by cases e
  | c :: r, b, e => by
    simp only [smOf] at e
    cases h : nmEq c.name x with
    | true => rw [h] at e; cases e; exact (nmEq_iff _ _).mp h
    | false => rw [h] at e; exact smOf_name e
theorem strs_den {h : Heap} {vs : List PV} {ns : List Str} {us : List Value} (e : strs? vs = some ns) (d : DenL W.w X h vs us) : ∃ l : List (Str × Tok), us = strValues l ∧ l.map (·.1) = ns := by
  have := strs_inv e
  subst this
  clear e
  exact denL_strs d

noncomputable def smethW (r : Expr → (PV → Prop) → Prop) (o : Expr) (m : Str) (args : List Expr) (K : PV → Prop) : Prop :=
  gs (smOf m [.lower, .join, .replace, .upper, .swapcase]) fun sm => match sm with
  | .lower => as0 args (r o fun p => asS p fun x => Ob ((Txt.lower x).length ≤ sizeLine) (K (.str (Txt.lower x)))) fun _ _ => False
  | .upper => as0 args (r o fun p => asS p fun x => Ob ((Txt.upper x).length ≤ sizeLine) (K (.str (Txt.upper x)))) fun _ _ => False
  | .swapcase => as0 args (r o fun p => asS p fun x => Ob ((Txt.swapcase x).length ≤ sizeLine) (K (.str (Txt.swapcase x)))) fun _ _ => False
  | .join => as1 args fun e => gd (noStar e) (r o fun p => asS p fun x => r e fun q => asL q fun vs => Ex (strs? vs) fun xs => Ob (JoinOk x xs = true) (K (.str (Txt.join x xs))))
  | .replace => as0 args False fun a l => as1 l fun b => gs (strC? a) fun y => gs (strC? b) fun z => r o fun p => asS p fun x =>
      Ob ((y.1 == z.1) = false ∧ x.length + (x.length + 1) * z.1.length ≤ 16777216 ∧ (Txt.replace x y.1 z.1).length ≤ sizeLine) (K (.str (Txt.replace x y.1 z.1)))
noncomputable def noCall : Expr → Bool
  | .Call .. => false
  | _ => true
theorem base_plain {o : Expr} {m : Str} {whole : Sem Value} (h : noCall o = true) : attributeBase o m env whole = whole := by
  cases o <;> first | rfl | cases h

theorem not_too {n : Nat} (h : n ≤ sizeLine) : Builtin.Str.tooLong n = false := by
  have := sizeLine_eq
  simp only [Builtin.Str.tooLong, decide_eq_false_iff_not]
  omega

theorem smeth_ok {o : Expr} {m : Str} {apos pos : Pos} {args : List Expr} (hr : EOk W d r) (hc : noCall o = true) (hl : (apos.endLine == pos.line) = true) (es : ES W A d X M env sc σ s)
    (h : smethW (fun e K => r sc e σ K) o m args K) (hq : Post W.w X s K Q) :
    wpAny W.M A (eval (.Call (.Attribute o m apos) args [] pos) env) Q E s := by
  obtain ⟨sm, hm, h⟩ := gs.inv h
  have e := smOf_name hm
  subst e
  cases sm with
  | lower =>
    rcases args with _ | ⟨a, l⟩
    · refine Call_method0 (base_plain hc) hl (hr.tk es h fun v p s1 h1 k1 t1 d1 => ?_)
      obtain ⟨x, rfl, h1⟩ := asS.inv h1
      obtain ⟨hz, t', rfl⟩ := den_str d1
      obtain ⟨ho, h1⟩ := Ob.elim h1
      exact SB.lower (not_too ho) (hq _ _ _ h1 (keeps_trans k1 (keeps_tk _ _)) (mk_str ho))
    · exact False.elim h
  | upper =>
    rcases args with _ | ⟨a, l⟩
    · refine Call_method0 (base_plain hc) hl (hr.tk es h fun v p s1 h1 k1 t1 d1 => ?_)
      obtain ⟨x, rfl, h1⟩ := asS.inv h1
      obtain ⟨hz, t', rfl⟩ := den_str d1
      obtain ⟨ho, h1⟩ := Ob.elim h1
      exact SB.upper (not_too ho) (hq _ _ _ h1 (keeps_trans k1 (keeps_tk _ _)) (mk_str ho))
    · exact False.elim h
  | swapcase =>
    rcases args with _ | ⟨a, l⟩
    · refine Call_method0 (base_plain hc) hl (hr.tk es h fun v p s1 h1 k1 t1 d1 => ?_)
      obtain ⟨x, rfl, h1⟩ := asS.inv h1
      obtain ⟨hz, t', rfl⟩ := den_str d1
      obtain ⟨ho, h1⟩ := Ob.elim h1
      exact SB.swapcase (not_too ho) (hq _ _ _ h1 (keeps_trans k1 (keeps_tk _ _)) (mk_str ho))
    · exact False.elim h
  | join =>
    obtain ⟨e, rfl, h2⟩ := as1.inv (F := fun e => gd (noStar e) (r sc o σ fun p => asS p fun x => r sc e σ fun q => asL q fun vs => Ex (strs? vs) fun xs => Ob (JoinOk x xs = true) (K (.str (Txt.join x xs))))) h
    obtain ⟨hn, h2⟩ := gd.inv h2
    refine Call_method1 (base_plain hc) (starEach_plain hn) hl (hr.tk es h2 fun v p s1 h1 k1 t1 d1 => ?_)
    obtain ⟨x, rfl, h1⟩ := asS.inv h1
    obtain ⟨hz, t', rfl⟩ := den_str d1
    refine SB.join ((hr.tk (es.after k1 t1) h1 fun u q s2 h2 k2 t2 d2 => ?_))
    obtain ⟨vs, rfl, h2⟩ := asL.inv h2
    obtain ⟨xs, hx, h2⟩ := Ex.elim h2
    obtain ⟨hj, h2⟩ := Ob.elim h2
    obtain ⟨hz', a, us, n, rfl, _, hg, dl⟩ := den_list d2
    obtain ⟨l, rfl, rfl⟩ := strs_den hx dl
    exact ⟨a, l, rfl, lst_isList hg, _, rfl, hj, fun t' k => hq _ _ _ h2 (keeps_trans k1 (keeps_trans k2 (keeps_tk _ _))) (mk_str (joinOk_length hj))⟩
  | replace =>
    rcases args with _ | ⟨a, l⟩
    · exact False.elim h
    obtain ⟨b, rfl, h2⟩ := as1.inv (F := fun b => gs (strC? a) fun y => gs (strC? b) fun z => r sc o σ fun p => asS p fun x =>
      Ob ((y.1 == z.1) = false ∧ x.length + (x.length + 1) * z.1.length ≤ 16777216 ∧ (Txt.replace x y.1 z.1).length ≤ sizeLine) (K (.str (Txt.replace x y.1 z.1)))) h
    obtain ⟨⟨y, k0, p0⟩, hy, h2⟩ := gs.inv h2
    obtain ⟨⟨z, k1', p1⟩, hz', h2⟩ := gs.inv h2
    cases strC?.inv hy
    cases strC?.inv hz'
    refine Call_method2 (base_plain hc) rfl hl (hr.tk es h2 fun v p s1 h1 k1 t1 d1 => ?_)
    obtain ⟨x, rfl, h1⟩ := asS.inv h1
    obtain ⟨hz, t', rfl⟩ := den_str d1
    obtain ⟨⟨h2, h3, h4⟩, h1⟩ := Ob.elim h1
    have htok : 1 ≤ s1.toks := Nat.le_trans es.tok t1
    refine ⟨"str", "str.replace", PySem.F.plainAttrs_str, PySem.F.slot_str_replace, PySem.F.type_str_replace, typeIs_str _ _ _, (fun _ e => nomatch e), ?_⟩
    refine Calls.callWith_builtin rfl (Calls.evalArgs_plain (Calls.spliced_cons (Calls.Constant_str (Calls.spliced_cons (Calls.Constant_str (Calls.spliced_nil ?_))))))
    exact SC.replace (Nat.ne_of_gt htok) (Nat.succ_ne_zero _) (Nat.ne_of_lt (Nat.lt_succ_self _)) h2 h3 fun t'' k => hq _ _ _ h1 (keeps_trans k1 (keeps_tk _ _)) (mk_str h4)
end
end Mine
namespace Mine

section
variable {W : Wd} {A : Around} {d : Nat} {X M : Excl} {env : Env} {sc : Sc} {σ : Loc} {s : Shared} {E : Value → Shared → Prop} {Q : Value → Shared → Prop} {K : PV → Prop} {G : GC} {r : WE} {t : WT}

noncomputable def plainTest : Expr → Bool
  | .UnaryOp .Not _ _ | .BoolOp .. | .IfExp .. | .Compare .. => false
  | _ => true
noncomputable def allW (t : Expr → (Bool → Prop) → Prop) : BoolOp → List Expr → (Bool → Prop) → Prop
  | .And, [], K => K true
  | .Or, [], K => K false
  | .And, x :: rest, K => t x fun b => Br b (allW t .And rest K) (K false)
  | .Or, x :: rest, K => t x fun b => Br b (K true) (allW t .Or rest K)
noncomputable def plainW (r : WE) (sc : Sc) (e : Expr) (σ : Loc) (K : Bool → Prop) : Prop := gd (plainTest e) (r sc e σ fun p => truthW p K)
/-- the very value of a name -/
noncomputable def locK (k : Option VK) : Bool := match k with | some .loc => true | _ => false
theorem locK.inv {k : Option VK} (h : locK k = true) : k = some .loc := by
  unfold locK at h
  split at h
  · rfl
  · cases h
noncomputable def isL? (l : LV) : Option Value := match l with | .is u _ => (match u with | .ref _ => some u | _ => none) | _ => none
theorem isL?.inv {l : LV} {u : Value} (h : isL? l = some u) : ∃ q a, l = .is u q ∧ u = .ref a := by
  cases l with
  | is w p => cases w <;> first | exact nsome h | (cases h; exact ⟨p, _, rfl, rfl⟩)
  | _ => exact nsome h
noncomputable def isV? (sc : Sc) (σ : Loc) (e : Expr) : Option Value := ob (nameOf? e) fun q => og (locK (kd sc q.1)) (ob (get σ q.1) isL?)
theorem isV?.inv {sc : Sc} {σ : Loc} {e : Expr} {u : Value} (h : isV? sc σ e = some u) : ∃ x p q a, e = .Name x p ∧ kd sc x = some .loc ∧ get σ x = some (.is u q) ∧ u = .ref a := by
  obtain ⟨q, h1, h⟩ := ob.inv h
  obtain ⟨h2, h⟩ := og.inv h
  obtain ⟨l, h3, h⟩ := ob.inv h
  obtain ⟨p, a, rfl, e⟩ := isL?.inv h
  exact ⟨q.1, q.2, p, a, nameOf?.inv h1, locK.inv h2, h3, e⟩
/-- `x is not y` over two names whose very values are known -/
noncomputable def notSameW (sc : Sc) (σ : Loc) (op : CmpOp) (l rr : Expr) (K : Bool → Prop) (other : Prop) : Prop := match op with
  | .IsNot => (match isV? sc σ l with
    | none => other
    | some u => (match isV? sc σ rr with
      | none => other
      | some v => Ob (u = v) (K false)))
  | _ => other
noncomputable def stepT (r : WE) (t : WT) : WT := fun sc e σ K => match e with
  | .UnaryOp op x p => (match op with
    | .Not => t sc x σ fun b => K (!b)
    | op => plainW r sc (.UnaryOp op x p) σ K)
  | .BoolOp op xs _ => allW (fun e K => t sc e σ K) op xs K
  | .Compare l ops rs _ => as1 ops fun op => as1 rs fun rr => notSameW sc σ op l rr K (gd (noSet rr) (r sc l σ fun a => r sc rr σ fun b => cmpW op a b fun c => truthW c K))
  | e => plainW r sc e σ K

theorem TOk.tk {Kb : Bool → Prop} {Qb : Bool → Shared → Prop} (h : TOk W d t) {e : Expr} (x : ES W A d X M env sc σ s) (hr : t sc e σ Kb) (hq : ∀ b s', Kb b → Keeps s s' → s.toks ≤ s'.toks → Qb b s') :
    wpAny W.M A (isTrue e env (eval e env)) Qb E s :=
  wpAny_with_toks (Nat.le_refl _) (h A _ s X M env sc e σ Kb _ x hr fun b s' hk ks ht => hq b s' hk ks ht)

theorem all_ok (ht : TOk W d t) : ∀ {op : BoolOp} {xs : List Expr} {s : Shared} {Kb : Bool → Prop} {Qb : Bool → Shared → Prop}, ES W A d X M env sc σ s → allW (fun e K => t sc e σ K) op xs Kb →
    (∀ b s', Kb b → Keeps s s' → Qb b s') → wpAny W.M A (allTrue op xs env) Qb E s
  | .And, [], s, Kb, Qb, x, h, hq => wpAny_pure (hq _ _ h (keeps_refl s))
  | .Or, [], s, Kb, Qb, x, h, hq => wpAny_pure (hq _ _ h (keeps_refl s))
  | .And, e :: xs, s, Kb, Qb, x, h, hq => by
    rw [arm_allTrue_cons]
    refine wpAny_bind (ht.tk x h fun b s1 h1 k1 t1 => ?_)
    have h2 := h1.elim
    cases b with
    | true => exact all_ok ht (x.after k1 t1) (h2.1 rfl) fun b s' hb ks => hq b s' hb (keeps_trans k1 ks)
    | false => exact wpAny_pure (hq _ _ (h2.2 rfl) k1)
  | .Or, e :: xs, s, Kb, Qb, x, h, hq => by
    rw [arm_allTrue_cons]
    refine wpAny_bind (ht.tk x h fun b s1 h1 k1 t1 => ?_)
    have h2 := h1.elim
    cases b with
    | false => exact all_ok ht (x.after k1 t1) (h2.2 rfl) fun b s' hb ks => hq b s' hb (keeps_trans k1 ks)
    | true => exact wpAny_pure (hq _ _ (h2.1 rfl) k1)

theorem plain_isTrue {e : Expr} (h : plainTest e = true) (whole : Sem Value) : isTrue e env whole = (do let v ← whole; standAt e.pos; holding [v] (truthy v)) := by
  cases e with
  | UnaryOp op x p => cases op <;> first | rfl | cases h
  | BoolOp => cases h
  | IfExp => cases h
  | Compare => cases h
  | _ => rfl

theorem stepT_ok (hr : EOk W d r) (ht : TOk W d t) : TOk W d (stepT r t) := by
  intro A E s X M env sc e σ Kb Qb x h hq
  have plain : ∀ e, plainW r sc e σ Kb → wpAny W.M A (isTrue e env (eval e env)) Qb E s := by
    intro e h
    obtain ⟨hp, h⟩ := gd.inv h
    refine wpAny_isTrue_value ?_ (plain_isTrue hp _)
    refine hr.tk x h fun v p s1 h1 k1 t1 d1 => ?_
    exact truth_op d1 h1 fun b s' hb ks => hq b s' hb (keeps_trans k1 ks)
  cases e with
  | UnaryOp op y p =>
    cases op with
    | Not => exact wpAny_isTrue_Not (ht.tk x h fun b s1 h1 k1 t1 => hq _ _ h1 k1)
    | _ => exact plain _ h
  | BoolOp op xs p => exact wpAny_isTrue_BoolOp (all_ok ht x h hq)
  | Compare l ops rs p =>
    obtain ⟨op, rfl, h2⟩ := as1.inv h
    obtain ⟨rr, rfl, h3'⟩ := as1.inv h2
    have gen : gd (noSet rr) (r sc l σ fun a => r sc rr σ fun b => cmpW op a b fun c => truthW c Kb) → wpAny W.M A (isTrue (.Compare l [op] [rr] p) env (eval (.Compare l [op] [rr] p) env)) Qb E s := by
     intro h3
     obtain ⟨hs, h4⟩ := gd.inv h3
     refine wpAny_isTrue_Compare1 ?_ (marks_of hs)
     refine two_ok (f := fun a b K => cmpW _ a b K) (K := fun c => truthW c Kb) hr x (fun v u p q s' es' k' d1 d2 hf => ?_) h4
     refine cmp_op (room_units es'.room) d1 d2 hf fun v p s2 h2 k2 d3 => ?_
     exact truth_op d3 h2 fun b s3 hb ks => hq b s3 hb (keeps_trans k' (keeps_trans k2 ks))
    cases op with
    | IsNot =>
      change (match isV? sc σ l with | none => _ | some u => _) at h3'
      cases h1 : isV? sc σ l with
      | none => rw [h1] at h3'; exact gen h3'
      | some u =>
        rw [h1] at h3'
        change (match isV? sc σ rr with | none => _ | some v => _) at h3'
        cases hv2 : isV? sc σ rr with
        | none => rw [hv2] at h3'; exact gen h3'
        | some v =>
          rw [hv2] at h3'
          obtain ⟨e, hk⟩ := Ob.elim h3'
          obtain ⟨y, py, qy, a, rfl, ky, gy, rfl⟩ := isV?.inv h1
          obtain ⟨z, pz, qz, b, rfl, kz, gz, ez⟩ := isV?.inv hv2
          subst e
          obtain ⟨v1, r1, e1, _⟩ := x.vis y _ gy (by rw [x.eok.names, ky])
          obtain ⟨v2, r2, e2, _⟩ := x.vis z _ gz (by rw [x.eok.names, kz])
          subst e1; subst e2
          refine wpAny_isTrue_Compare1 ?_ rfl
          refine wpAny_Name (reads_wp x.eok r1 ?_ (x.eok.ne_class ky)) (x.eok.ne_debug ky)
          refine wpAny_Name (reads_wp x.eok r2 ?_ (x.eok.ne_class kz)) (x.eok.ne_debug kz)
          show wpAny _ _ (do return Value.bool (!(← isSame (.ref a) (.ref a)))) _ _ _
          have es : isSame (.ref a) (.ref a) = pure true := by unfold isSame; simp
          exact wpAny_bind (wpAny_of_eq es (wpAny_pure (wpAny_truthy_bool (hq _ _ hk (keeps_refl s)))))
    | _ => exact gen h3'
  | _ => exact plain _ h
end
end Mine
namespace Mine

noncomputable def testsW (t : Expr → (Bool → Prop) → Prop) : List Expr → (Bool → Prop) → Prop
  | [], K => K true
  | [c], K => t c K
  | _, _ => False
noncomputable def loopW (r : WE) (t : WT) (scn : Sc) (elt : Expr) (x : Str) (ifs : List Expr) (σ : Loc) : List PV → List PV → (List PV → Prop) → Prop
  | [], acc, K => K acc
  | p :: ps, acc, K => testsW (fun c K => t scn c (set σ x (.val p)) K) ifs fun b =>
      Br b (r scn elt (set σ x (.val p)) fun y => loopW r t scn elt x ifs σ ps (acc ++ [y]) K) (loopW r t scn elt x ifs σ ps acc K)

/-- the names of a comprehension's scope: its one name, `.0`, names of the text's top, names from outside that stand in a cell -/
noncomputable def isCF (sc : Sc) (x : Str) : Bool :=
  match sc with
  | [] => false
  | (y, k) :: r => match nmEq y x with
    | true => (match k with | .cell | .free => true | _ => false)
    | false => isCF r x
noncomputable def inL (x : Str) : List Str → Bool
  | [] => false
  | y :: r => match nmEq x y with
    | true => true
    | false => inL x r
theorem inL_mem {x : Str} : ∀ {xs : List Str}, inL x xs = true → x ∈ xs
  | [], h => by cases h
  | y :: r, h => by
    simp only [inL] at h
    split at h
    · rename_i hn; rw [(nmEq_iff x y).mp hn]; exact List.mem_cons_self
    · exact List.mem_cons_of_mem _ (inL_mem h)
noncomputable def scopeOk (sc : Sc) (σ : Loc) (xs : List Str) : Sc → Bool
  | [] => true
  | (y, k) :: r => (match k with
    | .local | .cell => (match inL y xs with
      | true => true
      | false => (match nmEq y (Str.ofString ".0"), get σ (Str.ofString ".0") with
        | true, none => true
        | _, _ => false))
    | .globalImplicit => true
    | .free => isCF sc y
    | .globalExplicit => false) && scopeOk sc σ xs r
noncomputable def nodupNames : Sc → Bool
  | [] => true
  | (y, _) :: r => r.all (fun p => !nmEq y p.1) && nodupNames r
noncomputable def hasTarget (x : Str) : Sc → Bool
  | [] => false
  | (y, k) :: r => (match nmEq y x with
    | true => (match k with | .local | .cell => true | _ => false)
    | false => hasTarget x r)
noncomputable def hasTargets : List Str → Sc → Bool
  | [], _ => true
  | x :: r, l => hasTarget x l && hasTargets r l
theorem hasTargets_mem {l : Sc} : ∀ {xs : List Str}, hasTargets xs l = true → ∀ x ∈ xs, hasTarget x l = true
  | y :: r, h, x, hx => by
    simp only [hasTargets, Bool.and_eq_true] at h
    rcases List.mem_cons.mp hx with e | hx
    · rw [e]; exact h.1
    · exact hasTargets_mem h.2 x hx
noncomputable def noBad (sc : Sc) : Bool := (match kd sc (Str.ofString "__debug__"), kd sc (Str.ofString "__classdict__") with | none, none => true | _, _ => false)
noncomputable def compOk (sc : Sc) (σ : Loc) (xs : List Str) (scope : Scope) (iter : Expr) : Bool :=
  (match scope.kind with | .function => true | _ => false) && scopeOk sc σ xs scope.names && nodupNames scope.names && hasTargets xs scope.names && noBad scope.names && noSet iter
/-- a loop that is not to be unrolled by the way -/
inductive Lp (P : Prop) : Prop
  | mk (h : P)
theorem Lp.elim {P : Prop} (h : Lp P) : P := let ⟨h⟩ := h; h
noncomputable def compW (r : WE) (t : WT) (sc : Sc) (σ : Loc) (elt iter : Expr) (x : Str) (ifs : List Expr) (scope : Scope) (K : PV → Prop) : Prop :=
  match compOk sc σ [x] scope iter with
  | true => r sc iter σ fun p => iterW p fun xs => Lp (loopW r t scope.names elt x ifs σ xs [] fun ys => K (.list ys))
  | false => False

theorem isCF_lookup (x : Str) : ∀ sc : Sc, isCF sc x = true → sc.lookup x = some .cell ∨ sc.lookup x = some .free
  | [], h => by cases h
  | (y, k) :: r, h => by
    simp only [isCF] at h
    simp only [List.lookup_cons]
    cases hn : nmEq y x with
    | true =>
      rw [hn] at h
      rw [(nmEq_iff y x).mp hn]
      simp only [beq_self_eq_true]
      cases k <;> first | (exact .inl rfl) | (exact .inr rfl) | cases h
    | false =>
      rw [hn] at h
      have : (x == y) = false := by
        rw [beq_eq_false_iff_ne]
        exact fun e => by rw [(nmEq_iff y x).mpr e.symm] at hn; cases hn
      simp only [this]
      exact isCF_lookup x r h

theorem scopeOk_mem {sc : Sc} {σ : Loc} {xs : List Str} : ∀ {l : Sc}, scopeOk sc σ xs l = true → ∀ y k, (y, k) ∈ l →
    (k = .globalImplicit) ∨ (k = .free ∧ isCF sc y = true) ∨ ((k = .local ∨ k = .cell) ∧ (y ∈ xs ∨ get σ y = none))
  | [], _, _, _, hm => by cases hm
  | (z, j) :: r, h, y, k, hm => by
    simp only [scopeOk, Bool.and_eq_true] at h
    rcases List.mem_cons.mp hm with e | hm
    · cases e
      have h1 := h.1
      cases j with
      | globalImplicit => exact .inl rfl
      | free => exact .inr (.inl ⟨rfl, h1⟩)
      | globalExplicit => cases h1
      | «local» =>
        refine .inr (.inr ⟨.inl rfl, ?_⟩)
        simp only at h1
        split at h1
        · rename_i hn; exact .inl (inL_mem hn)
        · split at h1
          · rename_i hn hg; rw [(nmEq_iff _ _).mp hn]; exact .inr hg
          · cases h1
      | cell =>
        refine .inr (.inr ⟨.inr rfl, ?_⟩)
        simp only at h1
        split at h1
        · rename_i hn; exact .inl (inL_mem hn)
        · split at h1
          · rename_i hn hg; rw [(nmEq_iff _ _).mp hn]; exact .inr hg
          · cases h1
    · exact scopeOk_mem h.2 y k hm
theorem nodup_lookup : ∀ {l : Sc}, nodupNames l = true → ∀ y k, (y, k) ∈ l → l.lookup y = some k
  | [], _, _, _, hm => by cases hm
  | (z, j) :: r, h, y, k, hm => by
    simp only [nodupNames, Bool.and_eq_true, List.all_eq_true] at h
    rw [List.lookup_cons]
    rcases List.mem_cons.mp hm with e | hm2
    · cases e; simp
    · have : (y == z) = false := by
        rw [beq_eq_false_iff_ne]
        intro e
        have h2 := h.1 _ hm2
        rw [e] at h2
        simp [(nmEq_iff z z).mpr rfl] at h2
      rw [this]
      exact nodup_lookup h.2 y k hm2
theorem hasTarget_lookup (x : Str) : ∀ {l : Sc}, hasTarget x l = true → l.lookup x = some .local ∨ l.lookup x = some .cell
  | [], h => by cases h
  | (y, k) :: r, h => by
    simp only [hasTarget] at h
    simp only [List.lookup_cons]
    cases hn : nmEq y x with
    | true =>
      rw [hn] at h
      rw [(nmEq_iff y x).mp hn]
      simp only [beq_self_eq_true]
      cases k <;> first | (exact .inl rfl) | (exact .inr rfl) | cases h
    | false =>
      rw [hn] at h
      have : (x == y) = false := by
        rw [beq_eq_false_iff_ne]
        exact fun e => by rw [(nmEq_iff y x).mpr e.symm] at hn; cases hn
      simp only [this]
      exact hasTarget_lookup x h

noncomputable def clOf (cells : List (Str × Addr)) : Sc → List (Str × Addr) → List (Str × Addr)
  | [], acc => acc
  | (n, k) :: r, acc => if k == .free then clOf cells r ((n, (cells.lookup n).getD 0) :: acc) else clOf cells r acc
theorem closure_is {scope : Scope} {env : Env} (h : ∀ n, (n, NameKind.free) ∈ scope.names → ∃ c, env.cells.lookup n = some c) : closureFor scope env = pure (clOf env.cells scope.names []) := by
  unfold closureFor
  have key : ∀ (l : Sc) (acc : List (Str × Addr)), (∀ n, (n, NameKind.free) ∈ l → ∃ c, env.cells.lookup n = some c) →
      (forIn l acc fun x r => (if x.2 == NameKind.free then (do let a ← cellOf env x.1; pure (ForInStep.yield ((x.1, a) :: r))) else pure (ForInStep.yield r) : Sem (ForInStep (List (Str × Addr))))) = pure (clOf env.cells l acc) := by
    intro l
    induction l with
    | nil => intro acc _; rfl
    | cons a l ih =>
      intro acc hl
      obtain ⟨n, k⟩ := a
      rw [List.forIn_cons]
      by_cases hk : k = .free
      · subst hk
        obtain ⟨c, hc⟩ := hl n List.mem_cons_self
        have e1 : cellOf env n = pure c := by unfold cellOf; rw [hc]
        simp only [clOf, beq_self_eq_true, if_true]
        rw [e1]
        have := ih ((n, c) :: acc) fun m hm => hl m (List.mem_cons_of_mem _ hm)
        rw [hc, Option.getD_some]
        simpa using this
      · have hk' : (k == NameKind.free) = false := by simpa using hk
        simp only [clOf, hk', Bool.false_eq_true, if_false]
        have := ih acc fun m hm => hl m (List.mem_cons_of_mem _ hm)
        simpa using this
  have := key scope.names [] h
  simpa using this
theorem clOf_lookup {cells : List (Str × Addr)} {x : Str} : ∀ {l : Sc} {acc : List (Str × Addr)}, (∀ n, (n, NameKind.free) ∈ l → ∃ c, cells.lookup n = some c) → (acc.lookup x = none ∨ acc.lookup x = cells.lookup x) →
    ((x, NameKind.free) ∈ l ∨ acc.lookup x = cells.lookup x) → (clOf cells l acc).lookup x = cells.lookup x
  | [], acc, _, _, h => by
    rcases h with h | h
    · cases h
    · exact h
  | (n, k) :: r, acc, hc, ha, h => by
    by_cases hk : k = .free
    · subst hk
      simp only [clOf, beq_self_eq_true, if_true]
      obtain ⟨c, e⟩ := hc n List.mem_cons_self
      by_cases hx : x = n
      · subst hx
        refine clOf_lookup (fun m hm => hc m (List.mem_cons_of_mem _ hm)) ?_ ?_ <;> simp [List.lookup_cons, e]
      · have hb : (x == n) = false := by simpa using hx
        refine clOf_lookup (fun m hm => hc m (List.mem_cons_of_mem _ hm)) (by simpa [List.lookup_cons, hb] using ha) ?_
        rcases h with h | h
        · rcases List.mem_cons.mp h with e' | h
          · cases e'; exact absurd rfl hx
          · exact .inl h
        · exact .inr (by simpa [List.lookup_cons, hb] using h)
    · have hk' : (k == NameKind.free) = false := by simpa using hk
      simp only [clOf, hk', Bool.false_eq_true, if_false]
      refine clOf_lookup (fun m hm => hc m (List.mem_cons_of_mem _ hm)) ha ?_
      rcases h with h | h
      · rcases List.mem_cons.mp h with e' | h
        · cases e'; exact absurd rfl hk
        · exact .inl h
      · exact .inr h
end Mine
namespace Mine

theorem cellsFrom_append : ∀ (names : Sc) (n : Nat) (acc : List (Str × Addr)), cellsFrom n names acc = cellsFrom n names [] ++ acc
  | [], _, _ => rfl
  | (y, k) :: r, n, acc => by
    unfold cellsFrom
    split
    · rw [cellsFrom_append r (n + 1) ((y, n) :: acc), cellsFrom_append r (n + 1) [(y, n)]]; simp
    · exact cellsFrom_append r n acc
theorem cellsFrom_has {x : Str} : ∀ {names : Sc} {n : Nat}, (x, NameKind.cell) ∈ names → ∃ c, (cellsFrom n names []).lookup x = some c
  | [], _, h => by cases h
  | (y, k) :: r, n, h => by
    unfold cellsFrom
    split
    · rename_i hk
      rw [cellsFrom_append]
      rcases List.mem_cons.mp h with e | h
      · cases e
        cases hl : (cellsFrom (n + 1) r []).lookup x with
        | some c => exact ⟨c, by rw [List.lookup_append, hl]; rfl⟩
        | none => exact ⟨n, by rw [List.lookup_append, hl]; simp⟩
      · obtain ⟨c, hc⟩ := cellsFrom_has (n := n + 1) h
        exact ⟨c, by rw [List.lookup_append, hc]; rfl⟩
    · rename_i hk
      rcases List.mem_cons.mp h with e | h
      · cases e; exact absurd (by rfl) hk
      · exact cellsFrom_has h
theorem cellsFrom_mem {x : Str} {c : Addr} : ∀ {names : Sc} {n : Nat}, (x, c) ∈ cellsFrom n names [] → (x, NameKind.cell) ∈ names
  | [], _, h => by cases h
  | (y, k) :: r, n, h => by
    unfold cellsFrom at h
    split at h
    · rename_i hk
      rw [cellsFrom_append] at h
      rcases List.mem_append.mp h with h | h
      · exact List.mem_cons_of_mem _ (cellsFrom_mem h)
      · cases List.mem_singleton.mp h
        have : k = NameKind.cell := by simpa using hk
        rw [this]; exact List.mem_cons_self
    · exact List.mem_cons_of_mem _ (cellsFrom_mem h)
theorem pushCells_alive : ∀ (names : Sc) (h : Heap) (a : Addr), h.objs.size ≤ a → a < (pushCells h names).objs.size → ∃ o, (pushCells h names).get? a = some o
  | [], h, a, h1, h2 => absurd h2 (Nat.not_lt.mpr h1)
  | (y, k) :: r, h, a, h1, h2 => by
    unfold pushCells at h2 ⊢
    split
    · rename_i hk
      rw [if_pos hk] at h2
      by_cases ha : a = h.objs.size
      · subst ha
        exact ⟨_, pushCells_keeps r _ _ _ (Heap.get?_push_size _ rfl)⟩
      · exact pushCells_alive r _ a (by rw [Heap.size_push]; exact Nat.lt_of_le_of_ne h1 (Ne.symm ha)) h2
    · rename_i hk
      rw [if_neg hk] at h2
      exact pushCells_alive r h a h1 h2
theorem pushCells_size : ∀ (names : Sc) (h : Heap), h.objs.size ≤ (pushCells h names).objs.size
  | [], _ => Nat.le_refl _
  | (y, k) :: r, h => by
    unfold pushCells
    split
    · exact Nat.le_trans (by rw [Heap.size_push]; exact Nat.le_succ _) (pushCells_size r _)
    · exact pushCells_size r h
theorem wp_compEnv {M : Model} {A : Around} {E : Value → Shared → Prop} {s : Shared} {scope : Scope} {globals : Addr} {cl : List (Str × Addr)} {qual : Str} {outer : Env} {Q : Env → Shared → Prop}
    (h : Q { scope, locals := s.heap.objs.size, globals, cells := cellsFrom (s.heap.objs.size + 1) scope.names cl, qual, func := none, code := outer.code, frame := outer.frame, builtins := outer.builtins }
      { s with heap := pushCells (s.heap.push { cls := .type "dict", data := .dict #[] }) scope.names }) :
    wpAny M A (newFunctionEnv scope globals cl [] qual none .none (some outer)) Q E s := by
  simp only [newFunctionEnv, Option.isSome_some, if_true]
  refine wpAny_bind (wpAny_alloc ?_)
  refine wpAny_bind (wpAny_layCells _ (fun name kind cells => by cases hkc : kind == NameKind.cell <;> simp [hkc]) _ _ _ _ ?_)
  rw [show ({ s with heap := s.heap.push { cls := .type "dict", data := .dict #[] } } : Shared).heap.objs.size = s.heap.objs.size + 1 from Heap.size_push ..]
  exact wpAny_bind (wpAny_pure (wpAny_pure h))

theorem relabel_lookup_aux (env : Env) (x : Str) : ∀ (names : Sc),
    (names.map fun (n, k) => if (k == .free && env.scope.kind == .function && env.kindOf n == some .cell) = true then (n, NameKind.cell) else (n, k)).lookup x
      = (names.lookup x).map fun k => if (k == .free && env.scope.kind == .function && env.kindOf x == some .cell) = true then .cell else k
  | [] => rfl
  | (y, k) :: r => by
    have ih := relabel_lookup_aux env x r
    show List.lookup x ((if (k == .free && env.scope.kind == .function && env.kindOf y == some .cell) = true then (y, NameKind.cell) else (y, k)) :: _) = _
    cases hb : x == y with
    | true =>
      have hx : x = y := by simpa using hb
      subst hx
      by_cases hc : (k == .free && env.scope.kind == .function && env.kindOf x == some .cell) = true
      · rw [if_pos hc]; simp only [List.lookup_cons, beq_self_eq_true, Option.map_some]; rw [if_pos hc]
      · rw [if_neg hc]; simp only [List.lookup_cons, beq_self_eq_true, Option.map_some]; rw [if_neg hc]
    | false =>
      by_cases hc : (k == .free && env.scope.kind == .function && env.kindOf y == some .cell) = true
      · rw [if_pos hc]; simp only [List.lookup_cons, hb]; exact ih
      · rw [if_neg hc]; simp only [List.lookup_cons, hb]; exact ih
theorem relabel_lookup (scope : Scope) (env : Env) (x : Str) :
    (relabel scope env).names.lookup x = (scope.names.lookup x).map fun k => if (k == .free && env.scope.kind == .function && env.kindOf x == some .cell) = true then .cell else k :=
  relabel_lookup_aux env x scope.names

end Mine
namespace Mine

noncomputable def compEnvN (scope : Scope) (env : Env) (C n : Nat) : Env :=
  { scope := relabel scope env, locals := C, globals := env.globals, cells := cellsFrom n scope.names (clOf env.cells scope.names []), qual := env.qual, func := none, code := env.code, frame := env.frame, builtins := env.builtins }

section
variable {W : Wd} {A : Around} {d : Nat} {X M : Excl} {env : Env} {sc : Sc} {σ : Loc} {s : Shared} {E : Value → Shared → Prop} {Q : Value → Shared → Prop} {K : PV → Prop} {G : GC} {r : WE} {t : WT} {scope : Scope} {x : Str} {xs : List Str}

structure CompFacts (sc : Sc) (σ : Loc) (xs : List Str) (scope : Scope) : Prop where
  kind : scope.kind = .function
  names : scopeOk sc σ xs scope.names = true
  nodup : nodupNames scope.names = true
  target : ∀ x ∈ xs, hasTarget x scope.names = true
  noDebug : kd scope.names (Str.ofString "__debug__") = none
  noClass : kd scope.names (Str.ofString "__classdict__") = none
theorem comp_facts {iter : Expr} (h : compOk sc σ xs scope iter = true) : CompFacts sc σ xs scope ∧ noSet iter = true := by
  simp only [compOk, Bool.and_eq_true] at h
  obtain ⟨⟨⟨⟨⟨h1, h2⟩, h3⟩, h4⟩, h5⟩, h6⟩ := h
  unfold noBad at h5
  refine ⟨⟨?_, h2, h3, hasTargets_mem h4, ?_, ?_⟩, h6⟩
  · cases hk : scope.kind <;> first | rfl | (rw [hk] at h1; cases h1)
  · split at h5 <;> first | assumption | cases h5
  · split at h5 <;> first | assumption | cases h5

theorem free_has (F : CompFacts sc σ xs scope) (ek : EnvOk env sc) : ∀ n, (n, NameKind.free) ∈ scope.names → ∃ c, env.cells.lookup n = some c := by
  intro n hn
  rcases scopeOk_mem F.names n _ hn with h | ⟨_, h⟩ | ⟨h, _⟩
  · cases h
  · refine ek.cells n ?_
    rcases isCF_lookup n sc h with e | e <;> rcases ek.kinds n with k | ⟨k1, k2⟩
    · exact .inl (k.trans e)
    · exact .inl k2
    · exact .inr (k.trans e)
    · exact .inl k2
  · rcases h with h | h <;> cases h
theorem cells_free (F : CompFacts sc σ xs scope) (ek : EnvOk env sc) {C n : Nat} {y : Str} (h : scope.names.lookup y = some .free) : (compEnvN scope env C n).cells.lookup y = env.cells.lookup y := by
  show (cellsFrom n scope.names (clOf env.cells scope.names [])).lookup y = _
  rw [cellsFrom_append, List.lookup_append]
  have hnone : (cellsFrom n scope.names []).lookup y = none := by
    cases hl : (cellsFrom n scope.names []).lookup y with
    | none => rfl
    | some c =>
      have := nodup_lookup F.nodup y _ (cellsFrom_mem (mem_of_lookup hl))
      rw [h] at this; cases this
  rw [hnone, Option.none_or]
  exact clOf_lookup (free_has F ek) (.inl rfl) (.inl (mem_of_lookup h))

theorem compEnv_kind (C n : Nat) (y : Str) : (compEnvN scope env C n).kindOf y = (scope.names.lookup y).map fun k => if (k == .free && env.scope.kind == .function && env.kindOf y == some .cell) = true then .cell else k :=
  relabel_lookup scope env y
theorem compEnv_ok (F : CompFacts sc σ xs scope) (ek : EnvOk env sc) (C n : Nat) : EnvOk (compEnvN scope env C n) scope.names where
  kind := F.kind
  globals := ek.globals
  builtins := ek.builtins
  kinds := fun y => by
    rw [compEnv_kind]
    cases hl : scope.names.lookup y with
    | none => exact .inl rfl
    | some k =>
      simp only [Option.map_some]
      split
      · rename_i hc
        simp only [Bool.and_eq_true, beq_iff_eq] at hc
        exact .inr ⟨by rw [hc.1.1], rfl⟩
      · exact .inl rfl
  cells := fun y h => by
    rw [compEnv_kind] at h
    cases hl : scope.names.lookup y with
    | none => rw [hl] at h; rcases h with h | h <;> cases h
    | some k =>
      have hm := mem_of_lookup hl
      have hk : k = .cell ∨ k = .free := by
        rw [hl] at h
        simp only [Option.map_some, Option.some.injEq] at h
        split at h
        · rename_i hc
          simp only [Bool.and_eq_true, beq_iff_eq] at hc
          exact .inr hc.1.1
        · rcases h with h | h
          · exact .inl h
          · exact .inr h
      rcases hk with rfl | rfl
      · obtain ⟨c, hc⟩ := cellsFrom_has (n := n) hm
        refine ⟨c, ?_⟩
        show (cellsFrom n scope.names (clOf env.cells scope.names [])).lookup y = _
        rw [cellsFrom_append, List.lookup_append, hc]; rfl
      · rw [cells_free F ek hl]
        exact free_has F ek y hm
  noDebug := F.noDebug
  noClass := F.noClass

/-- the target can be stored -/
noncomputable def Tg (cenv : Env) (h : Heap) (J : Excl) (x : Str) : Prop :=
  (cenv.kindOf x = some .local ∧ ∃ m, h.Ns cenv.locals m) ∨ (cenv.kindOf x = some .cell ∧ ∃ c v, cenv.cells.lookup x = some c ∧ h.IsCell c v ∧ J c ∧ c ≠ cenv.locals)

theorem store_target {cenv : Env} {J : Excl} {v : Value} {pos : Pos} {Qs : Unit → Shared → Prop} (hk : cenv.scope.kind = .function) (hC : J cenv.locals) (hns : ∃ m, s.heap.Ns cenv.locals m) (T : Tg cenv s.heap J x)
    (hq : ∀ h' tk, (∀ b o, ¬ J b → s.heap.get? b = some o → h'.get? b = some o) → (∀ b, (∃ o, s.heap.get? b = some o) → ∃ o, h'.get? b = some o) → (∃ m, h'.Ns cenv.locals m) → Tg cenv h' J x → ReadsName cenv h' x v →
      (∀ b o, b ≠ cenv.locals → (∀ c, cenv.cells.lookup x = some c → cenv.kindOf x = some .cell → b ≠ c) → s.heap.get? b = some o → h'.get? b = some o) → Qs () { s with heap := h', toks := tk }) :
    wpAny W.M A (assign (.Name x pos) cenv v) Qs E s := by
  have hp : (cenv.scope.kind == .class || (cenv.scope.kind == .module && cenv.locals != cenv.globals)) = false := by rw [hk]; rfl
  rcases T with ⟨hl, m, hn⟩ | ⟨hl, c, v0, hc, hv, hJ, hne⟩
  · refine wpAny_assign_Name (wpAny_storeName_local hl hn (fun h' hn' hs' => ?_) hp)
    refine hq h' _ (fun b o hb e => hs'.extBut b o (fun q => hb (q ▸ hC)) e) (fun b ⟨o, e⟩ => ?_) ⟨_, hn'⟩ (.inl ⟨hl, _, hn'⟩) ?_ (fun b o hb _ e => hs'.extBut b o hb e)
    · by_cases hb : b = cenv.locals
      · subst hb; obtain ⟨o', _, _, g, _⟩ := hn'; exact ⟨o', g⟩
      · exact ⟨o, hs'.extBut b o hb e⟩
    · unfold ReadsName; rw [hl]; exact ⟨_, hn', by simp⟩
  · refine wpAny_assign_Name (wpAny_storeName_cell hk hl hc hv fun h' hv' hs' => ?_)
    obtain ⟨m, hn⟩ := hns
    refine hq h' _ (fun b o hb e => hs'.extBut b o (fun q => hb (q ▸ hJ)) e) (fun b ⟨o, e⟩ => ?_) ⟨m, hn.sameBut hs' (Ne.symm hne)⟩ (.inr ⟨hl, c, _, hc, hv', hJ, hne⟩) ?_ (fun b o hb hb2 e => hs'.extBut b o (hb2 c hc hl) e)
    · by_cases hb : b = c
      · subst hb; obtain ⟨o', g, _⟩ := hv'; exact ⟨o', g⟩
      · exact ⟨o, hs'.extBut b o hb e⟩
    · unfold ReadsName; rw [hl]; exact ⟨c, hc, hv'⟩

/-- the names that a comprehension sees -/
theorem comp_vis {cenv : Env} {C n : Nat} {J : Excl} {h : Heap} {s' : Shared} {σ' : Loc} (hce : cenv = compEnvN scope env C n) (F : CompFacts sc σ xs scope) (ek : EnvOk env sc) (V : Vis W.prog W.w env X M σ h)
    (hr : ∀ y u, vkOf (env.kindOf y) = some .loc → (env.kindOf y = some .cell ∨ env.kindOf y = some .free) → ReadsName env h y u → ∃ c, env.cells.lookup y = some c ∧ s'.heap.IsCell c (some u))
    (hl : ∀ l v, LDen W.prog W.w X M h l v → (∃ y, get σ y = some l) → LDen W.prog W.w (fun a => X a ∨ J a) M s'.heap l v)
    (hset : ∀ y l, get σ' y = some l → vkOf (cenv.kindOf y) = some .loc → (∃ v, ReadsName cenv s'.heap y v ∧ LDen W.prog W.w (fun a => X a ∨ J a) M s'.heap l v) ∨ (y ∉ xs ∧ get σ y = some l)) :
    Vis W.prog W.w cenv (fun a => X a ∨ J a) M σ' s'.heap := by
  subst hce
  intro y l hg hkd
  rcases hset y l hg hkd with h1 | ⟨hy, hg⟩
  · exact h1
  · have hkind := compEnv_kind (scope := scope) (env := env) C n y
    cases hlk : scope.names.lookup y with
    | none => rw [hkind, hlk] at hkd; cases hkd
    | some k =>
      rcases scopeOk_mem F.names y k (mem_of_lookup hlk) with rfl | ⟨rfl, hcf⟩ | ⟨_, h | h⟩
      · rw [hkind, hlk] at hkd; cases hkd
      · have hek : env.kindOf y = some .cell ∨ env.kindOf y = some .free := by
          rcases isCF_lookup y sc hcf with e | e <;> rcases ek.kinds y with k | ⟨k1, k2⟩
          · exact .inl (k.trans e)
          · exact .inl k2
          · exact .inr (k.trans e)
          · exact .inl k2
        have hky : vkOf (env.kindOf y) = some .loc := by rcases hek with e | e <;> rw [e] <;> rfl
        obtain ⟨u, hru, du⟩ := V y l hg hky
        refine ⟨u, ?_, hl l u du ⟨y, hg⟩⟩
        obtain ⟨c, hc, hcv⟩ := hr y u hky hek hru
        have hc' := cells_free F ek (C := C) (n := n) hlk
        have hkk : (compEnvN scope env C n).kindOf y = some .cell ∨ (compEnvN scope env C n).kindOf y = some .free := by
          rw [hkind, hlk]
          simp only [Option.map_some]
          split
          · exact .inl rfl
          · exact .inr rfl
        unfold ReadsName
        rcases hkk with e | e <;> (rw [e]; exact ⟨c, by rw [hc', hc], hcv⟩)
      · exact absurd h hy
      · rw [h] at hg; cases hg
end
end Mine
namespace Mine

section
variable {W : Wd} {A : Around} {d : Nat} {X M : Excl} {env cenv : Env} {sc : Sc} {σ σ' : Loc} {s s' s1 s2 : Shared} {E : Value → Shared → Prop} {Q : Value → Shared → Prop} {K : PV → Prop} {G : GC} {r : WE} {t : WT} {scope : Scope} {x : Str} {xs : List Str} {fl : Option Addr}

theorem cellsFrom_ge {x : Str} {c : Addr} : ∀ {names : Sc} {n : Nat}, (x, c) ∈ cellsFrom n names [] → n ≤ c ∧ ∀ h : Heap, h.objs.size = n → c < (pushCells h names).objs.size ∧ (pushCells h names).IsCell c none
  | [], _, h => by cases h
  | (y, k) :: r, n, hm => by
    unfold cellsFrom at hm
    split at hm
    · rename_i hk
      rw [cellsFrom_append] at hm
      rcases List.mem_append.mp hm with hm | hm
      · have ih := cellsFrom_ge hm
        refine ⟨by omega, fun h hn => ?_⟩
        unfold pushCells
        rw [if_pos hk]
        exact ih.2 _ (by rw [Heap.size_push, hn])
      · cases List.mem_singleton.mp hm
        refine ⟨Nat.le_refl _, fun h hn => ?_⟩
        unfold pushCells
        rw [if_pos hk]
        refine ⟨Nat.lt_of_lt_of_le ?_ (pushCells_size r _), ?_⟩
        · rw [Heap.size_push, hn]; exact Nat.lt_succ_self _
        · subst hn
          exact Heap.IsCell.keeps (h := h.push _) ⟨_, Heap.get?_push_size _ rfl, rfl⟩ (pushCells_keeps r _)
    · rename_i hk
      have ih := cellsFrom_ge hm
      refine ⟨ih.1, fun h hn => ?_⟩
      unfold pushCells
      rw [if_neg hk]
      exact ih.2 h hn

theorem tests_ok {ifs : List Expr} {Kb : Bool → Prop} {Qb : Bool → Shared → Prop} (ht : TOk W d t) (es : ES W A d X M env sc σ s) (h : testsW (fun c K => t sc c σ K) ifs Kb)
    (hq : ∀ b s', Kb b → Keeps s s' → s.toks ≤ s'.toks → Qb b s') : wpAny W.M A (forIn ifs true fun c r => if r = true then do let ok ← isTrue c env (eval c env); pure (ForInStep.yield ok) else pure (ForInStep.yield r)) Qb E s := by
  match ifs, h with
  | [], h => exact wpAny_tests_nil (hq _ _ h (keeps_refl s) (Nat.le_refl _))
  | [c], h => exact wpAny_tests_one (ht.tk es h hq)

noncomputable def InR (lo hi a : Nat) : Prop := lo ≤ a ∧ a < hi
noncomputable abbrev Xj (X : Excl) (I N : Nat) : Excl := fun a => X a ∨ InR I N a
theorem toN {a b : Nat} (h : a < b) : a < b := h
theorem lt2 {I : Nat} : I < I + 2 := Nat.lt_succ_of_lt (Nat.lt_succ_self I)
theorem ltn {h : Heap} {b : Nat} {o : Obj} (e : h.get? b = some o) : b < h.objs.size := Heap.lt_size e
theorem keeps_upd {s1 s' : Shared} {h' : Heap} {tk : Nat} (k : Keeps s1 s') (hk : ∀ (b : Nat) o, b < s1.heap.objs.size → s'.heap.get? b = some o → h'.get? b = some o) : Keeps s1 { s' with heap := h', toks := tk } := by
  obtain ⟨h2, t2, rfl, k2⟩ := k
  exact ⟨h', tk, rfl, fun b o e => hk b o (Heap.lt_size e) (k2 b o e)⟩

noncomputable def isLcl (x : Str) : Sc → Bool
  | [] => false
  | (y, k) :: r => (match nmEq y x with
    | true => (match k with | .local => true | _ => false)
    | false => isLcl x r)
theorem isLcl_lookup (x : Str) : ∀ {l : Sc}, isLcl x l = true → l.lookup x = some .local
  | [], h => by cases h
  | (y, k) :: r, h => by
    simp only [isLcl] at h
    simp only [List.lookup_cons]
    cases hn : nmEq y x with
    | true =>
      rw [hn] at h
      rw [(nmEq_iff y x).mp hn]
      simp only [beq_self_eq_true]
      cases k <;> first | rfl | cases h
    | false =>
      rw [hn] at h
      have : (x == y) = false := by
        rw [beq_eq_false_iff_ne]
        exact fun e => by rw [(nmEq_iff y x).mpr e.symm] at hn; cases hn
      simp only [this]
      exact isLcl_lookup x h
inductive Binds (scn : Sc) : Expr → List Str → PV → Loc → Loc → Prop
  | name (x px p σ) : Binds scn (.Name x px) [x] p σ (set σ x (.val p))
  | pair (x px y py n pos a b σ) (hx : isLcl x scn = true) (hy : isLcl y scn = true) (hxy : nmEq x y = false) : Binds scn (.Tuple [.Name x px, .Name y py] n pos) [x, y] (.tuple [a, b]) σ (set (set σ x (.val a)) y (.val b))

theorem store_targets {J X' : Excl} {scn : Sc} {target : Expr} {p : PV} {v : Value} {Qs : Unit → Shared → Prop} (hh : A.handled = none) (hk : cenv.scope.kind = .function) (hC : J cenv.locals) (hns : ∃ m, s.heap.Ns cenv.locals m)
    (T : ∀ x ∈ xs, Tg cenv s.heap J x) (hl : ∀ x, isLcl x scn = true → cenv.kindOf x = some .local) (B : Binds scn target xs p σ σ') (ht : 1 ≤ s.toks) (hJ : ∀ a, J a → X' a) (dv : Den W.w X' s.heap p v)
    (hq : ∀ h' tk, 1 ≤ tk → (∀ b o, ¬ J b → s.heap.get? b = some o → h'.get? b = some o) → (∀ b, (∃ o, s.heap.get? b = some o) → ∃ o, h'.get? b = some o) → (∃ m, h'.Ns cenv.locals m) → (∀ x ∈ xs, Tg cenv h' J x) →
      (∀ y l, get σ' y = some l → vkOf (cenv.kindOf y) = some .loc → (∃ u, ReadsName cenv h' y u ∧ LDen W.prog W.w X' M h' l u) ∨ (y ∉ xs ∧ get σ y = some l)) → Qs () { s with heap := h', toks := tk }) :
    wpAny W.M A (assign target cenv v) Qs E s := by
  cases B with
  | name x px p σ =>
    refine wpAny_with_toks ht (store_target hk hC hns (T x (List.mem_singleton.mpr rfl)) fun h' tk h1 h2 h3 h4 h5 h6 htk => hq h' tk htk h1 h2 h3 (fun y hy => ?_) fun y l hg hky => ?_)
    · rw [List.mem_singleton.mp hy]; exact h4
    · rw [get_set] at hg
      by_cases hyx : y = x
      · subst hyx
        simp only [if_true, Option.some.injEq] at hg
        subst hg
        exact .inl ⟨v, h5, dv.move fun a o ha e => ⟨ha, h1 a o (fun q => ha (hJ a q)) e⟩⟩
      · rw [if_neg hyx] at hg
        exact .inr ⟨fun q => hyx (List.mem_singleton.mp q), hg⟩
  | pair x px y py n pos a b σ hx hy hxy =>
    have hp : (cenv.scope.kind == .class || (cenv.scope.kind == .module && cenv.locals != cenv.globals)) = false := by rw [hk]; rfl
    have hne : ¬ x = y := fun e => by rw [(nmEq_iff x y).mpr e] at hxy; cases hxy
    obtain ⟨hz, t, us, k, rfl, hX, hg, dl⟩ := den_tuple dv
    obtain ⟨u1, r1, rfl, d1, dl1⟩ := dl.inv_cons
    obtain ⟨u2, r2, rfl, d2, dl2⟩ := dl1.inv_cons
    cases dl2.inv_nil
    refine wpAny_with_toks ht (assign_Tuple_tuple hh (tup_isTup hg) rfl rfl fun h1 he => ?_)
    have k1 : ∀ b o, s.heap.get? b = some o → h1.get? b = some o := fun b o e => he b o (Nat.ne_of_lt (Heap.lt_size e)) e
    obtain ⟨m, hn⟩ := hns
    refine assignInOrder_cons (wpAny_assign_Name (wpAny_storeName_local (hl x hx) (hn.keeps k1) (fun h2 hn2 hs2 => ?_) hp))
    refine assignInOrder_cons (wpAny_assign_Name (wpAny_storeName_local (hl y hy) hn2 (fun h3 hn3 hs3 => ?_) hp))
    refine assignInOrder_nil fun htk => ?_
    have k3 : ∀ b o, b ≠ cenv.locals → s.heap.get? b = some o → h3.get? b = some o := fun b o hb e => hs3.extBut b o hb (hs2.extBut b o hb (k1 b o e))
    have kJ : ∀ b o, ¬ J b → s.heap.get? b = some o → h3.get? b = some o := fun b o hb e => k3 b o (fun q => hb (q ▸ hC)) e
    have mv : ∀ c o, ¬ X' c → s.heap.get? c = some o → ¬ X' c ∧ h3.get? c = some o := fun c o hc e => ⟨hc, kJ c o (fun q => hc (hJ c q)) e⟩
    refine hq h3 _ htk kJ (fun b ⟨o, e⟩ => ?_) ⟨_, hn3⟩ (fun z hz => ?_) fun z l hg2 hkz => ?_
    · by_cases hb : b = cenv.locals
      · subst hb; obtain ⟨o', _, _, g, _⟩ := hn3; exact ⟨o', g⟩
      · exact ⟨o, k3 b o hb e⟩
    · rcases List.mem_cons.mp hz with rfl | hz
      · exact .inl ⟨hl _ hx, _, hn3⟩
      · rw [List.mem_singleton.mp hz]; exact .inl ⟨hl _ hy, _, hn3⟩
    · rw [get_set] at hg2
      by_cases hzy : z = y
      · subst hzy
        simp only [if_true, Option.some.injEq] at hg2
        subst hg2
        exact .inl ⟨u2, by unfold ReadsName; rw [hl _ hy]; exact ⟨_, hn3, by simp⟩, d2.move mv⟩
      · rw [if_neg hzy, get_set] at hg2
        by_cases hzx : z = x
        · subst hzx
          simp only [if_true, Option.some.injEq] at hg2
          subst hg2
          exact .inl ⟨u1, by unfold ReadsName; rw [hl _ hx]; exact ⟨_, hn3, by simp [hne]⟩, d1.move mv⟩
        · rw [if_neg hzx] at hg2
          refine .inr ⟨fun q => ?_, hg2⟩
          rcases List.mem_cons.mp q with q | q
          · exact hzx q
          · exact hzy (List.mem_singleton.mp q)

noncomputable def StepC (c : Nat) (fl : Option Addr) (s s' : Shared) : Prop := ∃ h' tk, s' = { s with heap := h', toks := tk } ∧ ∀ (b : Nat) o, s.heap.get? b = some o → b ≠ c → (fl ≠ some b → h'.get? b = some o) ∧ ∃ sl, h'.get? b = some { o with slots := sl }
theorem StepC.of {c : Nat} (k : KeepsF fl s s') : StepC c fl s s' := let ⟨h', tk, e, k⟩ := k; ⟨h', tk, e, fun b o e _ => k b o e⟩
theorem StepC.but {c : Nat} {h' : Heap} {tk : Nat} (k : ∀ (b : Nat) o, b ≠ c → s.heap.get? b = some o → h'.get? b = some o) : StepC c fl s { s with heap := h', toks := tk } :=
  ⟨h', tk, rfl, fun b o e hb => ⟨fun _ => k b o hb e, o.slots, k b o hb e⟩⟩

structure Fx (W : Wd) (A : Around) (X : Excl) (cenv : Env) (I N : Nat) (fl : Option Addr) (fp : List Addr) (P : Nat → Value → Prop) (St : Nat → Heap → Prop) (ps : List PV) (s1 s2 : Shared) : Prop where
  handled : A.handled = none
  kind : cenv.scope.kind = .function
  loc : cenv.locals = I + 2
  lt : I + 2 < N
  it : IterAt W.prog W.w X ps I s2.heap fp P St
  size : s1.heap.objs.size = I
  flx : ∀ L, fl = some L → X L
  fll : ∀ L : Nat, fl = some L → L < I

structure Mid (X : Excl) (xs : List Str) (cenv : Env) (I N : Nat) (fl : Option Addr) (St : Nat → Heap → Prop) (s1 s2 s' : Shared) (i : Nat) : Prop where
  keeps : KeepsF fl s1 s'
  toks : 1 ≤ s'.toks
  below : ∀ (b : Nat) o, b ≠ I → fl ≠ some b → s2.heap.get? b = some o → s'.heap.get? b = some o
  st : St i s'.heap
  ns : ∃ m, s'.heap.Ns cenv.locals m
  tg : ∀ x ∈ xs, Tg cenv s'.heap (InR (I + 2) N) x
  alive : ∀ a : Nat, I ≤ a → a < N → ∃ o, s'.heap.get? a = some o

variable {I N : Nat} {fp : List Addr} {P : Nat → Value → Prop} {St : Nat → Heap → Prop} {ps : List PV} {i : Nat}

theorem Fx.nfl (F : Fx W A X cenv I N fl fp P St ps s1 s2) {b : Nat} (hb : b ∈ fp) : fl ≠ some b := fun q => by
  by_cases h : b = I
  · exact absurd (F.fll b q) (by omega)
  · exact F.it.out b hb h (F.flx b q)
theorem Fx.ge (F : Fx W A X cenv I N fl fp P St ps s1 s2) {b : Nat} (hb : I ≤ b) : fl ≠ some b := fun q => absurd (F.fll b q) (Nat.not_lt.mpr hb)
theorem tg_move {g g' : Heap} {c : Nat} {x : Str} (hc : c < I + 2) (hl : cenv.locals = I + 2) (k : ∀ (b : Nat) o, g.get? b = some o → b ≠ c → ∃ sl, g'.get? b = some { o with slots := sl }) (T : Tg cenv g (InR (I + 2) N) x) : Tg cenv g' (InR (I + 2) N) x := by
  rcases T with ⟨h1, m, o, es, ep, ho, hr⟩ | ⟨h1, b, v, h2, ⟨o, ho, hr⟩, h4, h5⟩
  · obtain ⟨sl, e⟩ := k _ o ho (by rw [hl]; exact Nat.ne_of_gt hc)
    exact .inl ⟨h1, m, _, es, ep, e, hr⟩
  · obtain ⟨sl, e⟩ := k b o ho (Nat.ne_of_gt (Nat.lt_of_lt_of_le hc h4.1))
    exact .inr ⟨h1, b, v, h2, ⟨_, e, hr⟩, h4, h5⟩
theorem ns_move {g g' : Heap} {c : Nat} (hc : c < I + 2) (hl : cenv.locals = I + 2) (k : ∀ (b : Nat) o, g.get? b = some o → b ≠ c → ∃ sl, g'.get? b = some { o with slots := sl }) (T : ∃ m, g.Ns cenv.locals m) : ∃ m, g'.Ns cenv.locals m := by
  obtain ⟨m, o, es, ep, ho, hr⟩ := T
  obtain ⟨sl, e⟩ := k _ o ho (by rw [hl]; exact Nat.ne_of_gt hc)
  exact ⟨m, _, es, ep, e, hr⟩
theorem Mid.move (F : Fx W A X cenv I N fl fp P St ps s1 s2) (T : Mid X xs cenv I N fl St s1 s2 s' i) {s'' : Shared} (k : StepC (I + 1) fl s' s'') (ht : 1 ≤ s''.toks) (ha : ∃ o, s''.heap.get? (I + 1) = some o) : Mid X xs cenv I N fl St s1 s2 s'' i := by
  obtain ⟨⟨h, tk, rfl, k0⟩, t1, t2, t3, t4, t5, t6⟩ := T
  obtain ⟨h', tk', rfl, k⟩ := k
  have hI := F.size
  have hI2 : s2.heap.objs.size = I + 1 := F.it.newI
  have ks : ∀ (b : Nat) o, h.get? b = some o → b ≠ I + 1 → ∃ sl, h'.get? b = some { o with slots := sl } := fun b o e hb => (k b o e hb).2
  refine ⟨⟨h', tk', rfl, fun b o e => ?_⟩, ht, fun b o hb hf e => (k b o (t2 b o hb hf e) ?_).1 hf, ?_, ns_move (Nat.lt_succ_self _) F.loc ks t4, fun x hx => tg_move (Nat.lt_succ_self _) F.loc ks (t5 x hx), fun a h1 h2 => ?_⟩
  · have hb : b ≠ I + 1 := by
      have := ltn e
      rw [hI] at this
      exact Nat.ne_of_lt (Nat.lt_succ_of_lt this)
    obtain ⟨p1, sl, p2⟩ := k0 b o e
    obtain ⟨_, sl', p3⟩ := k b _ p2 hb
    exact ⟨fun hf => (k b o (p1 hf) hb).1 hf, sl', p3⟩
  · have := ltn e
    rw [hI2] at this
    exact Nat.ne_of_lt this
  · refine (F.it.walks A F.handled).frame _ _ _ t3 fun b hb o e => (k b o e ?_).1 (F.nfl hb)
    have := toN (F.it.old b hb)
    rw [hI2] at this
    exact Nat.ne_of_lt this
  · by_cases hc : a = I + 1
    · subst hc; exact ha
    · obtain ⟨o, e⟩ := t6 a h1 h2
      obtain ⟨sl, e2⟩ := ks a o e hc
      exact ⟨_, e2⟩
theorem Mid.after (F : Fx W A X cenv I N fl fp P St ps s1 s2) (T : Mid X xs cenv I N fl St s1 s2 s' i) {s'' : Shared} (k : KeepsF fl s' s'') (ht : s'.toks ≤ s''.toks) : Mid X xs cenv I N fl St s1 s2 s'' i :=
  T.move F (.of k) (Nat.le_trans T.toks ht) (let ⟨o, e⟩ := T.alive (I + 1) (Nat.le_succ _) (Nat.lt_of_succ_lt F.lt); let ⟨sl, e2⟩ := k.slots e; ⟨_, e2⟩)

/-- a turn's front -/
theorem Mid.item {C n₀ : Nat} {target : Expr} {p : PV} {Qn : Option Value → Shared → Prop} {Q2 : Shared → Prop} {En : Value → Shared → Prop} (F : Fx W A X cenv I N fl fp P St ps s1 s2) (T : Mid X xs cenv I N fl St s1 s2 s' i) (CF : CompFacts sc σ xs scope)
    (es : ES W A d X M env sc σ s1) (fo : FlOk W X fl s1.heap) (hno : fl = none ∨ noOwnd σ = true) (hce : cenv = compEnvN scope env C n₀) (hp : ps[i]? = some p) (B : Binds scope.names target xs p σ σ')
    (h2 : ∀ s4, Mid X xs cenv I N fl St s1 s2 s4 (i + 1) → (∀ (b : Nat) o, ¬ InR (I + 2) N b → b ≠ I → s'.heap.get? b = some o → s4.heap.get? b = some o) → ES W A d (Xj X I N) M cenv scope.names σ' s4 → Q2 s4)
    (hq : ∀ v s4, (∃ o n, s4.heap.get? I = some o ∧ o.cls = .type n ∧ plainIter n = true) → wpAny W.M A (assign target cenv v) (fun _ s5 => Q2 s5) En s4 → Qn (some v) s4) :
    wpAny W.M A (pyNext (.ref I)) Qn En s' := by
  have hI := F.size
  have hI2 : s2.heap.objs.size = I + 1 := F.it.newI
  have hceo : EnvOk cenv scope.names := by rw [hce]; exact compEnv_ok CF es.eok C n₀
  have hlt : i < ps.length := (List.getElem?_eq_some_iff.mp hp).1
  refine wpAny_with_toks T.toks ((F.it.walks A F.handled).item i _ _ _ hlt T.st fun v h' tk hPv hst hk htk => hq v _ (F.it.cls _ _ hst) ?_)
  have hkeep : ∀ (b : Nat) o, b ≠ I → s'.heap.get? b = some o → h'.get? b = some o := fun b o hb e => hk b o (by simpa using hb) e
  have hks : ∀ (b : Nat) o, s'.heap.get? b = some o → b ≠ I → ∃ sl, h'.get? b = some { o with slots := sl } := fun b o e hb => ⟨o.slots, hkeep b o hb e⟩
  have halive : ∀ a : Nat, I ≤ a → a < N → ∃ o, h'.get? a = some o := fun a h1 h2 => by
    by_cases ha : a = I
    · subst ha; exact F.it.live _ _ hst
    · obtain ⟨o, e⟩ := T.alive a h1 h2; exact ⟨o, hkeep a o ha e⟩
  obtain ⟨q, hqe, dv⟩ := F.it.item (Xj X I N) i v h' (fun b o hx hb e => ⟨fun hq => hq.elim hx fun hq => by
      have h1 := ltn e
      rw [hI2] at h1
      exact hb (Nat.le_antisymm (Nat.le_of_lt_succ h1) hq.1), hkeep b o hb (T.below b o hb (fun q => hx (F.flx b q)) e)⟩) hPv
  rw [hp] at hqe; cases hqe
  have hNI : InR (I + 2) N cenv.locals := by rw [F.loc]; exact ⟨Nat.le_refl _, F.lt⟩
  have hlcl : ∀ x, isLcl x scope.names = true → cenv.kindOf x = some .local := fun x hx => by
    rw [hce, compEnv_kind, isLcl_lookup x hx]; rfl
  have hJX : ∀ a : Nat, InR (I + 2) N a → Xj X I N a := fun a ha => .inr ⟨Nat.le_trans (Nat.le_add_right _ _) ha.1, ha.2⟩
  refine store_targets (M := M) (s := { s' with heap := h', toks := tk }) (J := InR (I + 2) N) (X' := Xj X I N) F.handled F.kind hNI (ns_move (c := I) lt2 F.loc hks T.ns) (fun x hx => tg_move (c := I) lt2 F.loc hks (T.tg x hx)) hlcl B htk hJX dv
    fun h4 tk4 htk4 hk4 hal4 hns4 htg4 hrd4 => ?_
  have hb4 : ∀ (b : Nat) o, ¬ InR (I + 2) N b → b ≠ I → s'.heap.get? b = some o → h4.get? b = some o := fun b o hb hb2 e => hk4 b o hb (hkeep b o hb2 e)
  have low : ∀ b : Nat, b < I + 2 → ¬ InR (I + 2) N b := fun b hb q => Nat.not_lt.mpr q.1 hb
  have kk4 : KeepsF fl s1 { s' with heap := h4, toks := tk4 } := by
    obtain ⟨g, tg, rfl, k0⟩ := T.keeps
    refine ⟨h4, tk4, rfl, fun b o e => ?_⟩
    have hb := ltn e
    rw [hI] at hb
    have hl := low b (Nat.lt_of_lt_of_le hb (Nat.le_add_right _ _))
    obtain ⟨p1, sl, p2⟩ := k0 b o e
    exact ⟨fun hf => hb4 b o hl (Nat.ne_of_lt hb) (p1 hf), sl, hb4 b _ hl (Nat.ne_of_lt hb) p2⟩
  have T4 : Mid X xs cenv I N fl St s1 s2 { s' with heap := h4, toks := tk4 } (i + 1) := by
    refine ⟨kk4, htk4, fun b o hb hf e => ?_, ?_, hns4, htg4, fun a h1 h2 => hal4 a (halive a h1 h2)⟩
    · have := ltn e
      rw [hI2] at this
      exact hb4 b o (low b (Nat.lt_succ_of_lt this)) hb (T.below b o hb hf e)
    · refine (F.it.walks A F.handled).frame _ _ _ hst fun b hb o e => ?_
      have := toN (F.it.old b hb)
      rw [hI2] at this
      exact hk4 b o (low b (Nat.lt_succ_of_lt this)) e
  refine h2 _ T4 hb4 ⟨es.room, top_keepsF kk4 fo es.top, hceo, fun a ha => ?_, fun a ha => .inl (es.mx a ha), ?_, htk4⟩
  · rcases ha with ha | ⟨h1, h2⟩
    · exact xlt_keepsF kk4 es.xlt a ha
    · exact T4.alive a h1 h2
  · refine comp_vis (s' := { s' with heap := h4, toks := tk4 }) hce CF es.eok es.vis (fun y u hky hcf hr => ?_) (fun l u hd ⟨y, hy⟩ => ?_) hrd4
    · unfold ReadsName at hr
      rcases hcf with e | e <;> (rw [e] at hr; obtain ⟨c, h1, h2⟩ := hr; exact ⟨c, h1, cell_keepsF kk4 h2⟩)
    · refine LDen.keepsF (X := Xj X I N) (s := s1) kk4 ⟨fun L q => .inl (F.flx L q), fo.top, fo.ns⟩ (hno.imp id fun h => noOwnd_get h hy) (hd.move (fun _ _ e => e) fun a o ha e => ?_)
      rintro (q | q)
      · exact ha q
      · have h1 := ltn e
        rw [hI] at h1
        exact absurd q.1 (Nat.not_le.mpr h1)
theorem Mid.done {Qn : Option Value → Shared → Prop} {En : Value → Shared → Prop} (F : Fx W A X cenv I N fl fp P St ps s1 s2) (T : Mid X xs cenv I N fl St s1 s2 s' ps.length)
    (hq : ∀ s4, KeepsF fl s1 s4 → 1 ≤ s4.toks → (∃ m, s4.heap.Ns cenv.locals m) → (∀ (b : Nat) o, b ≠ I → s'.heap.get? b = some o → s4.heap.get? b = some o) → Qn none s4) :
    wpAny W.M A (pyNext (.ref I)) Qn En s' := by
  refine wpAny_with_toks T.toks ((F.it.walks A F.handled).done _ _ _ T.st fun h' tk hk htk => ?_)
  have hI := F.size
  have hkeep : ∀ (b : Nat) o, b ≠ I → s'.heap.get? b = some o → h'.get? b = some o := fun b o hb e => hk b o (by simpa using hb) e
  refine hq _ ?_ htk (ns_move (c := I) lt2 F.loc (fun b o e hb => ⟨o.slots, hkeep b o hb e⟩) T.ns) hkeep
  obtain ⟨g, tg, rfl, k0⟩ := T.keeps
  refine ⟨h', tk, rfl, fun b o e => ?_⟩
  have hb := ltn e
  rw [hI] at hb
  obtain ⟨p1, sl, p2⟩ := k0 b o e
  exact ⟨fun hf => hkeep b o (Nat.ne_of_lt hb) (p1 hf), sl, hkeep b _ (Nat.ne_of_lt hb) p2⟩
end
end Mine
namespace Mine

section
variable {W : Wd} {A : Around} {d : Nat} {X M : Excl} {env cenv : Env} {sc : Sc} {σ : Loc} {s s1 s2 s3 : Shared} {E : Value → Shared → Prop} {Q : Value → Shared → Prop} {K : PV → Prop} {G : GC} {r : WE} {t : WT} {scope : Scope} {x : Str} {xs : List Str} {fl : Option Addr}
  {I N : Nat} {fp : List Addr} {P : Nat → Value → Prop} {St : Nat → Heap → Prop} {ps : List PV} {i : Nat}

theorem folded_plain {e : Expr} (h : noSet e = true) (v : Value) : foldedSetIterable e env v = pure v := by
  cases e <;> first | rfl | cases h

theorem letGo_plain {target : Expr} {I : Addr} {v : Value} {o : Obj} {n : String} {Qs : Unit → Shared → Prop} (ho : s.heap.get? I = some o) (hc : o.cls = .type n) (hn : plainIter n = true) (h : Qs () s) :
    wpAny W.M A (letOwnedTupleGo target (.ref I) v) Qs E s := by
  have hnn : (["enumerate", "zip", "dict_itemiterator", "dict_reverseitemiterator", "odict_iterator", "itertools.zip_longest", "itertools.pairwise"].contains n) = false := by
    unfold plainIter at hn
    simpa using hn
  unfold letOwnedTupleGo
  cases target <;> first
    | exact wpAny_pure h
    | (cases v <;> first
        | exact wpAny_pure h
        | (refine wpAny_bind (wpAny_load ho ?_)
           rw [hc]
           cases o.data <;> first
             | exact wpAny_pure h
             | (simp only [hnn, Bool.false_and, Bool.false_eq_true, if_false]
                exact wpAny_pure h)))

theorem compLoop_go {R : Result → Shared → Prop} {elt target iter : Expr} {ifs : List Expr} {pos : Pos} {it acc : Value} (J : Nat → Shared → Prop)
    (turn : ∀ n s, J n s → wpAny W.M A (pyNext it) (fun r s₁ => match r with
      | none => R (.ok .next) s₁
      | some v => wpAny W.M A (letOwnedTupleGo target it v) (fun _ s₁ => wpAny W.M A (assign target env v) (fun _ s₂ =>
          wpAny W.M A (forIn ifs true fun c r => if r = true then do let ok ← isTrue c env (eval c env); pure (ForInStep.yield ok) else pure (ForInStep.yield r)) (fun ok s₃ =>
            if ok = true then wpAny W.M A (eval elt env) (fun x s₄ =>
              wpAny W.M A (call (.builtin "list.append") [acc, x]) (fun _ s₅ => ∃ m, m < n ∧ J m s₅) (notedBy W.M A env fun e s' => R (.error e) s') s₄) (notedBy W.M A env fun e s' => R (.error e) s') s₃
            else ∃ m, m < n ∧ J m s₃) (notedBy W.M A env fun e s' => R (.error e) s') s₂) (notedBy W.M A env fun e s' => R (.error e) s') s₁) (notedBy W.M A env fun e s' => R (.error e) s') s₁) (notedBy W.M A env fun e s' => R (.error e) s') s)
    (n : Nat) (h : J n s) : codeAny W.M A (.compLoop (.ListComp elt [⟨target, iter, ifs, 0⟩] scope pos) 0 it acc env) R s := by
  refine codeAny_loop rfl J (fun n s hJ => ?_) n h
  show wpAny _ A ((compTurn (.ListComp elt [⟨target, iter, ifs, 0⟩] scope pos) 0 it acc env).onRaise (fun x => do noteFrame x env; theTreesLotGoes x)) _ _ s
  refine wpAny_noted ?_
  rw [compTurn_list]
  refine wpAny_bind (wpAny_standAt (wpAny_bind (wpAny_mono (turn n s hJ) (fun r s₁ h₁ => ?_) fun _ _ h' => h')))
  cases r with
  | none => exact wpAny_pure h₁
  | some v =>
    refine wpAny_bind (wpAny_mono h₁ (fun _ s₁ h₁ => ?_) fun _ _ h' => h')
    refine wpAny_bind (wpAny_mono h₁ (fun _ s₂ h₂ => wpAny_bind (wpAny_mono h₂ (fun ok s₃ h₃ => ?_) fun _ _ h' => h')) fun _ _ h' => h')
    cases ok with
    | false => exact wpAny_pure ⟨rfl, h₃⟩
    | true =>
      exact wpAny_bind (wpAny_bind (wpAny_mono h₃ (fun x s₄ h₄ => wpAny_bind (wpAny_mono h₄ (fun _ s₅ h₅ => wpAny_pure (wpAny_pure ⟨rfl, h₅⟩)) fun _ _ h' => h')) fun _ _ h' => h'))

theorem turn_end {i m n : Nat} (h : i + m = n) (h2 : n ≤ i) : i = n := Nat.le_antisymm (h ▸ Nat.le_add_right i m) h2
theorem turn_rest {i m n : Nat} (h : i + m = n) (hl : i < n) : n - (i + 1) < m ∧ i + 1 + (n - (i + 1)) = n := by omega
theorem list_turns {target elt iter : Expr} {ifs : List Expr} {pos : Pos} {C n₀ : Nat} {LW : List PV → List PV → Prop} {ER : Loc → (PV → Prop) → Prop} {Kl : List PV → Prop} {R : Result → Shared → Prop} (ht : TOk W d t) (F : Fx W A X cenv I N fl fp P St ps s1 s2) (CF : CompFacts sc σ xs scope)
    (es : ES W A d X M env sc σ s1) (fo : FlOk W X fl s1.heap) (hno : fl = none ∨ noOwnd σ = true) (hce : cenv = compEnvN scope env C n₀) (T : Mid X xs cenv I N fl St s1 s2 s3 0) (hl : s3.heap.get? (I + 1) = some (lstObj [] 0)) (h : LW ps [])
    (hdone : ∀ acc, LW [] acc → Kl acc)
    (hstep : ∀ p ps' acc, LW (p :: ps') acc → ∃ σ', Binds scope.names target xs p σ σ' ∧ testsW (fun c K => t scope.names c σ' K) ifs fun b => Br b (ER σ' fun y => LW ps' (acc ++ [y])) (LW ps' acc))
    (helt : ∀ σ' s5 (Kp : PV → Prop) (Qe E' : Value → Shared → Prop), ES W A d (Xj X I N) M cenv scope.names σ' s5 → FlOk W (Xj X I N) fl s5.heap → ER σ' Kp →
      (∀ u y s6, Kp y → KeepsF fl s5 s6 → s5.toks ≤ s6.toks → Den W.w (Xj X I N) s6.heap y u → Qe u s6) → wpAny W.M A (eval elt cenv) Qe E' s5)
    (hR : ∀ ys us n s', Kl ys → KeepsF fl s1 s' → 1 ≤ s'.toks → (∃ m, s'.heap.Ns cenv.locals m) → ys.length ≤ sizeLine → s'.heap.get? (I + 1) = some (lstObj us n) → DenL W.w (Xj X I N) s'.heap ys us → R (.ok .next) s') :
    codeAny W.M A (.compLoop (.ListComp elt [⟨target, iter, ifs, 0⟩] scope pos) 0 (.ref I) (.ref (I + 1)) cenv) R s3 := by
  have hI1 : I + 1 ≠ I := Nat.succ_ne_self I
  have hin : InR I N (I + 1) := ⟨Nat.le_succ _, Nat.lt_of_succ_lt F.lt⟩
  have hnf : fl ≠ some (I + 1) := F.ge (Nat.le_succ _)
  refine compLoop_go (fun m s' => ∃ i acc, i + m = ps.length ∧ Mid X xs cenv I N fl St s1 s2 s' i ∧ acc.length ≤ i ∧ (∃ us n, s'.heap.get? (I + 1) = some (lstObj us n) ∧ DenL W.w (Xj X I N) s'.heap acc us) ∧ LW (ps.drop i) acc)
    (fun m s' hinv => ?_) ps.length ⟨0, [], Nat.zero_add _, T, Nat.le_refl _, ⟨[], 0, hl, .nil⟩, h⟩
  obtain ⟨i, acc, him, T, hsh, ⟨us, n, hg, dl⟩, h⟩ := hinv
  have hmv : ∀ {g : Shared}, (∀ (b : Nat) o, b ≠ I → ¬ InR (I + 2) N b → s'.heap.get? b = some o → g.heap.get? b = some o) → ∀ (a : Nat) o, ¬ Xj X I N a → s'.heap.get? a = some o → ¬ Xj X I N a ∧ g.heap.get? a = some o :=
    fun hk a o ha e => ⟨ha, hk a o (fun q => ha (.inr (by rw [q]; exact ⟨Nat.le_refl _, Nat.lt_trans lt2 F.lt⟩))) (fun q => ha (.inr ⟨Nat.le_trans (Nat.le_add_right _ _) q.1, q.2⟩)) e⟩
  have hlow : ¬ InR (I + 2) N (I + 1) := fun q => Nat.not_succ_le_self _ q.1
  cases hd : ps.drop i with
  | nil =>
    have hi : i = ps.length := turn_end him (List.drop_eq_nil_iff.mp hd)
    subst hi
    rw [hd] at h
    exact T.done F fun s4 k4 t4 n4 hk4 => hR acc us n s4 (hdone _ h) k4 t4 n4 (Nat.le_trans hsh F.it.len) (hk4 _ _ hI1 hg) (dl.move (hmv fun b o hb _ e => hk4 b o hb e))
  | cons p ps' =>
    have hlt : i < ps.length := by
      rcases Nat.lt_or_ge i ps.length with h | h
      · exact h
      · rw [List.drop_of_length_le h] at hd; cases hd
    have hp : ps[i]? = some p := by
      have := congrArg List.head? hd
      rwa [List.head?_drop] at this
    have hps : ps.drop (i + 1) = ps' := by
      have := congrArg List.tail hd
      rwa [List.tail_drop] at this
    rw [hd] at h
    obtain ⟨σ', B, h⟩ := hstep _ _ _ h
    refine T.item F CF es fo hno hce hp B (fun s4 T4 hk4 es4 => ?_) fun v s4 ⟨o, n', ho, hc, hn⟩ h4 => letGo_plain ho hc hn h4
    have hg4 := hk4 _ _ hlow hI1 hg
    have dl4 := dl.move (hmv fun b o hb hr e => hk4 b o hr hb e)
    refine tests_ok ht es4 h fun b s5 h5 k5 t5 => ?_
    have T5 := T4.after F (.of k5) t5
    have es5 := es4.after k5 t5
    have hg5 := keeps_mem k5 _ _ hg4
    have dl5 := dl4.keeps (keeps_mem k5)
    have h5 := h5.elim
    obtain ⟨hm, hm2⟩ := turn_rest him hlt
    cases b with
    | false =>
      rw [if_neg (by simp)]
      exact ⟨_, hm, i + 1, acc, hm2, T5, Nat.le_succ_of_le hsh, ⟨us, n, hg5, dl5⟩, hps ▸ h5.2 rfl⟩
    | true =>
      rw [if_pos rfl]
      have fo5 : FlOk W (Xj X I N) fl s5.heap := ⟨fun L q => .inl (F.flx L q), fo.top, (fo.after T5.keeps).ns⟩
      refine helt σ' s5 _ _ _ es5 fo5 (h5.1 rfl) fun u y s6 h6 k6 t6 d6 => ?_
      have T6 := T5.after F k6 t6
      have hg6 := k6.mem hg5 hnf
      have dl6 := dl5.keepsF k6 fo5.ex
      have hlen := dl6.length
      have hil := F.it.len
      have hsz : us.toArray.size < sizeLine := by
        rw [List.size_toArray, hlen]
        exact Nat.lt_of_le_of_lt hsh (Nat.lt_of_lt_of_le hlt hil)
      refine wpAny_with_toks T6.toks (wpAny_list_append_plain (items := us.toArray) ⟨n, hg6⟩ (fun h7 hp7 hs7 ht7 => ?_) (Nat.le_of_lt hsz))
      obtain ⟨n', hp7⟩ := hp7
      have hk7 : ∀ (b : Nat) o, b ≠ I + 1 → s6.heap.get? b = some o → h7.get? b = some o := fun b o hb e => by rw [hs7.2 b hb]; exact e
      have mv7 : ∀ a o, ¬ Xj X I N a → s6.heap.get? a = some o → ¬ Xj X I N a ∧ h7.get? a = some o := fun a o ha e => ⟨ha, hk7 a o (fun q => ha (.inr (q ▸ hin))) e⟩
      refine ⟨_, hm, i + 1, acc ++ [y], hm2, T6.move F (.but hk7) ht7 ⟨_, hp7⟩, by rw [List.length_append]; exact Nat.succ_le_succ hsh, ⟨us ++ [u], n', by rw [hp7]; unfold lstObj; rw [List.push_toArray], (dl6.move mv7).append (.one (d6.move mv7))⟩, hps ▸ h6⟩

theorem comp_start {o : Obj} (hf : o.isFreed = false) (CF : CompFacts sc σ xs scope) (es : ES W A d X M env sc σ s1) (fo : FlOk W X fl s1.heap) (k2 : Keeps s1 s2) (t2 : 1 ≤ s2.toks) (it : IterAt W.prog W.w X ps s1.heap.objs.size s2.heap fp P St) {g3 g4 : Heap} (hg3 : s2.heap.push o = g3)
    (hg4 : pushCells (g3.push { cls := .type "dict", data := .dict #[] }) scope.names = g4) :
    g3.objs.size = s1.heap.objs.size + 2 ∧ g4.get? (s1.heap.objs.size + 1) = some o ∧ Fx W A X (compEnvN scope env g3.objs.size (g3.objs.size + 1)) s1.heap.objs.size g4.objs.size fl fp P St ps s1 s2 ∧
      Mid X xs (compEnvN scope env g3.objs.size (g3.objs.size + 1)) s1.heap.objs.size g4.objs.size fl St s1 s2 { s2 with heap := g4 } 0 := by
  have hsz : s2.heap.objs.size = s1.heap.objs.size + 1 := it.newI
  have hg3s : g3.objs.size = s1.heap.objs.size + 2 := by rw [← hg3, Heap.size_push, hsz]
  have hk23 : ∀ b o, s2.heap.get? b = some o → g3.get? b = some o := fun b o e => by rw [← hg3]; exact Heap.get?_push_of_some _ e
  have hl3 : g3.get? (s1.heap.objs.size + 1) = some o := by rw [← hg3, ← hsz]; exact Heap.get?_push_size _ hf
  have hk34 : ∀ b o, g3.get? b = some o → g4.get? b = some o := fun b o e => by rw [← hg4]; exact pushCells_keeps _ _ _ _ (Heap.get?_push_of_some _ e)
  have hns4 : g4.Ns g3.objs.size (fun _ => none) := by
    rw [← hg4]
    exact (Heap.Ns.new g3 _).keeps fun b o e => pushCells_keeps _ _ _ _ e
  have hsz4 : (g3.push { cls := .type "dict", data := .dict #[] }).objs.size = g3.objs.size + 1 := Heap.size_push ..
  have hN : g3.objs.size < g4.objs.size := by
    rw [← hg4]
    refine Nat.lt_of_lt_of_le ?_ (pushCells_size _ _)
    rw [hsz4]; exact Nat.lt_succ_self _
  refine ⟨hg3s, hk34 _ _ hl3, ⟨es.room.handled, CF.kind, hg3s, hg3s ▸ hN, it, rfl, fo.ex, fun L q => let ⟨_, o, _, _, e, _⟩ := fo.ns L q; ltn e⟩, .of (keeps_upd k2 fun b o _ e => hk34 b o (hk23 b o e)), t2, fun b o _ _ e => hk34 b o (hk23 b o e), ?_, ⟨_, hns4⟩, fun x hx => ?_, fun a h1 h2 => ?_⟩
  · exact (it.walks A es.room.handled).frame _ _ _ it.start fun b _ o e => hk34 b o (hk23 b o e)
  · have hkd := compEnv_kind (scope := scope) (env := env) g3.objs.size (g3.objs.size + 1) x
    rcases hasTarget_lookup x (CF.target x hx) with e | e
    · exact .inl ⟨by rw [hkd, e]; rfl, _, hns4⟩
    · obtain ⟨c, hc⟩ := cellsFrom_has (n := g3.objs.size + 1) (mem_of_lookup e)
      have hge := cellsFrom_ge (mem_of_lookup hc)
      have hlt := hge.2 (g3.push { cls := .type "dict", data := .dict #[] }) hsz4
      rw [hg4] at hlt
      have h1 : g3.objs.size + 1 ≤ c := hge.1
      refine .inr ⟨by rw [hkd, e]; rfl, c, none, ?_, hlt.2, ⟨?_, hlt.1⟩, fun e' => ?_⟩
      · show (cellsFrom (g3.objs.size + 1) scope.names (clOf env.cells scope.names [])).lookup x = _
        rw [cellsFrom_append, List.lookup_append, hc]; rfl
      · rw [hg3s] at h1
        exact Nat.le_of_succ_le h1
      · have h2 : c = g3.objs.size := e'
        rw [h2] at h1
        exact absurd h1 (Nat.not_succ_le_self _)
  · rcases Nat.lt_trichotomy a g3.objs.size with ha | ha | ha
    · by_cases hb : a = s1.heap.objs.size
      · subst hb
        obtain ⟨o, e⟩ := it.live _ _ it.start
        exact ⟨o, hk34 _ _ (hk23 _ _ e)⟩
      · have : a = s1.heap.objs.size + 1 := by omega
        subst this
        exact ⟨_, hk34 _ _ hl3⟩
    · subst ha
      obtain ⟨o, _, _, e, _⟩ := hns4
      exact ⟨o, e⟩
    · have := pushCells_alive scope.names (g3.push { cls := .type "dict", data := .dict #[] }) a (by rw [hsz4]; exact ha) (by rw [hg4]; exact h2)
      rw [hg4] at this
      exact this

theorem comp_any {target elt iter : Expr} {ifs : List Expr} {pos : Pos} {use : Option (Value → Sem Unit)} {L0 : List PV → (List PV → Prop) → Prop} {LW : List PV → List PV → (List PV → Prop) → Prop} {ER : Loc → (PV → Prop) → Prop} (h0 : ∀ ps Kl, L0 ps Kl → LW ps [] Kl) (hr : EOk W d r) (ht : TOk W d t) (es : ES W A d X M env sc σ s) (fo : FlOk W X fl s.heap)
    (hno : fl = none ∨ noOwnd σ = true) (hok : compOk sc σ xs scope iter = true) (h : r sc iter σ fun p => iterW p fun ps => L0 ps fun ys => K (.list ys))
    (hdone : ∀ acc Kl, LW [] acc Kl → Kl acc)
    (hstep : ∀ p ps' acc Kl, LW (p :: ps') acc Kl → ∃ σ', Binds scope.names target xs p σ σ' ∧ testsW (fun c K => t scope.names c σ' K) ifs fun b => Br b (ER σ' fun y => LW ps' (acc ++ [y]) Kl) (LW ps' acc Kl))
    (helt : ∀ X' cenv σ' s5 (Kp : PV → Prop) (Qe E' : Value → Shared → Prop), cenv.frame = env.frame → ES W A d X' M cenv scope.names σ' s5 → FlOk W X' fl s5.heap → ER σ' Kp →
      (∀ u y s6, Kp y → KeepsF fl s5 s6 → s5.toks ≤ s6.toks → Den W.w X' s6.heap y u → Qe u s6) → wpAny W.M A (eval elt cenv) Qe E' s5)
    (hfin : ∀ ys acc C s', K (.list ys) → KeepsF fl s s' → 1 ≤ s'.toks → (∃ m, s'.heap.Ns C m) → s.heap.get? C = none → Den W.w (fun a => X a ∨ a = C) s'.heap (.list ys) acc →
      compPost W.M A E use Q acc C (.ok .next) s') :
    wpAny W.M A (comprehension (.ListComp elt [⟨target, iter, ifs, 0⟩] scope pos) scope env (firstIterPos [⟨target, iter, ifs, 0⟩] pos) (newList []) (firstAsync [⟨target, iter, ifs, 0⟩]) (firstIter [⟨target, iter, ifs, 0⟩] env) use) Q E s := by
  obtain ⟨CF, hns⟩ := comp_facts hok
  refine wpAny_comprehension_free rfl (folded_plain hns) (closure_is (free_has CF es.eok)) CF.kind (fun y hy hl => nodup_lookup CF.nodup _ _ (hl ▸ hy)) ?_
  refine hr.tk es h fun v p s1 h1 k1 t1 d1 => ?_
  have es1 := es.after k1 t1
  have fo1 := fo.after (.of k1)
  refine wpAny_with_toks es1.tok (iter_op es1.xlt d1 h1 fun ps s2 fp P St h2 k2 it tk2 => ?_)
  refine wpAny_newList (wp_compEnv ?_) (by simp)
  generalize hg3 : (s2.heap.push { cls := .type "list", data := .seq #[] }) = g3 at *
  generalize hg4 : pushCells (g3.push { cls := .type "dict", data := .dict #[] }) scope.names = g4
  obtain ⟨hg3s, hl4, F, T⟩ := comp_start (A := A) rfl CF es1 fo1 k2 tk2 it hg3 hg4
  have hsz : s2.heap.objs.size = s1.heap.objs.size + 1 := it.newI
  have loop : codeAny W.M A (.compLoop (.ListComp elt [⟨target, iter, ifs, 0⟩] scope pos) 0 (.ref s1.heap.objs.size) (.ref (s1.heap.objs.size + 1)) (compEnvN scope env g3.objs.size (g3.objs.size + 1))) (compPost W.M A E use Q (.ref (s1.heap.objs.size + 1)) g3.objs.size) { s2 with heap := g4 } := by
    refine list_turns (Kl := fun ys => K (.list ys)) (LW := fun ps acc => LW ps acc fun ys => K (.list ys)) ht F CF es1 fo1 hno rfl T hl4 (h0 _ _ h2) (fun acc => hdone acc _) (fun p ps' acc => hstep p ps' acc _) (fun σ' s5 Kp Qe E' => helt _ _ σ' s5 Kp Qe E' rfl) fun ys us n s' hK hks htk hns hle hgl hdl => ?_
    have hCs : s.heap.get? g3.objs.size = none := by
      cases e : s.heap.get? g3.objs.size with
      | none => rfl
      | some o => have := ltn (keeps_mem k1 _ _ e); omega
    refine hfin ys _ g3.objs.size s' hK ((KeepsF.of k1).trans hks) htk hns hCs ?_
    refine mk_list hle (fun q => ?_) hgl (hdl.move fun a o ha e => ⟨?_, e⟩)
    · rcases q with q | q
      · exact es1.xlt.new (Nat.le_succ _) q
      · exact absurd q (Nat.ne_of_lt (by omega))
    · rintro (q | rfl)
      · exact ha (.inl q)
      · exact ha (.inr ⟨hg3s ▸ Nat.le_add_right _ _, hg3s ▸ F.lt⟩)
  rw [hsz]
  exact codeAny_compStart_list loop ((it.walks A es.room.handled).self _ _ _ _ T.st loop)

theorem comp_gen {elt iter : Expr} {ifs : List Expr} {pos px : Pos} {use : Option (Value → Sem Unit)} (hr : EOk W d r) (ht : TOk W d t) (es : ES W A d X M env sc σ s) (h : compW r t sc σ elt iter x ifs scope K)
    (hfin : ∀ ys acc C s', K (.list ys) → Keeps s s' → 1 ≤ s'.toks → (∃ m, s'.heap.Ns C m) → s.heap.get? C = none → Den W.w (fun a => X a ∨ a = C) s'.heap (.list ys) acc →
      compPost W.M A E use Q acc C (.ok .next) s') :
    wpAny W.M A (comprehension (.ListComp elt [⟨.Name x px, iter, ifs, 0⟩] scope pos) scope env (firstIterPos [⟨.Name x px, iter, ifs, 0⟩] pos) (newList []) (firstAsync [⟨.Name x px, iter, ifs, 0⟩]) (firstIter [⟨.Name x px, iter, ifs, 0⟩] env) use) Q E s := by
  unfold compW at h
  split at h
  · rename_i hok
    refine comp_any (fl := none) (LW := loopW r t scope.names elt x ifs σ) (L0 := fun ps Kl => Lp (loopW r t scope.names elt x ifs σ ps [] Kl)) (ER := fun σ' Kp => r scope.names elt σ' Kp) (fun ps Kl h => h.elim) hr ht es .none (.inl rfl) hok h (fun acc Kl h => h) (fun p ps acc Kl h => ⟨_, .name x px p σ, h⟩)
      (fun X' cenv σ' s5 Kp Qe E' _ es5 _ h5 hq => hr.tk es5 h5 fun u y s6 hK k6 t6 d6 => hq u y s6 hK (.of k6) t6 d6) fun ys acc C s' hK hk => hfin ys acc C s' hK hk.none
  · exact h.elim
end
end Mine
namespace Mine

section
variable {W : Wd} {A : Around} {d : Nat} {X M : Excl} {env : Env} {sc : Sc} {σ : Loc} {s : Shared} {cenv : Env} {s1 s2 s3 : Shared} {xs : List Str} {fl : Option Addr} {I N : Nat} {fp : List Addr} {P : Nat → Value → Prop} {St : Nat → Heap → Prop} {ps : List PV} {i : Nat} {E : Value → Shared → Prop} {Q : Value → Shared → Prop} {K : PV → Prop} {G : GC} {r : WE} {t : WT} {scope : Scope} {x : Str}

noncomputable def storeS : List (Str × PV) → Str → PV → List (Str × PV)
  | [], k, p => [(k, p)]
  | (y, q) :: r, k, p => match nmEq y k with
    | true => (y, p) :: r
    | false => (y, q) :: storeS r k p
theorem storeS_map {k : Str} {p : PV} : ∀ {es : List (Str × PV)}, (storeS es k p).map (·.1) = if k ∈ es.map (·.1) then es.map (·.1) else es.map (·.1) ++ [k]
  | [] => by simp [storeS]
  | (y, q) :: r => by
    simp only [storeS]
    cases h : nmEq y k with
    | true => simp [(nmEq_iff y k).mp h]
    | false =>
      have hne : ¬ k = y := fun e => by rw [(nmEq_iff y k).mpr e.symm] at h; cases h
      simp only [List.map_cons, storeS_map (es := r), List.mem_cons, hne, false_or]
      split <;> simp
theorem stored_cons {y k : Str} {u v : Value} {kvs : List (Str × Value)} (hn : ((y, u) :: kvs).map (·.1) |>.Nodup) : stored ((y, u) :: kvs) k v = if y = k then (y, v) :: kvs else (y, u) :: stored kvs k v := by
  unfold stored
  by_cases h : y = k
  · subst h
    have hni : y ∉ kvs.map (·.1) := by simpa using (List.nodup_cons.mp hn).1
    simp only [List.any_cons, decide_true, Bool.true_or, if_true, List.map_cons]
    rw [map_store_of_not_mem kvs y v hni]
  · simp only [List.any_cons, h, decide_false, Bool.false_or, List.map_cons, if_false]
    split <;> simp
theorem storeS_den {w : World} {h : Heap} {k : Str} {p : PV} {v : Value} (dv : Den w X h p v) : ∀ {es : List (Str × PV)} {kvs : List (Str × Value)}, kvs.map (·.1) = es.map (·.1) → (kvs.map (·.1)).Nodup → DenL w X h (es.map (·.2)) (kvs.map (·.2)) →
    (stored kvs k v).map (·.1) = (storeS es k p).map (·.1) ∧ DenL w X h ((storeS es k p).map (·.2)) ((stored kvs k v).map (·.2)) ∧ (storeS es k p).length ≤ es.length + 1
  | [], kvs, hm, _, _ => by
    have : kvs = [] := by simpa using hm
    subst this
    exact ⟨rfl, .one dv, Nat.le_refl _⟩
  | (y, q) :: r, [], hm, _, _ => by simp at hm
  | (y, q) :: r, (z, u) :: kvs, hm, hn, dl => by
    simp only [List.map_cons, List.cons.injEq] at hm
    obtain ⟨rfl, hm⟩ := hm
    obtain ⟨u', r', e', d1, d2⟩ := dl.inv_cons
    simp only [List.map_cons, List.cons.injEq] at e'
    obtain ⟨rfl, rfl⟩ := e'
    rw [stored_cons hn]
    simp only [storeS]
    cases hq : nmEq z k with
    | true =>
      rw [if_pos ((nmEq_iff z k).mp hq)]
      exact ⟨by simp [hm], .cons dv d2, by simp⟩
    | false =>
      have hne : ¬ z = k := fun e => by rw [(nmEq_iff z k).mpr e] at hq; cases hq
      rw [if_neg hne]
      obtain ⟨h1, h2, h3⟩ := storeS_den dv hm (List.nodup_cons.mp hn).2 d2
      exact ⟨by simp [h1], .cons d1 h2, by simp; omega⟩

noncomputable def loopWD (r : WE) (t : WT) (scn : Sc) (kx vx : Expr) (x : Str) (ifs : List Expr) (σ : Loc) : List PV → List (Str × PV) → (List (Str × PV) → Prop) → Prop
  | [], acc, K => K acc
  | p :: ps, acc, K => testsW (fun c K => t scn c (set σ x (.val p)) K) ifs fun b =>
      Br b (r scn kx (set σ x (.val p)) fun q => asS q fun k => r scn vx (set σ x (.val p)) fun y => loopWD r t scn kx vx x ifs σ ps (storeS acc k y) K) (loopWD r t scn kx vx x ifs σ ps acc K)
noncomputable def compWD (r : WE) (t : WT) (sc : Sc) (σ : Loc) (kx vx iter : Expr) (x : Str) (ifs : List Expr) (scope : Scope) (K : PV → Prop) : Prop :=
  match compOk sc σ [x] scope iter with
  | true => r sc iter σ fun p => iterW p fun xs => loopWD r t scope.names kx vx x ifs σ xs [] fun ys => K (.dict ys)
  | false => False

theorem dict_turns {kx vx iter : Expr} {ifs : List Expr} {pos px : Pos} {C n₀ : Nat} {R : Result → Shared → Prop} {Kl : List (Str × PV) → Prop} (hr : EOk W d r) (ht : TOk W d t) (F : Fx W A X cenv I N none fp P St ps s1 s2) (CF : CompFacts sc σ [x] scope)
    (es : ES W A d X M env sc σ s1) (hce : cenv = compEnvN scope env C n₀) (T : Mid X [x] cenv I N none St s1 s2 s3 0) (hl : s3.heap.DictOf (strKind W.prog W.w) (I + 1) []) (h : loopWD r t scope.names kx vx x ifs σ ps [] Kl)
    (hR : ∀ ys kvs s', Kl ys → Keeps s1 s' → (∃ m, s'.heap.Ns cenv.locals m) → s'.heap.DictOf (strKind W.prog W.w) (I + 1) kvs → kvs.map (·.1) = ys.map (·.1) → DenL W.w (Xj X I N) s'.heap (ys.map (·.2)) (kvs.map (·.2)) → R (.ok .next) s') :
    codeAny W.M A (.compLoop (.DictComp kx vx [⟨.Name x px, iter, ifs, 0⟩] scope pos) 0 (.ref I) (.ref (I + 1)) cenv) R s3 := by
  have hI1 : I + 1 ≠ I := Nat.succ_ne_self I
  have hin : InR I N (I + 1) := ⟨Nat.le_succ _, Nat.lt_of_succ_lt F.lt⟩
  refine codeAny_compLoop_testsD (fun m s' => ∃ i acc, i + m = ps.length ∧ Mid X [x] cenv I N none St s1 s2 s' i ∧ acc.length ≤ i ∧ (∃ kvs, s'.heap.DictOf (strKind W.prog W.w) (I + 1) kvs ∧ kvs.map (·.1) = acc.map (·.1) ∧ DenL W.w (Xj X I N) s'.heap (acc.map (·.2)) (kvs.map (·.2))) ∧ loopWD r t scope.names kx vx x ifs σ (ps.drop i) acc Kl)
    (fun m s' hinv => ?_) ps.length ⟨0, [], Nat.zero_add _, T, Nat.le_refl _, ⟨[], hl, rfl, .nil⟩, h⟩
  obtain ⟨i, acc, him, T, hsh, ⟨kvs, hg, he, dl⟩, h⟩ := hinv
  have hmv : ∀ {g : Shared}, (∀ (b : Nat) o, b ≠ I → ¬ InR (I + 2) N b → s'.heap.get? b = some o → g.heap.get? b = some o) → ∀ (a : Nat) o, ¬ Xj X I N a → s'.heap.get? a = some o → ¬ Xj X I N a ∧ g.heap.get? a = some o :=
    fun hk a o ha e => ⟨ha, hk a o (fun q => ha (.inr (by rw [q]; exact ⟨Nat.le_refl _, Nat.lt_trans lt2 F.lt⟩))) (fun q => ha (.inr ⟨Nat.le_trans (Nat.le_add_right _ _) q.1, q.2⟩)) e⟩
  have hlow : ¬ InR (I + 2) N (I + 1) := fun q => Nat.not_succ_le_self _ q.1
  cases hd : ps.drop i with
  | nil =>
    have hi : i = ps.length := turn_end him (List.drop_eq_nil_iff.mp hd)
    subst hi
    rw [hd] at h
    exact T.done F fun s4 k4 t4 n4 hk4 => hR acc kvs s4 h k4.none n4 (hg.at fun o e => hk4 _ o hI1 e) he (dl.move (hmv fun b o hb _ e => hk4 b o hb e))
  | cons p ps' =>
    have hlt : i < ps.length := by
      rcases Nat.lt_or_ge i ps.length with h | h
      · exact h
      · rw [List.drop_of_length_le h] at hd; cases hd
    have hp : ps[i]? = some p := by
      have := congrArg List.head? hd
      rwa [List.head?_drop] at this
    have hps : ps.drop (i + 1) = ps' := by
      have := congrArg List.tail hd
      rwa [List.tail_drop] at this
    rw [hd] at h
    simp only [loopWD] at h
    refine T.item F CF es .none (.inl rfl) hce hp (.name x px p σ) (fun s4 T4 hk4 es4 => ?_) fun v s4 _ h4 => h4
    have hg4 : s4.heap.DictOf (strKind W.prog W.w) (I + 1) kvs := hg.at fun o e => hk4 _ o hlow hI1 e
    have dl4 := dl.move (hmv fun b o hb hr e => hk4 b o hr hb e)
    refine tests_ok ht es4 h fun b s5 h5 k5 t5 => ?_
    have T5 := T4.after F (.of k5) t5
    have es5 := es4.after k5 t5
    have hg5 := hg4.keep (keeps_mem k5)
    have dl5 := dl4.keeps (keeps_mem k5)
    have h5 := h5.elim
    obtain ⟨hm, hm2⟩ := turn_rest him hlt
    cases b with
    | false =>
      rw [if_neg (by simp)]
      exact ⟨_, hm, i + 1, acc, hm2, T5, Nat.le_succ_of_le hsh, ⟨kvs, hg5, he, dl5⟩, hps ▸ h5.2 rfl⟩
    | true =>
      rw [if_pos rfl]
      refine hr.tk es5 (h5.1 rfl) fun u0 y0 s5b h5b k5b t5b d5b => ?_
      obtain ⟨key, rfl, h5c⟩ := asS.inv h5b
      obtain ⟨_, tkk, rfl⟩ := den_str d5b
      refine hr.tk (es5.after k5b t5b) h5c fun u y s6 h6 k6b t6b d6 => ?_
      have k6 := keeps_trans k5b k6b
      have T6 := T5.after F (.of k6) (Nat.le_trans t5b t6b)
      have hg6 := hg5.keep (keeps_mem k6)
      have dl6 := dl5.keeps (keeps_mem k6)
      have hlen : kvs.length = acc.length := by simpa using congrArg List.length he
      have hil := F.it.len
      refine wpAny_with_toks T6.toks (wpAny_dictSet_pairs (strKind_is _ _ key tkk) hg6 (fun h7 hp7 hs7 ht7 => ?_) (by rw [hlen]; exact Nat.le_trans hsh (Nat.le_trans (Nat.le_of_lt hlt) hil)))
      have hk7 : ∀ (b : Nat) o, b ≠ I + 1 → s6.heap.get? b = some o → h7.get? b = some o := fun b o hb e => by rw [hs7.2 b hb]; exact e
      have mv7 : ∀ a o, ¬ Xj X I N a → s6.heap.get? a = some o → ¬ Xj X I N a ∧ h7.get? a = some o := fun a o ha e => ⟨ha, hk7 a o (fun q => ha (.inr (q ▸ hin))) e⟩
      have hnd : (kvs.map (·.1)).Nodup := let ⟨_, _, _, _, _, _, _, _, e⟩ := hg; e
      obtain ⟨e1, e2, e3⟩ := storeS_den d6 (k := key) he hnd dl6
      obtain ⟨ob7, _, _, hob7, _⟩ := id hp7
      exact ⟨_, hm, i + 1, storeS acc key y, hm2, T6.move F (.but hk7) ht7 ⟨_, hob7⟩, Nat.le_trans e3 (Nat.succ_le_succ hsh), ⟨_, hp7, e1, e2.move mv7⟩, hps ▸ h6⟩
end
end Mine
namespace Mine

section
variable {W : Wd} {A : Around} {d : Nat} {X M : Excl} {env : Env} {sc : Sc} {σ : Loc} {s : Shared} {E : Value → Shared → Prop} {Q : Value → Shared → Prop} {K : PV → Prop} {G : GC} {r : WE} {t : WT} {scope : Scope} {x : Str}

theorem sys_low (hs : ∀ b o, W.top.get? b = some o → s.heap.get? b = some o) : sysModules < s.heap.objs.size := by
  obtain ⟨_, ⟨o, _, _, ho, _⟩, _⟩ := W.T.nodigits
  exact Nat.lt_trans (by decide) (Heap.lt_size (hs _ _ ho))
theorem dictcomp_ok {kx vx iter : Expr} {ifs : List Expr} {pos px : Pos} (hr : EOk W d r) (ht : TOk W d t) (es : ES W A d X M env sc σ s) (h : compWD r t sc σ kx vx iter x ifs scope K) (hq : Post W.w X s K Q) :
    wpAny W.M A (eval (.DictComp kx vx [⟨.Name x px, iter, ifs, 0⟩] scope pos) env) Q E s := by
  rw [arm_eval_DictComp]
  unfold compWD at h
  split at h
  · rename_i hok
    obtain ⟨CF, hns⟩ := comp_facts hok
    refine wpAny_comprehension_free (use := none) rfl (folded_plain hns) (closure_is (free_has CF es.eok)) CF.kind (fun y hy hl => nodup_lookup CF.nodup _ _ (hl ▸ hy)) ?_
    refine hr.tk es h fun v p s1 h1 k1 t1 d1 => ?_
    have es1 := es.after k1 t1
    refine wpAny_with_toks es1.tok (iter_op es1.xlt d1 h1 fun ps s2 fp P St h2 k2 it tk2 => ?_)
    refine wpAny_newObj_type (wp_compEnv ?_)
    have hsz : s2.heap.objs.size = s1.heap.objs.size + 1 := it.newI
    have hl3 : (s2.heap.push { cls := .type "dict", data := .dict #[] }).DictOf (strKind W.prog W.w) (s1.heap.objs.size + 1) [] := by rw [← hsz]; exact Heap.DictOf.new _
    generalize hg3 : (s2.heap.push { cls := .type "dict", data := .dict #[] }) = g3 at *
    generalize hg4 : pushCells (g3.push { cls := .type "dict", data := .dict #[] }) scope.names = g4
    obtain ⟨hg3s, -, F, T⟩ := comp_start (A := A) rfl CF es1 .none k2 tk2 it hg3 hg4
    have hl4 : g4.DictOf (strKind W.prog W.w) (s1.heap.objs.size + 1) [] := hl3.keep fun b o e => by rw [← hg4]; exact pushCells_keeps _ _ _ _ (Heap.get?_push_of_some _ e)
    have loop : codeAny W.M A (.compLoop (.DictComp kx vx [⟨.Name x px, iter, ifs, 0⟩] scope pos) 0 (.ref s1.heap.objs.size) (.ref (s1.heap.objs.size + 1)) (compEnvN scope env g3.objs.size (g3.objs.size + 1))) (compPost W.M A E none Q (.ref (s1.heap.objs.size + 1)) g3.objs.size) { s2 with heap := g4 } := by
      refine dict_turns hr ht F CF es1 rfl T hl4 h2 fun ys kvs s' hK hks hns hgl hel hdl => ?_
      have hlow : sysModules < s1.heap.objs.size := sys_low es1.top
      obtain ⟨m, hm⟩ := hns
      have hXi : ¬ X (s1.heap.objs.size + 1) := es1.xlt.new (Nat.le_succ _)
      refine ⟨m, hm, fun h' hs' => ?_⟩
      have hk' : ∀ b o, b ≠ g3.objs.size → s'.heap.get? b = some o → h'.get? b = some o := fun b o hb e => by rw [hs'.2 b hb]; exact e
      refine hq _ _ _ hK (keeps_trans k1 (keeps_upd hks fun b o hb e => hk' b o (Nat.ne_of_lt (Nat.lt_of_lt_of_le hb (by rw [hg3s]; exact Nat.le_add_right ..))) e)) (mk_dict hXi (beq_eq_false_iff_ne.mpr (Nat.ne_of_gt (Nat.lt_succ_of_lt hlow))) (hgl.at fun o e => hk' _ o (by rw [hg3s]; exact Nat.ne_of_lt (Nat.lt_succ_self _)) e) hel (hdl.move fun a o ha e => ⟨fun q => ha (.inl q), hk' a o ?_ e⟩))
      rintro rfl
      exact ha (.inr ⟨hg3s ▸ Nat.le_add_right _ _, hg3s ▸ F.lt⟩)
    rw [hsz]
    exact codeAny_compStart_dict loop ((it.walks A es.room.handled).self _ _ _ _ T.st loop)
  · exact h.elim

end
end Mine
namespace Mine

section
variable {W : Wd} {A : Around} {d : Nat} {X M : Excl} {env : Env} {sc : Sc} {σ : Loc} {s : Shared} {E : Value → Shared → Prop} {Q : Value → Shared → Prop} {K : PV → Prop} {G : GC} {r : WE} {t : WT} {scope : Scope} {x : Str}

noncomputable def lookS : List (Str × PV) → Str → Option PV
  | [], _ => none
  | (y, p) :: r, x => match nmEq y x with
    | true => some p
    | false => lookS r x
theorem lookS_den {h : Heap} {k : Str} {p : PV} : ∀ {es : List (Str × PV)} {kvs : List (Str × Value)}, kvs.map (·.1) = es.map (·.1) → DenL W.w X h (es.map (·.2)) (kvs.map (·.2)) → lookS es k = some p →
    ∃ v, valueAt kvs k = some v ∧ Den W.w X h p v
  | [], _, _, _, e => by cases e
  | (y, q) :: r, [], hm, _, _ => by simp at hm
  | (y, q) :: r, (z, v) :: kvs, hm, d, e => by
    simp only [List.map_cons, List.cons.injEq] at hm d
    obtain ⟨rfl, hm⟩ := hm
    obtain ⟨v', r', e', d1, d2⟩ := d.inv_cons
    cases e'
    simp only [lookS] at e
    cases hn : nmEq z k with
    | true =>
      rw [hn] at e
      cases e
      have := (nmEq_iff z k).mp hn
      subst this
      exact ⟨v, by simp [valueAt], d1⟩
    | false =>
      rw [hn] at e
      have hne : ¬ z = k := fun q => by rw [(nmEq_iff z k).mpr q] at hn; cases hn
      obtain ⟨u, hu, du⟩ := lookS_den hm d2 e
      refine ⟨u, ?_, du⟩
      rw [← hu]
      simp [valueAt, hne]

theorem lookS_none {k : Str} : ∀ {es : List (Str × PV)} {kvs : List (Str × Value)}, kvs.map (·.1) = es.map (·.1) → lookS es k = none → valueAt kvs k = none
  | [], [], _, _ => rfl
  | [], _ :: _, e, _ => by simp at e
  | _ :: _, [], e, _ => by simp at e
  | (y, q) :: r, (z, v) :: kvs, hm, e => by
    simp only [List.map_cons, List.cons.injEq] at hm
    obtain ⟨rfl, hm⟩ := hm
    simp only [lookS] at e
    cases hn : nmEq z k with
    | true => rw [hn] at e; cases e
    | false =>
      rw [hn] at e
      have hne : ¬ z = k := fun q => by rw [(nmEq_iff z k).mpr q] at hn; cases hn
      rw [← lookS_none hm e]
      simp [valueAt, hne]
noncomputable def getD (ps : List (Str × PV)) (k : Str) (d : PV) : PV := match lookS ps k with
  | some p => p
  | none => d
noncomputable def asD (p : PV) (F : List (Str × PV) → Prop) : Prop := match p with | .dict ps => F ps | _ => False
theorem asD.inv {p : PV} {F : List (Str × PV) → Prop} (h : asD p F) : ∃ ps, p = .dict ps ∧ F ps := by
  cases p <;> first | exact ⟨_, rfl, h⟩ | exact False.elim h
noncomputable def dgetW (r : Expr → (PV → Prop) → Prop) (o : Expr) (args : List Expr) (K : PV → Prop) : Prop :=
  as0 args False fun a l => as1 l fun b => gd (noStar a) (gd (noStar b) (r o fun p => asD p fun ps => r a fun q => asS q fun k => r b fun dflt => K (getD ps k dflt)))
theorem dget_ok {o : Expr} {m : Str} {apos pos : Pos} {args : List Expr} (hr : EOk W d r) (hc : noCall o = true) (hl : (apos.endLine == pos.line) = true) (hm : nmEq m (Str.ofString "get") = true) (es : ES W A d X M env sc σ s)
    (h : dgetW (fun e K => r sc e σ K) o args K) (hq : Post W.w X s K Q) : wpAny W.M A (eval (.Call (.Attribute o m apos) args [] pos) env) Q E s := by
  have em := (nmEq_iff _ _).mp hm
  subst em
  rcases args with _ | ⟨a, l⟩
  · exact False.elim h
  obtain ⟨b, rfl, h2⟩ := as1.inv (F := fun b => gd (noStar a) (gd (noStar b) (r sc o σ fun p => asD p fun ps => r sc a σ fun q => asS q fun k => r sc b σ fun dflt => K (getD ps k dflt)))) h
  obtain ⟨hns1, h3⟩ := gd.inv h2
  obtain ⟨hns2, h4⟩ := gd.inv h3
  have hst : starEach [a, b] env = [(false, eval a env), (false, eval b env)] := by
    rw [starEach_plain hns1, starEach_plain hns2]; rfl
  refine Call_method2 (base_plain hc) hst hl (hr.tk es h4 fun v p s1 h1 k1 t1 d1 => ?_)
  obtain ⟨ps, rfl, h5⟩ := asD.inv h1
  obtain ⟨da, kvs, rfl, hx, hsm, hd, he, dl⟩ := den_dict d1
  have hT : s1.TypeIs (.ref da) "dict" := (hd W.prog).typeIs
  obtain ⟨od, _, _, hod, hcd, _⟩ := hd W.prog
  refine ⟨"dict", "dict.get", PySem.F.plainAttrs_dict, PySem.F.slot_dict_get, PySem.F.type_dict_get, hT, (by rintro b' q; cases q; exact ⟨_, hod, hcd.2.1⟩), ?_⟩
  have es1 := es.after k1 t1
  refine wpAny_dict_get2 (knd := strKind W.prog W.w) hsm (hr.tk es1 h5 fun v2 q s2 h6 k2 t2 d2 => ?_)
  obtain ⟨k, rfl, h7⟩ := asS.inv h6
  obtain ⟨_, tk, rfl⟩ := den_str d2
  refine hr.tk (es1.after k2 t2) h7 fun v3 dflt s3 h8 k3 t3 d3 => ?_
  have k13 := keeps_trans k2 k3
  refine ⟨k, valueAt kvs, strKind_is _ _ k tk, ((hd W.prog).keep (keeps_mem k13)).mapOf, ?_⟩
  have kk := keeps_trans k1 (keeps_trans k13 (keeps_tk s3 (s3.toks + 1)))
  have dl3 := dl.keeps (keeps_mem k13)
  unfold getD at h8
  cases hlk : lookS ps k with
  | some p =>
    rw [hlk] at h8
    obtain ⟨u, hu, du⟩ := lookS_den he dl3 hlk
    rw [hu]
    exact hq _ _ _ h8 kk du
  | none =>
    rw [hlk] at h8
    rw [lookS_none he hlk]
    exact hq _ _ _ h8 kk d3
end
end Mine
namespace Mine

section
variable {W : Wd} {A : Around} {d : Nat} {X M : Excl} {env : Env} {sc : Sc} {σ : Loc} {s : Shared} {E : Value → Shared → Prop} {Q : Value → Shared → Prop} {K : PV → Prop} {G : GC} {r : WE} {t : WT} {scope : Scope} {x : Str}

noncomputable def dictItemW (r : Expr → (PV → Prop) → Prop) (es : List (Str × PV)) (i : Expr) (K : PV → Prop) : Prop :=
  r i fun q => (match q with | .str k => Ex (lookS es k) K | _ => False)
noncomputable def itemW (G : GC) (r : Expr → (PV → Prop) → Prop) (sc : Sc) (σ : Loc) (x : Str) (i : Expr) (K : PV → Prop) : Prop :=
  match kd sc x with
  | some .loc => (match get σ x with
    | some (.ownd es) => dictItemW r es i K
    | _ => ownItemW r sc σ x i K)
  | _ => nameW G sc σ x fun p => r i fun q => idxW p q K
theorem itemW_ok {x : Str} {i : Expr} {p pos : Pos} (hG : GOk W d G) (hr : EOk W d r) (es : ES W A d X M env sc σ s) (h : itemW G (fun e K => r sc e σ K) sc σ x i K) (hq : Post W.w X s K Q) :
    wpAny W.M A (eval (.Subscript (.Name x p) i pos) env) Q E s := by
  unfold itemW at h
  split at h
  · rename_i hk
    split at h
    · rename_i ds hg
      unfold dictItemW at h
      obtain ⟨v, hrn, hz, a, kvs, rfl, hm, ho, he, dl⟩ := es.vis x _ hg (by rw [es.eok.names, hk])
      refine Subscript_ (wpAny_Name (reads_wp es.eok hrn ?_ (es.eok.ne_class hk)) (es.eok.ne_debug hk))
      refine hr.tk es h fun u q s1 h1 k1 t1 d1 => ?_
      cases q with
      | str k =>
        obtain ⟨hks, t', rfl⟩ := den_str d1
        obtain ⟨c, hc, h1⟩ := Ex.elim h1
        obtain ⟨u, hu, du⟩ := lookS_den he dl hc
        have ho' := ho.keep (keeps_mem k1)
        obtain ⟨ops, hs⟩ := subscripted_op i (.ref a) (.str k t')
        refine tail_any ho'.typeIs slot_dict_getitem.lookup ?_ hs
        refine wpAny_getItem_of (strKind_is _ _ _ _) ho'.mapOf hu (hq _ _ _ h1 (keeps_trans k1 (keeps_tk _ _)) (du.keeps (keeps_mem k1)))
      | _ => exact h1.elim
    · exact own_item_ok hr es h hq
  · refine Subscript_ (wpAny_with_toks (Nat.le_refl _) (name_ok hG es h fun v p s1 h1 k1 d1 t1 => ?_))
    refine hr.tk (es.after k1 t1) h1 fun u q s2 h2 k2 t2 d2 => ?_
    exact idx_op (d1.keeps (keeps_mem k2)) d2 h2 (hq.after (keeps_trans k1 k2))

theorem comp_list {fl : Option Addr} (hfl : ∀ L, fl = some L → ∃ o, s.heap.get? L = some o) (hq : ∀ v p s', K p → KeepsF fl s s' → 1 ≤ s'.toks → Den W.w X s'.heap p v → Q v s') (ys : List PV) (acc : Value) (C : Addr) (s' : Shared) (hK : K (.list ys)) (hks : KeepsF fl s s') (htk : 1 ≤ s'.toks) (hns : ∃ m, s'.heap.Ns C m)
    (hC : s.heap.get? C = none) (hden : Den W.w (fun a => X a ∨ a = C) s'.heap (.list ys) acc) : compPost W.M A E none Q acc C (.ok .next) s' := by
  obtain ⟨m, hm⟩ := hns
  refine ⟨m, hm, fun h' hs' => ?_⟩
  have hk' : ∀ b o, b ≠ C → s'.heap.get? b = some o → h'.get? b = some o := fun b o hb e => by rw [hs'.2 b hb]; exact e
  refine hq _ _ _ hK ?_ htk (hden.move fun a o ha e => ⟨fun q => ha (.inl q), hk' a o (fun q => ha (.inr q)) e⟩)
  obtain ⟨g, tk, rfl, hg⟩ := hks
  refine ⟨h', tk, rfl, fun b o e => ?_⟩
  have hb : b ≠ C := by rintro rfl; rw [hC] at e; cases e
  obtain ⟨h1, sl, h2⟩ := hg b o e
  exact ⟨fun hf => hk' b o hb (h1 hf), sl, hk' b _ hb h2⟩
theorem Post.toF (hq : Post W.w X s K Q) (v : Value) (p : PV) (s' : Shared) (hK : K p) (k : KeepsF none s s') (_ : 1 ≤ s'.toks) (dv : Den W.w X s'.heap p v) : Q v s' := hq v p s' hK k.none dv
theorem listcomp_ok {elt iter : Expr} {ifs : List Expr} {pos px : Pos} (hr : EOk W d r) (ht : TOk W d t) (es : ES W A d X M env sc σ s) (h : compW r t sc σ elt iter x ifs scope K) (hq : Post W.w X s K Q) :
    wpAny W.M A (eval (.ListComp elt [⟨.Name x px, iter, ifs, 0⟩] scope pos) env) Q E s := by
  rw [arm_eval_ListComp]
  exact comp_gen hr ht es h fun ys acc C s' hK hks => comp_list (fl := none) nofun hq.toF ys acc C s' hK (.of hks)

noncomputable def tupOf? (e : Expr) : Option (List Expr × Nat × Pos) := match e with | .Tuple es n p => some (es, n, p) | _ => none
theorem tupOf?.inv {e : Expr} {q : List Expr × Nat × Pos} (h : tupOf? e = some q) : e = .Tuple q.1 q.2.1 q.2.2 := by
  cases e <;> first | exact nsome h | (cases h; rfl)
noncomputable def pairOf? (e : Expr) : Option ((Str × Pos) × (Str × Pos) × (Nat × Pos)) := ob (tupOf? e) fun t => o2 t.1 fun a b => ob (nameOf? a) fun x => ob (nameOf? b) fun y => some (x, y, t.2.1, t.2.2)
theorem pairOf?.inv {e : Expr} {q : (Str × Pos) × (Str × Pos) × (Nat × Pos)} (h : pairOf? e = some q) : e = .Tuple [.Name q.1.1 q.1.2, .Name q.2.1.1 q.2.1.2] q.2.2.1 q.2.2.2 := by
  obtain ⟨t, h1, h⟩ := ob.inv h
  obtain ⟨a, b, h2, h⟩ := o2.inv h
  obtain ⟨x, h3, h⟩ := ob.inv h
  obtain ⟨y, h4, h⟩ := ob.inv h
  rw [tupOf?.inv h1, h2, nameOf?.inv h3, nameOf?.inv h4, ← Option.some.inj h]
  all_goals rfl
noncomputable def genP? (gens : List Comprehension) : Option (((Str × Pos) × (Str × Pos) × (Nat × Pos)) × Expr) := o1 gens fun g => o0 g.ifs (ob (pairOf? g.target) fun q => og (is0 g.is_async) (some (q, g.iter))) fun _ _ => none
theorem genP?.inv {gens : List Comprehension} {q : ((Str × Pos) × (Str × Pos) × (Nat × Pos)) × Expr} (h : genP? gens = some q) : gens = [⟨.Tuple [.Name q.1.1.1 q.1.1.2, .Name q.1.2.1.1 q.1.2.1.2] q.1.2.2.1 q.1.2.2.2, q.2, [], 0⟩] := by
  obtain ⟨⟨t, it, ifs, n⟩, rfl, h⟩ := o1.inv h
  obtain ⟨h1, h⟩ := o0.inv h
  obtain ⟨x, h2, h⟩ := ob.inv h
  obtain ⟨h3, h⟩ := og.inv h
  rw [← Option.some.inj h, ← pairOf?.inv h2, ← h1, ← is0.inv h3]
  all_goals rfl
noncomputable def asP (p : PV) (F : PV → PV → Prop) : Prop := match p with
  | .tuple l => as0 l False fun a r => as0 r False fun b r => as0 r (F a b) fun _ _ => False
  | _ => False
theorem asP.inv {p : PV} {F : PV → PV → Prop} (h : asP p F) : ∃ a b, p = .tuple [a, b] ∧ F a b := by
  cases p with
  | tuple l =>
    rcases l with _ | ⟨a, _ | ⟨b, _ | ⟨c, r⟩⟩⟩
    · exact False.elim h
    · exact False.elim h
    · exact ⟨a, b, rfl, h⟩
    · exact False.elim h
  | _ => exact False.elim h
noncomputable def loopP (r : WE) (scn : Sc) (elt : Expr) (x y : Str) (σ : Loc) : List PV → List PV → (List PV → Prop) → Prop
  | [], acc, K => K acc
  | p :: ps, acc, K => asP p fun a b => r scn elt (set (set σ x (.val a)) y (.val b)) fun u => loopP r scn elt x y σ ps (acc ++ [u]) K
noncomputable def compP (r : WE) (sc : Sc) (σ : Loc) (elt iter : Expr) (x y : Str) (scope : Scope) (K : PV → Prop) : Prop :=
  gd (compOk sc σ [x, y] scope iter) (gd (isLcl x scope.names) (gd (isLcl y scope.names) (gd (!nmEq x y) (r sc iter σ fun p => iterW p fun ps => loopP r scope.names elt x y σ ps [] fun ys => K (.list ys)))))
theorem compP_ok {elt iter : Expr} {pos px py tp : Pos} {n : Nat} {y : Str} (hr : EOk W d r) (ht : TOk W d t) (es : ES W A d X M env sc σ s) (h : compP r sc σ elt iter x y scope K) (hq : Post W.w X s K Q) :
    wpAny W.M A (eval (.ListComp elt [⟨.Tuple [.Name x px, .Name y py] n tp, iter, [], 0⟩] scope pos) env) Q E s := by
  rw [arm_eval_ListComp]
  obtain ⟨hok, h⟩ := gd.inv h
  obtain ⟨hx, h⟩ := gd.inv h
  obtain ⟨hy, h⟩ := gd.inv h
  obtain ⟨hxy, h⟩ := gd.inv h
  refine comp_any (fl := none) (LW := loopP r scope.names elt x y σ) (L0 := fun ps Kl => loopP r scope.names elt x y σ ps [] Kl) (ER := fun σ' Kp => r scope.names elt σ' Kp) (fun _ _ h => h) hr ht es .none (.inl rfl) hok h (fun acc Kl h => h) (fun p ps acc Kl h => ?_)
    (fun X' cenv σ' s5 Kp Qe E' _ es5 _ h5 hq => hr.tk es5 h5 fun u y s6 hK k6 t6 d6 => hq u y s6 hK (.of k6) t6 d6) (comp_list nofun hq.toF)
  obtain ⟨a, b, rfl, h⟩ := asP.inv h
  exact ⟨_, .pair x px y py n tp a b σ hx hy (by simpa using hxy), ⟨fun _ => h, fun e => nomatch e⟩⟩

noncomputable def subW (G : GC) (r : Expr → (PV → Prop) → Prop) (sc : Sc) (σ : Loc) (v i : Expr) (K : PV → Prop) : Prop := match sliceOf? i with
  | some q => slicesW r v q.1 q.2.1 q.2.2.1 K
  | none => (match nameOf? v with
    | some q => itemW G r sc σ q.1 i K
    | none => r v fun p => r i fun q => idxW p q K)
noncomputable def calW (G : GC) (r : Expr → (PV → Prop) → Prop) (sc : Sc) (f : Expr) (args : List Expr) (kws : List Keyword) (pos : Pos) (K : PV → Prop) : Prop := as0 kws (match f with
  | .Name f _ => callW' G r sc f args K
  | .Attribute o m apos => gd (noCall o) (gd (Nat.beq apos.endLine pos.line) ((match nmEq m (Str.ofString "get") with | true => dgetW r o args K | false => smethW r o m args K)))
  | _ => False) fun _ _ => False
noncomputable def lcompW (r : WE) (t : WT) (sc : Sc) (σ : Loc) (elt : Expr) (gens : List Comprehension) (scope : Scope) (K : PV → Prop) : Prop := match genOf? gens with
  | some c => compW r t sc σ elt c.2.1 c.1.1 c.2.2 scope K
  | none => gs (genP? gens) fun c => compP r sc σ elt c.2 c.1.1.1 c.1.2.1.1 scope K
noncomputable def stepE (G : GC) (r : WE) (t : WT) : WE := fun sc e σ K => match e with
  | .Constant c _ _ => constW c K
  | .Name x _ => nameW G sc σ x K
  | .BinOp l op rr _ => r sc l σ fun a => r sc rr σ fun b => binW op a b K
  | .BoolOp op xs _ => boolW (fun e K => r sc e σ K) op xs K
  | .Compare l ops rs _ => as1 ops fun op => as1 rs fun rr => gd (noSet rr) (r sc l σ fun a => r sc rr σ fun b => cmpW op a b K)
  | .IfExp c a b _ => t sc c σ fun x => Br x (r sc a σ K) (r sc b σ K)
  | .List es _ => eachW (fun e K => r sc e σ K) es fun ps => Ob (ps.length ≤ sizeLine) (K (.list ps))
  | .Tuple es _ _ => eachW (fun e K => r sc e σ K) es fun ps => Ob (ps.length ≤ sizeLine) (K (.tuple ps))
  | .Subscript v i _ => subW G (fun e K => r sc e σ K) sc σ v i K
  | .Call f args kws pos => calW G (fun e K => r sc e σ K) sc f args kws pos K
  | .ListComp elt gens scope _ => lcompW r t sc σ elt gens scope K
  | .DictComp kx vx gens scope _ => gs (genOf? gens) fun c => compWD r t sc σ kx vx c.2.1 c.1.1 c.2.2 scope K
  | _ => False

theorem stepE_ok (hG : GOk W d G) (hr : EOk W d r) (ht : TOk W d t) : EOk W d (stepE G r t) := by
  intro A E s X M env sc e σ K Q es h hq
  cases e with
  | Constant c k p => exact const_ok h hq
  | Name x p => exact name_ok hG es h hq
  | BinOp l op rr p => exact binop_ok hr es h hq
  | BoolOp op xs p => exact bool_ok hr es h hq
  | Compare l ops rs p =>
    obtain ⟨op, rfl, h2⟩ := as1.inv h
    obtain ⟨rr, rfl, h3⟩ := as1.inv h2
    obtain ⟨hs, h4⟩ := gd.inv h3
    exact compare_ok hr hs es h4 hq
  | IfExp c a b p => exact ifexp_ok hr ht es h hq
  | List es' p => exact list_ok hr es h hq
  | Tuple es' n p => exact tuple_ok hr es h hq
  | Subscript v i p =>
    change subW G (fun e K => r sc e σ K) sc σ v i K at h
    unfold subW at h
    cases hs : sliceOf? i with
    | some q =>
      rw [hs] at h
      cases sliceOf?.inv hs
      exact slices_ok hr es h hq
    | none =>
      rw [hs] at h
      cases hn : nameOf? v with
      | some q =>
        rw [hn] at h
        cases nameOf?.inv hn
        exact itemW_ok hG hr es h hq
      | none =>
        rw [hn] at h
        exact item_ok hr es h hq
  | Call f args kws p =>
    rcases kws with _ | ⟨k, l⟩
    · cases f with
      | Name f q => exact call_ok hG hr es h hq
      | Attribute o m q =>
        obtain ⟨h1, h3⟩ := gd.inv h
        obtain ⟨h2, h4⟩ := gd.inv h3
        have h2' : (q.endLine == p.line) = true := by simpa using Nat.eq_of_beq_eq_true h2
        change (match nmEq m (Str.ofString "get") with | true => dgetW (fun e K => r sc e σ K) o args K | false => smethW (fun e K => r sc e σ K) o m args K) at h4
        cases hm : nmEq m (Str.ofString "get") with
        | true => rw [hm] at h4; exact dget_ok hr h1 h2' hm es h4 hq
        | false => rw [hm] at h4; exact smeth_ok hr h1 h2' es h4 hq
      | _ => exact False.elim h
    · exact False.elim h
  | ListComp elt gens scope p =>
    change lcompW r t sc σ elt gens scope K at h
    unfold lcompW at h
    cases hc : genOf? gens with
    | some c =>
      rw [hc] at h
      rw [genOf?.inv hc]
      exact listcomp_ok hr ht es h hq
    | none =>
      rw [hc] at h
      obtain ⟨c, hc, h2⟩ := gs.inv h
      rw [genP?.inv hc]
      exact compP_ok hr ht es h2 hq
  | DictComp kx vx gens scope p =>
    obtain ⟨c, hc, h2⟩ := gs.inv h
    rw [genOf?.inv hc]
    exact dictcomp_ok hr ht es h2 hq
  | _ => exact False.elim h
end
end Mine
namespace Mine

section
variable {W : Wd} {A : Around} {d : Nat} {X M M' : Excl} {env : Env} {sc : Sc} {σ : Loc} {s s' : Shared} {E : Value → Shared → Prop} {Q : Value → Shared → Prop} {K : PV → Prop} {G : GC} {r : WE} {t : WT} {scope : Scope} {x : Str}

set_option genInjectivity true in
structure FrOk (env : Env) (M : Excl) (h : Heap) : Prop where
  loc : M env.locals ∧ ∃ m, h.Ns env.locals m
  cell : ∀ x, env.kindOf x = some .cell → ∃ c v, env.cells.lookup x = some c ∧ h.IsCell c v ∧ M c
  inj : ∀ x y c, env.kindOf x = some .cell → env.kindOf y = some .cell → env.cells.lookup x = some c → env.cells.lookup y = some c → x = y
  noFree : ∀ x, env.kindOf x ≠ some .free

noncomputable def isOwn : LV → Bool
  | .val _ => false
  | .is _ _ => false
  | _ => true
/-- what a name holds, its own objects apart from all others -/
noncomputable def Sep (env : Env) (σ : Loc) (h : Heap) : Prop :=
  ∀ x y l k v, x ≠ y → get σ x = some l → get σ y = some k → isOwn l = true → isOwn k = true → vkOf (env.kindOf x) = some .loc → vkOf (env.kindOf y) = some .loc → ReadsName env h x v → ReadsName env h y v → False

noncomputable def Apart (env : Env) (σ : Loc) (h : Heap) : Prop :=
  ∀ x l v, get σ x = some l → isOwn l = true → vkOf (env.kindOf x) = some .loc → ReadsName env h x v → v ≠ .ref env.locals

noncomputable def Un (X M : Excl) : Excl := fun a => X a ∨ M a

/-- the outermost frame -/
noncomputable def Lw (d : Nat) (A : Around) (env : Env) : Prop := d = 11 → A.frames = some [env] ∧ env.frame = some env.locals
structure SS (W : Wd) (A : Around) (d : Nat) (X M : Excl) (env : Env) (sc : Sc) (σ : Loc) (s : Shared) : Prop where
  es : ES W A d (Un X M) M env sc σ s
  fr : FrOk env M s.heap
  sep : Sep env σ s.heap
  apart : Apart env σ s.heap
  mtop : ∀ b o, W.top.get? b = some o → ¬ M b
  m0 : ∀ a, M a → ¬ X a
  lw : Lw d A env

noncomputable def Mut (M M' : Excl) (s s' : Shared) : Prop := ∃ h' tk, s' = { s with heap := h', toks := tk } ∧ ∀ b o, ¬ M b → s.heap.get? b = some o → ¬ M' b ∧ h'.get? b = some o
theorem Mut.refl (M : Excl) (s : Shared) : Mut M M s s := ⟨s.heap, s.toks, rfl, fun b o h e => ⟨h, e⟩⟩
theorem Mut.trans {M M₁ M₂ : Excl} {a b c : Shared} (x : Mut M M₁ a b) (y : Mut M₁ M₂ b c) : Mut M M₂ a c := by
  obtain ⟨h, t, rfl, k⟩ := x
  obtain ⟨h', t', rfl, k'⟩ := y
  exact ⟨h', t', rfl, fun b o hm e => let ⟨h1, h2⟩ := k b o hm e; k' b o h1 h2⟩
theorem Mut.of_keeps {M : Excl} {a b : Shared} (k : Keeps a b) : Mut M M a b := by
  obtain ⟨h, t, rfl, k⟩ := k
  exact ⟨h, t, rfl, fun b o hm e => ⟨hm, k b o e⟩⟩
theorem Mut.mem {M M' : Excl} {a b : Shared} (x : Mut M M' a b) : ∀ c o, ¬ M c → a.heap.get? c = some o → ¬ M' c ∧ b.heap.get? c = some o := by
  obtain ⟨h, t, rfl, k⟩ := x
  exact k

theorem ReadsName.inj {h : Heap} {v u : Value} (a : ReadsName env h x v) (b : ReadsName env h x u) : v = u := by
  have cellCase : ∀ {c c' : Addr}, env.cells.lookup x = some c → h.IsCell c (some v) → env.cells.lookup x = some c' → h.IsCell c' (some u) → v = u := by
    intro c c' hl e hl' e'
    rw [hl] at hl'; cases hl'
    obtain ⟨o, g, e⟩ := e
    obtain ⟨o', g', e'⟩ := e'
    rw [g] at g'; cases g'
    rw [e] at e'; cases e'; rfl
  unfold ReadsName at a b
  cases hk : env.kindOf x with
  | none => rw [hk] at a; exact a.elim
  | some k =>
    rw [hk] at a b
    cases k with
    | «local» =>
      obtain ⟨m, hn, e⟩ := a
      obtain ⟨m', hn', e'⟩ := b
      obtain ⟨o, es, ep, g, hd, _, hf⟩ := hn
      obtain ⟨o', es', ep', g', hd', _, hf'⟩ := hn'
      rw [g] at g'; cases g'
      rw [hd] at hd'; cases hd'
      have h1 := hf x
      have h2 := hf' x
      rw [h1, e] at h2
      rw [e'] at h2; cases h2; rfl
    | cell => obtain ⟨c, hl, e⟩ := a; obtain ⟨c', hl', e'⟩ := b; exact cellCase hl e hl' e'
    | free => obtain ⟨c, hl, e⟩ := a; obtain ⟨c', hl', e'⟩ := b; exact cellCase hl e hl' e'
    | _ => exact a.elim

theorem FrOk.keeps {h h' : Heap} (hk : ∀ b o, h.get? b = some o → h'.get? b = some o) (F : FrOk env M h) : FrOk env M h' where
  loc := ⟨F.loc.1, let ⟨m, hn⟩ := F.loc.2; ⟨m, hn.keeps hk⟩⟩
  cell := fun x hx => let ⟨c, v, h1, h2, h3⟩ := F.cell x hx; ⟨c, v, h1, h2.keeps hk, h3⟩
  inj := F.inj
  noFree := F.noFree

theorem FrOk.reads {h : Heap} (F : FrOk env M h) {v : Value} (hx : vkOf (env.kindOf x) = some .loc) : (∃ m, env.kindOf x = some .local ∧ h.Ns env.locals m) ∨ (env.kindOf x = some .cell ∧ ∃ c u, env.cells.lookup x = some c ∧ h.IsCell c u ∧ M c) := by
  cases hk : env.kindOf x with
  | none => rw [hk] at hx; cases hx
  | some k =>
    cases k with
    | «local» => obtain ⟨m, hn⟩ := F.loc.2; exact .inl ⟨m, rfl, hn⟩
    | cell => exact .inr ⟨rfl, F.cell x hk⟩
    | free => exact absurd hk (F.noFree x)
    | _ => rw [hk] at hx; cases hx

theorem Sep.keeps {h h' : Heap} (hk : ∀ b o, h.get? b = some o → h'.get? b = some o) (V : ∀ x l, get σ x = some l → vkOf (env.kindOf x) = some .loc → ∃ v, ReadsName env h x v) (S : Sep env σ h) : Sep env σ h' := by
  intro x y l k v hxy hl hk' ol ok hx hy rx ry
  obtain ⟨u, ru⟩ := V x l hl hx
  obtain ⟨z, rz⟩ := V y k hk' hy
  have e1 := (ru.keeps hk).inj rx
  have e2 := (rz.keeps hk).inj ry
  subst e1; subst e2
  exact S x y l k _ hxy hl hk' ol ok hx hy ru rz

theorem Apart.keeps {h h' : Heap} (hk : ∀ b o, h.get? b = some o → h'.get? b = some o) (V : ∀ x l, get σ x = some l → vkOf (env.kindOf x) = some .loc → ∃ v, ReadsName env h x v) (S : Apart env σ h) : Apart env σ h' := by
  intro x l v hl ol hx rx
  obtain ⟨u, ru⟩ := V x l hl hx
  have e1 := (ru.keeps hk).inj rx
  subst e1
  exact S x l _ hl ol hx ru

theorem Vis.reads {P : Program} {w : World} {h : Heap} (V : Vis P w env X M σ h) : ∀ x l, get σ x = some l → vkOf (env.kindOf x) = some .loc → ∃ v, ReadsName env h x v :=
  fun x l e k => let ⟨v, r, _⟩ := V x l e k; ⟨v, r⟩

theorem SS.after (S : SS W A d X M env sc σ s) (k : Keeps s s') (t : s.toks ≤ s'.toks) : SS W A d X M env sc σ s' :=
  ⟨S.es.after k t, S.fr.keeps (keeps_mem k), S.sep.keeps (keeps_mem k) S.es.vis.reads, S.apart.keeps (keeps_mem k) S.es.vis.reads, S.mtop, S.m0, S.lw⟩
end
end Mine
namespace Mine

section
variable {W : Wd} {A : Around} {d : Nat} {X M M' : Excl} {env : Env} {sc : Sc} {σ : Loc} {s s' : Shared} {E : Value → Shared → Prop} {Q : Value → Shared → Prop} {K : PV → Prop} {G : GC} {r : WE} {t : WT} {scope : Scope} {x : Str}

theorem LDen.but {P : Program} {w : World} {h h' : Heap} {c : Addr} {l : LV} {v : Value} (hM : M c) (hk : ∀ b o, b ≠ c → h.get? b = some o → h'.get? b = some o) (hne : isOwn l = true → v ≠ .ref c) (d : LDen P w (Un X M) M h l v) :
    LDen P w (Un X M) M h' l v := by
  have hmv : ∀ a o, ¬ Un X M a → h.get? a = some o → ¬ Un X M a ∧ h'.get? a = some o := fun a o ha e => ⟨ha, hk a o (by rintro rfl; exact ha (.inr hM)) e⟩
  cases l with
  | val p => exact Den.move hmv d
  | is u p => exact ⟨d.1, d.2.move hmv⟩
  | own vs =>
    obtain ⟨hz, a, us, n, rfl, m, g, dl⟩ := d
    exact ⟨hz, a, us, n, rfl, m, hk a _ (fun q => hne rfl (by rw [q])) g, dl.move hmv⟩
  | ownd es =>
    obtain ⟨hz, a, us, rfl, m, g, e2, dl⟩ := d
    refine ⟨hz, a, us, rfl, m, ?_, e2, dl.move hmv⟩
    obtain ⟨o, es', ep, ho, r⟩ := g
    exact ⟨o, es', ep, hk a _ (fun q => hne rfl (by rw [q])) ho, r⟩
/-- an own object is no cell -/
theorem LDen.no_cell {P : Program} {w : World} {h : Heap} {c : Addr} {u : Option Value} {l : LV} {v : Value} (hc : h.IsCell c u) (ho : isOwn l = true) (d : LDen P w X M h l v) : v ≠ .ref c := by
  rintro rfl
  obtain ⟨o, g, e⟩ := hc
  cases l with
  | val p => cases ho
  | is u p => cases ho
  | own vs =>
    obtain ⟨_, a, us, n, ea, m, g', _⟩ := d
    cases ea
    rw [g] at g'; cases g'
    cases e
  | ownd es =>
    obtain ⟨_, a, us, ea, m, ⟨o', es', ep, g', _, hd, _⟩, _⟩ := d
    cases ea
    rw [g] at g'; cases g'
    rw [e] at hd; cases hd

theorem cell_ne_ns {h : Heap} {c a : Addr} {u : Option Value} {m : Str → Option Value} (hc : h.IsCell c u) (hn : h.Ns a m) : c ≠ a := by
  rintro rfl
  obtain ⟨o, g, e⟩ := hc
  obtain ⟨o', es, ep, g', hd, _⟩ := hn
  rw [g] at g'; cases g'
  rw [e] at hd; cases hd

theorem store_name_ok {l : LV} {v : Value} {Qs : Unit → Shared → Prop} (S : SS W A d X M env sc σ s) (hk : kd sc x = some .loc) (dv : LDen W.prog W.w (Un X M) M s.heap l v) (hl : isOwn l = true → v ≠ .ref env.locals)
    (hsep : isOwn l = true → ∀ y k u, y ≠ x → get σ y = some k → isOwn k = true → vkOf (env.kindOf y) = some .loc → ReadsName env s.heap y u → u ≠ v)
    (hq : ∀ s', SS W A d X M env sc (set σ x l) s' → Mut M M s s' → Qs () s') : wpAny W.M A (storeName env x v) Qs E s := by
  have hkx : vkOf (env.kindOf x) = some .loc := by rw [S.es.eok.names, hk]
  have hfn := S.es.eok.kind
  have hp : (env.scope.kind == .class || (env.scope.kind == .module && env.locals != env.globals)) = false := by rw [hfn]; rfl
  -- one address changes
  have fin : ∀ (c : Addr) (h' : Heap) (tk : Nat), M c → Heap.SameBut c s.heap h' → (∃ o, h'.get? c = some o) → 1 ≤ tk → FrOk env M h' → ReadsName env h' x v →
      (∀ y u, y ≠ x → vkOf (env.kindOf y) = some .loc → ReadsName env s.heap y u → ReadsName env h' y u) →
      (∀ y k u, get σ y = some k → isOwn k = true → vkOf (env.kindOf y) = some .loc → ReadsName env s.heap y u → u ≠ .ref c) → (isOwn l = true → v ≠ .ref c) → Qs () { s with heap := h', toks := tk } := by
    intro c h' tk hM hs hal htk hF hr hold hown hvc
    have hkeep : ∀ b o, b ≠ c → s.heap.get? b = some o → h'.get? b = some o := fun b o hb e => by rw [hs.2 b hb]; exact e
    refine hq _ ⟨⟨S.es.room, fun b o e => hkeep b o (fun q => S.mtop b o e (q ▸ hM)) (S.es.top b o e), S.es.eok, ?_, S.es.mx, ?_, htk⟩, hF, ?_, ?_, S.mtop, S.m0, S.lw⟩ ⟨h', tk, rfl, fun b o hb e => ⟨hb, hkeep b o (fun q => hb (q ▸ hM)) e⟩⟩
    · intro a ha
      by_cases hac : a = c
      · subst hac; exact hal
      · obtain ⟨o, e⟩ := S.es.xlt a ha; exact ⟨o, hkeep a o hac e⟩
    · intro y k hg hky
      rw [get_set] at hg
      by_cases hyx : y = x
      · subst hyx
        simp at hg; subst hg
        exact ⟨v, hr, dv.but hM hkeep hvc⟩
      · rw [if_neg hyx] at hg
        obtain ⟨u, hru, du⟩ := S.es.vis y k hg hky
        exact ⟨u, hold y u hyx hky hru, du.but hM hkeep fun ho => hown y k u hg ho hky hru⟩
    · intro y z k j u hyz hgy hgz oy oz hky hkz ry rz
      rw [get_set] at hgy hgz
      by_cases hyx : y = x
      · subst hyx
        rw [if_neg (Ne.symm hyz)] at hgz
        simp at hgy; subst hgy
        obtain ⟨u', hru, _⟩ := S.es.vis z j hgz hkz
        have e1 := (hold z u' (Ne.symm hyz) hkz hru).inj rz
        subst e1
        exact hsep oy z j _ (Ne.symm hyz) hgz oz hkz hru (ry.inj hr)
      · rw [if_neg hyx] at hgy
        obtain ⟨u', hru, _⟩ := S.es.vis y k hgy hky
        have e1 := (hold y u' hyx hky hru).inj ry
        subst e1
        by_cases hzx : z = x
        · subst hzx
          simp at hgz; subst hgz
          exact hsep oz y k _ hyx hgy oy hky hru (rz.inj hr)
        · rw [if_neg hzx] at hgz
          obtain ⟨u'', hru', _⟩ := S.es.vis z j hgz hkz
          have e2 := (hold z u'' hzx hkz hru').inj rz
          subst e2
          exact S.sep y z k j _ hyz hgy hgz oy oz hky hkz hru hru'
    · intro y k u hgy oy hky ry
      rw [get_set] at hgy
      by_cases hyx : y = x
      · subst hyx
        simp at hgy; subst hgy
        rw [ry.inj hr]
        exact hl oy
      · rw [if_neg hyx] at hgy
        obtain ⟨u', hru, _⟩ := S.es.vis y k hgy hky
        have e1 := (hold y u' hyx hky hru).inj ry
        subst e1
        exact S.apart y k _ hgy oy hky hru
  rcases S.fr.reads (v := v) hkx with ⟨m, hlx, hn⟩ | ⟨hcx, c, u, hcl, hcv, hMc⟩
  · refine wpAny_storeName_local hlx hn (fun h' hn' hs' => ?_) hp
    refine fin env.locals h' _ S.fr.loc.1 hs' (let ⟨o, _, _, e, _⟩ := hn'; ⟨o, e⟩) (Nat.le_succ_of_le S.es.tok) ⟨⟨S.fr.loc.1, _, hn'⟩, fun y hy => ?_, S.fr.inj, S.fr.noFree⟩ ?_ ?_ (fun y k u hg ho hky hr => S.apart y k u hg ho hky hr) hl
    · obtain ⟨c, u, h1, h2, h3⟩ := S.fr.cell y hy
      exact ⟨c, u, h1, h2.sameBut hs' (cell_ne_ns h2 hn), h3⟩
    · unfold ReadsName; rw [hlx]; exact ⟨_, hn', by simp⟩
    · intro y u hyx hky hr
      unfold ReadsName at hr ⊢
      cases hkk : env.kindOf y with
      | none => rw [hkk] at hky; cases hky
      | some kk =>
        rw [hkk] at hr
        cases kk with
        | «local» =>
          obtain ⟨m', hn2, e⟩ := hr
          refine ⟨_, hn', ?_⟩
          rw [if_neg hyx]
          obtain ⟨o, es, ep, g, hd, _, hf⟩ := hn
          obtain ⟨o', es', ep', g', hd', _, hf'⟩ := hn2
          rw [g] at g'; cases g'
          rw [hd] at hd'; cases hd'
          rw [← hf y, hf' y, e]
        | cell => obtain ⟨c, hc, hv⟩ := hr; exact ⟨c, hc, hv.sameBut hs' (cell_ne_ns hv hn)⟩
        | free => exact absurd hkk (S.fr.noFree y)
        | _ => exact hr.elim
  · obtain ⟨m, hn⟩ := S.fr.loc.2
    refine wpAny_with_toks (Nat.le_refl _) (wpAny_storeName_cell hfn hcx hcl hcv fun h' hv' hs' htk => ?_)
    have hcn := cell_ne_ns hcv hn
    refine fin c h' _ hMc hs' (let ⟨o, e, _⟩ := hv'; ⟨o, e⟩) (Nat.le_trans S.es.tok htk) ⟨⟨S.fr.loc.1, m, hn.sameBut hs' (Ne.symm hcn)⟩, fun y hy => ?_, S.fr.inj, S.fr.noFree⟩ ?_ ?_ ?_ ?_
    · obtain ⟨c', u', h1, h2, h3⟩ := S.fr.cell y hy
      by_cases hcc : c' = c
      · subst hcc; exact ⟨c', _, h1, hv', h3⟩
      · exact ⟨c', u', h1, h2.sameBut hs' hcc, h3⟩
    · unfold ReadsName; rw [hcx]; exact ⟨c, hcl, hv'⟩
    · intro y u' hyx hky hr
      unfold ReadsName at hr ⊢
      cases hkk : env.kindOf y with
      | none => rw [hkk] at hky; cases hky
      | some kk =>
        rw [hkk] at hr
        cases kk with
        | «local» =>
          obtain ⟨m', hn2, e⟩ := hr
          exact ⟨m', hn2.sameBut hs' (Ne.symm (cell_ne_ns hcv hn2)), e⟩
        | cell =>
          obtain ⟨c', hc', hv2⟩ := hr
          refine ⟨c', hc', hv2.sameBut hs' ?_⟩
          rintro rfl
          exact hyx (S.fr.inj y x _ hkk hcx hc' hcl)
        | free => exact absurd hkk (S.fr.noFree y)
        | _ => exact hr.elim
    · intro y k u' hg ho hky hr
      obtain ⟨u2, hr2, d2⟩ := S.es.vis y k hg hky
      rw [hr.inj hr2]
      exact d2.no_cell hcv ho
    · exact fun ho => dv.no_cell hcv ho
end
end Mine
namespace Mine

section
variable {W : Wd} {A : Around} {d : Nat} {X M M' : Excl} {env : Env} {sc : Sc} {σ : Loc} {s s' : Shared} {E : Value → Shared → Prop} {Q : Value → Shared → Prop} {K : PV → Prop} {G : GC} {r : WE} {t : WT} {scope : Scope} {x : Str}

theorem LDen.mono {P : Program} {w : World} {X X' M M' : Excl} {h h' : Heap} {l : LV} {v : Value} (hM : ∀ a o, M a → h.get? a = some o → v = .ref a → isOwn l = true → M' a) (hk : ∀ b o, h.get? b = some o → h'.get? b = some o) (hx : ∀ a o, ¬ X a → h.get? a = some o → ¬ X' a)
    (d : LDen P w X M h l v) : LDen P w X' M' h' l v := by
  have hmv : ∀ a o, ¬ X a → h.get? a = some o → ¬ X' a ∧ h'.get? a = some o := fun a o ha e => ⟨hx a o ha e, hk a o e⟩
  cases l with
  | val p => exact Den.move hmv d
  | is u p => exact ⟨d.1, d.2.move hmv⟩
  | own vs => obtain ⟨hz, a, us, n, rfl, m, g, dl⟩ := d; exact ⟨hz, a, us, n, rfl, hM a _ m g rfl rfl, hk _ _ g, dl.move hmv⟩
  | ownd es =>
    obtain ⟨hz, a, us, rfl, m, g, e2, dl⟩ := d
    refine ⟨hz, a, us, rfl, ?_, g.keep hk, e2, dl.move hmv⟩
    obtain ⟨o, es', ep, ho, _⟩ := g
    exact hM a _ m ho rfl rfl

noncomputable def Plus (M : Excl) (a : Addr) : Excl := fun b => M b ∨ b = a
noncomputable def Minus (M : Excl) (a : Addr) : Excl := fun b => M b ∧ b ≠ a

theorem SS.grow {a : Addr} {o : Obj} (S : SS W A d X M env sc σ s) (k : Keeps s s') (t : s.toks ≤ s'.toks) (hn : s.heap.get? a = none) (ha : s'.heap.get? a = some o) : SS W A d X (Plus M a) env sc σ s' ∧ Mut M (Plus M a) s s' := by
  have hne : ∀ b ob, s.heap.get? b = some ob → b ≠ a := by rintro b ob e rfl; rw [hn] at e; cases e
  refine ⟨⟨⟨S.es.room, fun b ob e => keeps_mem k b ob (S.es.top b ob e), S.es.eok, ?_, fun b hb => .inr hb, ?_, Nat.le_trans S.es.tok t⟩, ?_, S.sep.keeps (keeps_mem k) S.es.vis.reads, S.apart.keeps (keeps_mem k) S.es.vis.reads, ?_, ?_, S.lw⟩, ?_⟩
  · rintro b (hb | hb | rfl)
    · obtain ⟨ob, e⟩ := S.es.xlt b (.inl hb); exact ⟨ob, keeps_mem k _ _ e⟩
    · obtain ⟨ob, e⟩ := S.es.xlt b (.inr hb); exact ⟨ob, keeps_mem k _ _ e⟩
    · exact ⟨o, ha⟩
  · intro y l hg hky
    obtain ⟨v, hr, dv⟩ := S.es.vis y l hg hky
    refine ⟨v, hr.keeps (keeps_mem k), dv.mono (fun b _ hb _ _ _ => .inl hb) (keeps_mem k) fun b ob hb e => ?_⟩
    rintro (h1 | h1 | h1)
    · exact hb (.inl h1)
    · exact hb (.inr h1)
    · exact hne b ob e h1
  · have F := S.fr.keeps (keeps_mem k)
    exact ⟨⟨.inl F.loc.1, F.loc.2⟩, fun y hy => let ⟨c, v, h1, h2, h3⟩ := F.cell y hy; ⟨c, v, h1, h2, .inl h3⟩, F.inj, F.noFree⟩
  · rintro b ob e (hb | rfl)
    · exact S.mtop b ob e hb
    · exact hne _ _ (S.es.top _ _ e) rfl
  · rintro b (hb | rfl) hx
    · exact S.m0 b hb hx
    · obtain ⟨ob, e⟩ := S.es.xlt _ (.inl hx)
      exact hne _ _ e rfl
  · obtain ⟨h', tk, rfl, hk⟩ := k
    refine ⟨h', tk, rfl, fun b ob hb e => ⟨?_, hk b ob e⟩⟩
    rintro (h1 | h1)
    · exact hb h1
    · exact hne b ob e h1

theorem own_addr {P : Program} {w : World} {h : Heap} {l : LV} {v : Value} (ho : isOwn l = true) (d : LDen P w X M h l v) : ∃ a o, v = .ref a ∧ M a ∧ h.get? a = some o := by
  cases l with
  | val p => cases ho
  | is u p => cases ho
  | own vs => obtain ⟨_, a, us, n, rfl, m, g, _⟩ := d; exact ⟨a, _, rfl, m, g⟩
  | ownd es => obtain ⟨_, a, us, rfl, m, ⟨o, es', ep, g, _⟩, _⟩ := d; exact ⟨a, _, rfl, m, g⟩

/-- a read stands while an own object is changed -/
theorem ReadsName.but {h h' : Heap} {a : Addr} {y : Str} {v : Value} (hk : ∀ b o, b ≠ a → h.get? b = some o → h'.get? b = some o) (hL : a ≠ env.locals) (hC : ∀ c u, h.IsCell c u → a ≠ c) (hr : ReadsName env h y v) : ReadsName env h' y v := by
  have cellCase : ∀ {c : Addr}, h.IsCell c (some v) → h'.IsCell c (some v) := fun {c} hv => by
    obtain ⟨o, g, e⟩ := id hv
    exact ⟨o, hk c o (Ne.symm (hC c _ hv)) g, e⟩
  unfold ReadsName at hr ⊢
  split at hr
  · obtain ⟨m, hn, e⟩ := hr
    exact ⟨m, hn.at' fun o e => hk _ o (Ne.symm hL) e, e⟩
  · obtain ⟨c, hc, hv⟩ := hr; exact ⟨c, hc, cellCase hv⟩
  · obtain ⟨c, hc, hv⟩ := hr; exact ⟨c, hc, cellCase hv⟩
  · exact hr.elim

theorem SS.touch {a : Addr} {l l' : LV} {h' : Heap} {tk : Nat} (S : SS W A d X M env sc σ s) (hk : kd sc x = some .loc) (hg : get σ x = some l) (ho : isOwn l = true) (hr : ReadsName env s.heap x (.ref a)) (hs : Heap.SameBut a s.heap h') (hal : ∃ o, h'.get? a = some o)
    (ht : 1 ≤ tk) (dl : LDen W.prog W.w (Un X M) M h' l' (.ref a)) : SS W A d X M env sc (set σ x l') { s with heap := h', toks := tk } ∧ Mut M M s { s with heap := h', toks := tk } := by
  have hkx : vkOf (env.kindOf x) = some .loc := by rw [S.es.eok.names, hk]
  have hkeep : ∀ b o, b ≠ a → s.heap.get? b = some o → h'.get? b = some o := fun b o hb e => by rw [hs.2 b hb]; exact e
  obtain ⟨v, hr', dv⟩ := S.es.vis x l hg hkx
  have := hr'.inj hr
  subst this
  obtain ⟨a', o, ea, hM, hget⟩ := own_addr ho dv
  cases ea
  have hL : a ≠ env.locals := fun q => S.apart x l _ hg ho hkx hr (by rw [q])
  have hC : ∀ c u, s.heap.IsCell c u → a ≠ c := fun c u hc q => dv.no_cell hc ho (by rw [q])
  have old : ∀ y u, ReadsName env s.heap y u → ReadsName env h' y u := fun y u hy => hy.but hkeep hL hC
  refine ⟨⟨⟨S.es.room, fun b o e => hkeep b o (fun q => S.mtop b o e (q ▸ hM)) (S.es.top b o e), S.es.eok, ?_, S.es.mx, ?_, ht⟩, ?_, ?_, ?_, S.mtop, S.m0, S.lw⟩, ⟨h', tk, rfl, fun b o hb e => ⟨hb, hkeep b o (fun q => hb (q ▸ hM)) e⟩⟩⟩
  · intro b hb
    by_cases hba : b = a
    · subst hba; exact hal
    · obtain ⟨o, e⟩ := S.es.xlt b hb; exact ⟨o, hkeep b o hba e⟩
  · intro y k hgy hky
    rw [get_set] at hgy
    by_cases hyx : y = x
    · subst hyx
      simp at hgy; subst hgy
      exact ⟨_, old _ _ hr, dl⟩
    · rw [if_neg hyx] at hgy
      obtain ⟨u, hru, du⟩ := S.es.vis y k hgy hky
      exact ⟨u, old y u hru, du.but hM hkeep fun oy q => S.sep y x k l (.ref a) hyx hgy hg oy ho hky hkx (q ▸ hru) hr⟩
  · refine ⟨⟨S.fr.loc.1, let ⟨m, hn⟩ := S.fr.loc.2; ⟨m, hn.at' fun o e => hkeep _ o (Ne.symm hL) e⟩⟩, fun y hy => ?_, S.fr.inj, S.fr.noFree⟩
    obtain ⟨c, u, h1, h2, h3⟩ := S.fr.cell y hy
    obtain ⟨o, g, e⟩ := id h2
    exact ⟨c, u, h1, ⟨o, hkeep c o (Ne.symm (hC c u h2)) g, e⟩, h3⟩
  · intro y z k j u hyz hgy hgz oy oz hky hkz ry rz
    have back : ∀ w k, get (set σ x l') w = some k → isOwn k = true → vkOf (env.kindOf w) = some .loc → ReadsName env h' w u → ∃ k', get σ w = some k' ∧ isOwn k' = true ∧ ReadsName env s.heap w u := by
      intro w k hgw ow hkw rw'
      rw [get_set] at hgw
      by_cases hwx : w = x
      · subst hwx
        have := rw'.inj (old _ _ hr)
        subst this
        exact ⟨l, hg, ho, hr⟩
      · rw [if_neg hwx] at hgw
        obtain ⟨u', hru, _⟩ := S.es.vis w k hgw hkw
        have := (old w u' hru).inj rw'
        subst this
        exact ⟨k, hgw, ow, hru⟩
    obtain ⟨k', g1, o1, r1⟩ := back y k hgy oy hky ry
    obtain ⟨j', g2, o2, r2⟩ := back z j hgz oz hkz rz
    exact S.sep y z k' j' u hyz g1 g2 o1 o2 hky hkz r1 r2
  · intro y k u hgy oy hky ry
    rw [get_set] at hgy
    by_cases hyx : y = x
    · subst hyx
      have := ry.inj (old _ _ hr)
      subst this
      intro q; cases q; exact hL rfl
    · rw [if_neg hyx] at hgy
      obtain ⟨u', hru, _⟩ := S.es.vis y k hgy hky
      have := (old y u' hru).inj ry
      subst this
      exact S.apart y k _ hgy oy hky hru

/-- an own list is given away: from here on nothing writes it -/
theorem SS.freeze {vs : List PV} (S : SS W A d X M env sc σ s) (hk : kd sc x = some .loc) (hg : get σ x = some (.own vs)) : ∃ M', SS W A d X M' env sc (set σ x (.val (.list vs))) s ∧ Mut M M' s s := by
  have hkx : vkOf (env.kindOf x) = some .loc := by rw [S.es.eok.names, hk]
  obtain ⟨v, hr, hz, a, us, n, rfl, hM, ho, dl⟩ := S.es.vis x _ hg hkx
  have dv : LDen W.prog W.w (Un X M) M s.heap (.own vs) (.ref a) := ⟨hz, a, us, n, rfl, hM, ho, dl⟩
  have hL : a ≠ env.locals := fun q => S.apart x _ _ hg rfl hkx hr (by rw [q])
  have hC : ∀ c u, s.heap.IsCell c u → c ≠ a := fun c u hc q => dv.no_cell hc rfl (by rw [q])
  have hsub : ∀ b, ¬ Un X M b → ¬ Un X (Minus M a) b := fun b hb q => q.elim (fun q => hb (.inl q)) fun q => hb (.inr q.1)
  have ha : ¬ Un X (Minus M a) a := by
    rintro (h | h)
    · exact S.m0 a hM h
    · exact h.2 rfl
  refine ⟨Minus M a, ⟨⟨S.es.room, S.es.top, S.es.eok, fun b hb => S.es.xlt b (hb.imp id fun h => h.1), fun b hb => .inr hb, ?_, S.es.tok⟩, ?_, ?_, ?_, fun b o e hb => S.mtop b o e hb.1, fun b hb => S.m0 b hb.1, S.lw⟩, ⟨s.heap, s.toks, rfl, fun b o hb e => ⟨fun q => hb q.1, e⟩⟩⟩
  · intro y k hgy hky
    rw [get_set] at hgy
    by_cases hyx : y = x
    · subst hyx
      simp at hgy; subst hgy
      exact ⟨_, hr, mk_list hz ha ho (dl.move fun b o hb e => ⟨hsub b hb, e⟩)⟩
    · rw [if_neg hyx] at hgy
      obtain ⟨u, hru, du⟩ := S.es.vis y k hgy hky
      refine ⟨u, hru, du.mono (fun b o hb e hu oy => ⟨hb, ?_⟩) (fun _ _ e => e) fun b o hb _ => hsub b hb⟩
      rintro rfl
      subst hu
      exact S.sep y x k _ _ hyx hgy hg oy rfl hky hkx hru hr
  · exact ⟨⟨⟨S.fr.loc.1, Ne.symm hL⟩, S.fr.loc.2⟩, fun y hy => let ⟨c, u, h1, h2, h3⟩ := S.fr.cell y hy; ⟨c, u, h1, h2, h3, hC c u h2⟩, S.fr.inj, S.fr.noFree⟩
  · intro y z k j u hyz hgy hgz oy oz hky hkz ry rz
    rw [get_set] at hgy hgz
    by_cases hyx : y = x
    · subst hyx; simp at hgy; subst hgy; cases oy
    · by_cases hzx : z = x
      · subst hzx; simp at hgz; subst hgz; cases oz
      · rw [if_neg hyx] at hgy; rw [if_neg hzx] at hgz
        exact S.sep y z k j u hyz hgy hgz oy oz hky hkz ry rz
  · intro y k u hgy oy hky ry
    rw [get_set] at hgy
    by_cases hyx : y = x
    · subst hyx; simp at hgy; subst hgy; cases oy
    · rw [if_neg hyx] at hgy
      exact S.apart y k u hgy oy hky ry

theorem SS.shield {c : Addr} {o : Obj} (S : SS W A d X M env sc σ s) (k : Keeps s s') (t : 1 ≤ s'.toks) (hn : s.heap.get? c = none) (hc : s'.heap.get? c = some o) : SS W A d (Plus X c) M env sc σ s' ∧ ¬ M c ∧ ¬ X c ∧ W.top.get? c = none := by
  have hne : ∀ b ob, s.heap.get? b = some ob → b ≠ c := by rintro b ob e rfl; rw [hn] at e; cases e
  have hMc : ¬ M c := fun q => let ⟨ob, e⟩ := S.es.xlt c (.inr q); hne _ _ e rfl
  have hXc : ¬ X c := fun q => let ⟨ob, e⟩ := S.es.xlt c (.inl q); hne _ _ e rfl
  have htop : W.top.get? c = none := by
    cases e : W.top.get? c with
    | none => rfl
    | some ob => exact absurd rfl (hne _ _ (S.es.top _ _ e))
  have hx : ∀ b ob, ¬ Un X M b → s.heap.get? b = some ob → ¬ Un (Plus X c) M b := by
    rintro b ob hb e ((q | q) | q)
    · exact hb (.inl q)
    · exact hne b ob e q
    · exact hb (.inr q)
  refine ⟨⟨⟨S.es.room, fun b ob e => keeps_mem k _ _ (S.es.top b ob e), S.es.eok, ?_, fun a ha => .inr ha, ?_, t⟩, S.fr.keeps (keeps_mem k), S.sep.keeps (keeps_mem k) S.es.vis.reads, S.apart.keeps (keeps_mem k) S.es.vis.reads, S.mtop, ?_, S.lw⟩, hMc, hXc, htop⟩
  · rintro a ((q | rfl) | q)
    · obtain ⟨ob, e⟩ := S.es.xlt a (.inl q); exact ⟨ob, keeps_mem k _ _ e⟩
    · exact ⟨o, hc⟩
    · obtain ⟨ob, e⟩ := S.es.xlt a (.inr q); exact ⟨ob, keeps_mem k _ _ e⟩
  · intro y l hg hky
    obtain ⟨v, hr, dv⟩ := S.es.vis y l hg hky
    exact ⟨v, hr.keeps (keeps_mem k), dv.mono (fun a _ ha _ _ _ => ha) (keeps_mem k) hx⟩
  · rintro a ha (q | rfl)
    · exact S.m0 a ha q
    · exact hMc ha
/-- a shielded address may change -/
theorem SS.jolt {c : Addr} {h' : Heap} {tk : Nat} (S : SS W A d (Plus X c) M env sc σ s) (hM : ¬ M c) (hX : ¬ X c) (htop : W.top.get? c = none) (hk : ∀ b o, b ≠ c → s.heap.get? b = some o → h'.get? b = some o) (ht : 1 ≤ tk)
    {X' : Excl} (hX' : X' = X ∨ (X' = Plus X c ∧ ∃ o, h'.get? c = some o)) : SS W A d X' M env sc σ { s with heap := h', toks := tk } := by
  have hMne : ∀ a, M a → a ≠ c := by rintro a ha rfl; exact hM ha
  have hsub : ∀ a, ¬ Un (Plus X c) M a → ¬ Un X' M a ∧ a ≠ c := by
    intro a ha
    refine ⟨?_, fun q => ha (.inl (.inr q))⟩
    rcases hX' with rfl | ⟨rfl, _⟩
    · exact fun q => ha (q.imp .inl id)
    · exact ha
  have hmv : ∀ a o, ¬ Un (Plus X c) M a → s.heap.get? a = some o → ¬ Un X' M a ∧ h'.get? a = some o := fun a o ha e => ⟨(hsub a ha).1, hk a o (hsub a ha).2 e⟩
  have reads : ∀ y u, ReadsName env s.heap y u → vkOf (env.kindOf y) = some .loc → ReadsName env h' y u := by
    intro y u hr hy
    unfold ReadsName at hr ⊢
    cases hkk : env.kindOf y with
    | none => rw [hkk] at hr; exact hr.elim
    | some kk =>
      rw [hkk] at hr
      cases kk with
      | «local» => obtain ⟨m, hn, e⟩ := hr; exact ⟨m, hn.at' fun o e => hk _ o (hMne _ S.fr.loc.1) e, e⟩
      | cell =>
        obtain ⟨c', v', h1, h2, h3⟩ := S.fr.cell y hkk
        obtain ⟨c2, hc2, o, g, e⟩ := hr
        rw [h1] at hc2; cases hc2
        exact ⟨c', h1, o, hk _ o (hMne _ h3) g, e⟩
      | free => exact absurd hkk (S.fr.noFree y)
      | _ => exact hr.elim
  refine ⟨⟨S.es.room, fun b ob e => hk b ob (by rintro rfl; rw [htop] at e; cases e) (S.es.top b ob e), S.es.eok, ?_, fun a ha => .inr ha, ?_, ht⟩, ?_, ?_, ?_, S.mtop, ?_, S.lw⟩
  · intro a ha
    by_cases hac : a = c
    · subst hac
      rcases hX' with rfl | ⟨rfl, h⟩
      · exact (ha.elim hX hM).elim
      · exact h
    · have : Un (Plus X c) M a := by
        rcases hX' with rfl | ⟨rfl, _⟩
        · exact ha.imp .inl id
        · exact ha
      obtain ⟨o, e⟩ := S.es.xlt a this
      exact ⟨o, hk a o hac e⟩
  · intro y l hg hky
    obtain ⟨v, hr, dv⟩ := S.es.vis y l hg hky
    refine ⟨v, reads y v hr hky, ?_⟩
    cases l with
    | val p => exact Den.move hmv dv
    | is u p => exact ⟨dv.1, dv.2.move hmv⟩
    | own vs => obtain ⟨hz, a, us, n, rfl, m, g, dl⟩ := dv; exact ⟨hz, a, us, n, rfl, m, hk _ _ (hMne _ m) g, dl.move hmv⟩
    | ownd es =>
      obtain ⟨hz, a, us, rfl, m, ⟨o, es', ep, ho, rr⟩, e2, dl⟩ := dv
      exact ⟨hz, a, us, rfl, m, ⟨o, es', ep, hk _ _ (hMne _ m) ho, rr⟩, e2, dl.move hmv⟩
  · refine ⟨⟨S.fr.loc.1, let ⟨m, hn⟩ := S.fr.loc.2; ⟨m, hn.at' fun o e => hk _ o (hMne _ S.fr.loc.1) e⟩⟩, fun y hy => ?_, S.fr.inj, S.fr.noFree⟩
    obtain ⟨c', u, h1, ⟨o, g, e⟩, h3⟩ := S.fr.cell y hy
    exact ⟨c', u, h1, ⟨o, hk c' o (hMne _ h3) g, e⟩, h3⟩
  · intro y z l k v hyz hgy hgz oy oz hky hkz ry rz
    obtain ⟨u, hru, _⟩ := S.es.vis y l hgy hky
    obtain ⟨u', hru', _⟩ := S.es.vis z k hgz hkz
    have e1 := (reads y u hru hky).inj ry
    have e2 := (reads z u' hru' hkz).inj rz
    subst e1; subst e2
    exact S.sep y z l k _ hyz hgy hgz oy oz hky hkz hru hru'
  · intro y l v hgy oy hky ry
    obtain ⟨u, hru, _⟩ := S.es.vis y l hgy hky
    have e1 := (reads y u hru hky).inj ry
    subst e1
    exact S.apart y l _ hgy oy hky hru
  · intro a ha q
    rcases hX' with rfl | ⟨rfl, _⟩
    · exact S.m0 a ha (.inl q)
    · exact S.m0 a ha q

/-- a value of a shielded state -/
theorem den_jolt {w : World} {c : Addr} {h h' : Heap} {p : PV} {v : Value} (hk : ∀ b o, b ≠ c → h.get? b = some o → h'.get? b = some o) (dv : Den w (Un (Plus X c) M) h p v) : Den w (Un X M) h' p v :=
  dv.move fun a o ha e => ⟨fun q => ha (q.imp .inl id), hk a o (fun q => ha (.inl (.inr q))) e⟩
end
end Mine
namespace Mine

inductive FP where
  | next | brk | cont
  | ret (p : PV)
noncomputable def FDen (w : World) (X : Excl) (h : Heap) : FP → Flow → Prop
  | .next, f => f = .next
  | .brk, f => f = .brk
  | .cont, f => f = .cont
  | .ret p, f => ∃ v, f = .ret v ∧ Den w X h p v
noncomputable abbrev WS := Sc → Stmt → Loc → (FP → Loc → Prop) → Prop
noncomputable abbrev WB := Sc → List Stmt → Loc → (FP → Loc → Prop) → Prop

noncomputable def SPost (W : Wd) (A : Around) (d : Nat) (X M : Excl) (env : Env) (sc : Sc) (s : Shared) (K : FP → Loc → Prop) (Q : Flow → Shared → Prop) : Prop :=
  ∀ fp f σ' M' s', K fp σ' → SS W A d X M' env sc σ' s' → Mut M M' s s' → FDen W.w (Un X M') s'.heap fp f → Q f s'
noncomputable def BOk (W : Wd) (d : Nat) (f : WB) : Prop :=
  ∀ A E s X M env sc b σ K Q, SS W A d X M env sc σ s → f sc b σ K → SPost W A d X M env sc s K Q → wpAny W.M A (execs b env) Q E s
noncomputable def StOk (W : Wd) (d : Nat) (f : WS) : Prop :=
  ∀ A E s X M env sc b σ K Q, SS W A d X M env sc σ s → f sc b σ K → SPost W A d X M env sc s K Q → wpAny W.M A (exec b env) Q E s

section
variable {W : Wd} {A : Around} {d : Nat} {X M M' : Excl} {env : Env} {sc : Sc} {σ : Loc} {s s' : Shared} {E : Value → Shared → Prop} {Q : Flow → Shared → Prop} {K : FP → Loc → Prop} {G : GC} {r : WE} {t : WT} {b : WB} {x : Str}

theorem SPost.after (h : SPost W A d X M env sc s K Q) (m : Mut M M' s s') : SPost W A d X M' env sc s' K Q :=
  fun fp f σ' M2 s2 hk hs hm hf => h fp f σ' M2 s2 hk hs (m.trans hm) hf

noncomputable def blockW (st : WS) (sc : Sc) (b : List Stmt) : Loc → (FP → Loc → Prop) → Prop :=
  List.rec (motive := fun _ => Loc → (FP → Loc → Prop) → Prop) (fun σ K => K .next σ) (fun x _ ih σ K => st sc x σ fun fp σ' => match fp with
    | .next => ih σ' K
    | fp => K fp σ') b
noncomputable def blockB (st : WS) : WB := fun sc b σ K => blockW st sc b σ K
theorem block_ok {st : WS} (h : StOk W d st) : BOk W d (blockB st) := by
  intro A E s X M env sc b σ K Q S hb hq
  unfold blockB at hb
  induction b generalizing s M σ with
  | nil => exact wpAny_execs_nil (hq .next .next σ M s hb S (Mut.refl M s) rfl)
  | cons x rest ih =>
    refine wpAny_execs_cons (h A E s X M env sc x σ _ _ S hb fun fp f σ' M' s' hk hs hm hf => ?_)
    cases fp with
    | next =>
      cases hf
      exact ih (σ := σ') (M := M') (s := s') hs hk (hq.after hm)
    | brk => cases hf; exact hq _ _ _ _ _ hk hs hm rfl
    | cont => cases hf; exact hq _ _ _ _ _ hk hs hm rfl
    | ret p => obtain ⟨v, rfl, dv⟩ := hf; exact hq _ _ _ _ _ hk hs hm ⟨v, rfl, dv⟩

theorem store_val {v : Value} {p : PV} {Qs : Unit → Shared → Prop} (S : SS W A d X M env sc σ s) (hk : kd sc x = some .loc) (dv : Den W.w (Un X M) s.heap p v)
    (hq : ∀ s', SS W A d X M env sc (set σ x (.val p)) s' → Mut M M s s' → Qs () s') : wpAny W.M A (storeName env x v) Qs E s :=
  store_name_ok (l := .val p) S hk dv (fun h => nomatch h) (fun h => nomatch h) hq

noncomputable def isLoc (sc : Sc) (x : Str) : Bool := match kd sc x with | some .loc => true | _ => false
theorem isLoc_iff {sc : Sc} {x : Str} (h : isLoc sc x = true) : kd sc x = some .loc := by
  unfold isLoc at h
  split at h
  · assumption
  · cases h

noncomputable def noComp : Expr → Bool
  | .ListComp .. | .SetComp .. | .DictComp .. => false
  | _ => true
theorem swaps_no {value : Expr} {target : Option Expr} {line : Nat} (h : noComp value = true) : swapsWith value target line env = pure false := by
  cases value <;> first | rfl | cases h
noncomputable def lcOf? (e : Expr) : Option (Expr × List Comprehension × Scope × Pos) := match e with | .ListComp elt gens scope pos => some (elt, gens, scope, pos) | _ => none
theorem lcOf?.inv {e : Expr} {q : Expr × List Comprehension × Scope × Pos} (h : lcOf? e = some q) : e = .ListComp q.1 q.2.1 q.2.2.1 q.2.2.2 := by
  cases e <;> first | exact nsome h | (cases h; rfl)
noncomputable def compOf? (value : Expr) : Option (Expr × ((Str × Pos) × Expr × List Expr) × Scope × Pos) := ob (lcOf? value) fun l => ob (genOf? l.2.1) fun q => some (l.1, q, l.2.2.1, l.2.2.2)
theorem compOf?.inv {value : Expr} {c : Expr × ((Str × Pos) × Expr × List Expr) × Scope × Pos} (h : compOf? value = some c) : value = .ListComp c.1 [⟨.Name c.2.1.1.1 c.2.1.1.2, c.2.1.2.1, c.2.1.2.2, 0⟩] c.2.2.1 c.2.2.2 := by
  obtain ⟨l, h1, h⟩ := ob.inv h
  obtain ⟨q, h2, h⟩ := ob.inv h
  rw [lcOf?.inv h1, genOf?.inv h2, ← Option.some.inj h]
  all_goals rfl
noncomputable def assignW (r : WE) (t : WT) (sc : Sc) (σ : Loc) (x : Str) (value : Expr) (K : FP → Loc → Prop) : Prop :=
  gd (isLoc sc x) (match compOf? value with
    | some c => compW r t sc σ c.1 c.2.1.2.1 c.2.1.1.1 c.2.1.2.2 c.2.2.1 fun p => K .next (set σ x (.val p))
    | none => gd (noComp value) (r sc value σ fun p => K .next (set σ x (.val p))))
theorem assign_ok {value : Expr} {px pos : Pos} (hr : EOk W d r) (ht : TOk W d t) (S : SS W A d X M env sc σ s) (h : assignW r t sc σ x value K) (hq : SPost W A d X M env sc s K Q) :
    wpAny W.M A (exec (.Assign [.Name x px] value pos) env) Q E s := by
  obtain ⟨hx, h2⟩ := gd.inv h
  clear h
  have hk := isLoc_iff hx
  cases hc : compOf? value with
  | some c =>
    rw [hc] at h2
    have h := h2
    obtain ⟨elt, ⟨⟨y, py⟩, iter, ifs⟩, scope, cpos⟩ := c
    cases compOf?.inv hc
    clear h2 hc
    have hsw : ∃ b, swapsWith (.ListComp elt [⟨.Name y py, iter, ifs, 0⟩] scope cpos) (some (.Name x px)) pos.line env = pure b := ⟨_, rfl⟩
    obtain ⟨bb, hsw⟩ := hsw
    cases bb with
    | false =>
      refine wpAny_Assign_Name (wpAny_with_toks (Nat.le_refl _) (listcomp_ok hr ht S.es h fun v p s1 hp k1 d1 t1 => ?_)) hsw
      exact store_val (S.after k1 t1) hk d1 fun s2 S2 m2 => hq _ _ _ _ _ hp S2 ((Mut.of_keeps k1).trans m2) rfl
    | true =>
      rw [exec_Assign_Name_used _ _ _ _ hsw]
      refine wpAny_bind (wpAny_standAt (wpAny_bind ?_))
      show wpAny _ A (do let _ ← comprehension (.ListComp elt [⟨.Name y py, iter, ifs, 0⟩] scope cpos) scope env _ (newList []) false (eval iter env) (some (assign (.Name x px) env))) _ _ s
      refine wpAny_bind (wpAny_mono (comp_gen (use := some (assign (.Name x px) env)) (Q := fun _ s' => Q .next s') hr ht S.es h fun ys acc C s1 hp k1 t1 hns hC hden => ?_) (fun _ s' hq => wpAny_pure (wpAny_pure hq)) fun _ _ e => e)
      obtain ⟨m, hn⟩ := hns
      obtain ⟨o, _, _, hCo, _⟩ := id hn
      obtain ⟨S1, hMC, hXC, htop⟩ := S.shield k1 t1 hC hCo
      have hden' : Den W.w (Un (Plus X C) M) s1.heap (.list ys) acc := hden.move fun a o ha e => ⟨fun q => ha (q.elim (fun q => q.elim (fun q => .inl (.inl q)) .inr) fun q => .inl (.inr q)), e⟩
      show wpAny _ A (assign (.Name x px) env acc) _ _ _
      refine wpAny_assign_Name (wpAny_with_toks t1 (store_val S1 hk hden' fun s2 S2 m2 t2 => ?_))
      refine ⟨m, hn.at' fun o e => (m2.mem _ o hMC e).2, fun h' hs' => ?_⟩
      have hkp : ∀ b o, b ≠ C → s2.heap.get? b = some o → h'.get? b = some o := fun b o hb e => by rw [hs'.2 b hb]; exact e
      have S3 := S2.jolt (tk := s2.toks) (h' := h') hMC hXC htop hkp t2 (.inl rfl)
      refine hq .next _ _ _ _ hp S3 ?_ rfl
      obtain ⟨h2, tk2, rfl, m2⟩ := m2
      obtain ⟨h1, tk1, rfl, k1⟩ := k1
      refine ⟨h', tk2, rfl, fun b o hb e => ⟨hb, hkp b o (by rintro rfl; rw [hC] at e; cases e) (m2 b o hb (k1 b o e)).2⟩⟩
  | none =>
    rw [hc] at h2
    obtain ⟨hn, h⟩ := gd.inv h2
    refine wpAny_Assign_Name (hr.tk S.es h fun v p s1 hp k1 t1 d1 => ?_) (swaps_no hn)
    exact store_val (S.after k1 t1) hk d1 fun s2 S2 m2 => hq _ _ _ _ _ hp S2 ((Mut.of_keeps k1).trans m2) rfl

end
end Mine
namespace Mine

section
variable {W : Wd} {A : Around} {d : Nat} {X M M' : Excl} {env : Env} {sc : Sc} {σ : Loc} {s s' : Shared} {E : Value → Shared → Prop} {Q : Flow → Shared → Prop} {K : FP → Loc → Prop} {G : GC} {r : WE} {t : WT} {b : WB} {x : Str}

/-- an item of a plain list is stored: the list is plain after it -/
theorem set_plain {l : Addr} {us : List Value} {n : Nat} {k : Int} {tk : Tok} {v : Value} {Qs : Unit → Shared → Prop} (hl : s.heap.get? l = some (lstObj us n)) (h0 : 0 ≤ k) (hn : k < us.length) (hz : us.length ≤ sizeLine)
    (hq : ∀ h' n', h'.get? l = some (lstObj (us.set k.toNat v) n') → Heap.SameBut l s.heap h' → Qs () { s with heap := h' }) : wpAny W.M A (setItem (.ref l) (.int k tk) v) Qs E s := by
  have hL := lst_isList hl
  have hfit : k < 2 ^ 63 := by have := sizeLine_fit hz; omega
  have hj : k.toNat < us.toArray.size := by simp; omega
  unfold setItem
  with_reducible refine wpAny_holding ?_
  refine wpAny_bind (wpAny_sequenceKey hL.typeIs (by decide) ?_)
  refine wpAny_bind (wpAny_callSpecial?_slot (name := Str.ofString "__setitem__") hL.typeIs slot_list_setitem (wpAny_call_entry slot_list_setitem hL.typeIs entry_list_setitem ?_ (args_list_setitem _ _ _)))
  show wpAny _ _ (Builtin.List.listSubscript? (.int k tk) >>= _) _ _ s
  refine wpAny_bind (wpAny_listSubscript_int (fitsIndex_of h0 hfit) ?_)
  have hk : ∃ j : Nat, k = j := ⟨k.toNat, by omega⟩
  obtain ⟨j, rfl⟩ := hk
  have hj' : us.toArray[j]? = some us.toArray[j] := Array.getElem?_eq_getElem (by simpa using hj)
  show wpAny _ _ ((seqItemAt l j >>= fun r => pure (r.map (j, ·))) >>= _) _ _ s
  refine wpAny_bind (wpAny_bind (wpAny_seqItemAt hl rfl (wpAny_pure ?_)))
  rw [hj']
  show wpAny _ _ (setSeqItemAt l j v >>= _) _ _ s
  have up : (s.heap.update l (Obj.mapSeq (·.setIfInBounds j v))).get? l = some (lstObj (us.set j v) (if (us.toArray.setIfInBounds j v).size == us.toArray.size then n else n + 1)) := by
    have := IsL.update (h := s.heap) (l := l) (items := us.toArray) (n := n) hl (·.setIfInBounds j v)
    rw [show IsL _ _ _ _ = _ from rfl] at this
    rw [this]
    simp [lstObj]
  refine wpAny_bind (wpAny_setSeqItemAt hl rfl ?_)
  exact wpAny_pure ⟨.none, rfl, wpAny_pure (hq _ _ up (Heap.SameBut.update ..))⟩
end
end Mine
namespace Mine

section
variable {W : Wd} {A : Around} {d : Nat} {X M M' : Excl} {env : Env} {sc : Sc} {σ : Loc} {s s' : Shared} {E : Value → Shared → Prop} {Q : Flow → Shared → Prop} {K : FP → Loc → Prop} {G : GC} {r : WE} {t : WT} {b : WB} {x : Str}

theorem SPost.keeps (h : SPost W A d X M env sc s K Q) (k : Keeps s s') : SPost W A d X M env sc s' K Q := h.after (Mut.of_keeps k)

noncomputable def itemStoreW (r : WE) (sc : Sc) (σ : Loc) (x : Str) (i value : Expr) (K : FP → Loc → Prop) : Prop :=
  gd (isLoc sc x) (gd (noComp value) (r sc value σ fun p => gs (get σ x) fun l => match l with
    | .own vs => r sc i σ fun q => asI q fun k => Ob (0 ≤ k ∧ k < vs.length) (K .next (set σ x (.own (vs.set k.toNat p))))
    | .ownd es => r sc i σ fun q => asS q fun k => Ob (es.length < 1000) (K .next (set σ x (.ownd (storeS es k p))))
    | _ => False))

theorem denL_set {w : World} {h : Heap} {p : PV} {v : Value} (dv : Den w X h p v) : ∀ {ps : List PV} {vs : List Value} (i : Nat), DenL w X h ps vs → DenL w X h (ps.set i p) (vs.set i v)
  | [], vs, i, dl => by cases dl.inv_nil; exact .nil
  | q :: ps, vs, 0, dl => by obtain ⟨u, r, rfl, d1, d2⟩ := dl.inv_cons; exact .cons dv d2
  | q :: ps, vs, i + 1, dl => by obtain ⟨u, r, rfl, d1, d2⟩ := dl.inv_cons; exact .cons d1 (denL_set dv i d2)

theorem itemStore_ok {i value : Expr} {p sp pos : Pos} (hr : EOk W d r) (S : SS W A d X M env sc σ s) (h : itemStoreW r sc σ x i value K) (hq : SPost W A d X M env sc s K Q) :
    wpAny W.M A (exec (.Assign [.Subscript (.Name x p) i sp] value pos) env) Q E s := by
  obtain ⟨hx, h2⟩ := gd.inv h
  obtain ⟨hnc, h3⟩ := gd.inv h2
  · have hk := isLoc_iff hx
    refine wpAny_Assign_Subscript (hr.tk S.es h3 fun v pv s1 h1 k1 t1 d1 => ?_) (swaps_no hnc)
    have S1 := S.after k1 t1
    obtain ⟨l, hg, h1⟩ := gs.inv h1
    cases l with
    | own vs =>
      obtain ⟨u, hrn, hz, a, us, n, rfl, hM, ho, dl⟩ := S1.es.vis x _ hg (by rw [S1.es.eok.names, hk])
      refine wpAny_Name (reads_wp S1.es.eok hrn ?_ (S1.es.eok.ne_class hk)) (S1.es.eok.ne_debug hk)
      refine hr.tk S1.es h1 fun u q s2 h2 k2 t2 d2 => ?_
      have S2 := S1.after k2 t2
      obtain ⟨k, rfl, h2⟩ := asI.inv h2
      · skip
        obtain ⟨⟨h0, hlt⟩, h2⟩ := h2.elim
        obtain ⟨tk, rfl⟩ := den_int d2
        have hlen := dl.length
        refine set_plain (keeps_mem k2 _ _ ho) h0 (by omega) (by omega) fun h' n' hg' hs' => ?_
        have hrn2 := hrn.keeps (keeps_mem k2)
        have dl2 := (denL_set (d1.keeps (keeps_mem k2)) k.toNat (dl.keeps (keeps_mem k2)))
        have mv : ∀ c o, ¬ Un X M c → s2.heap.get? c = some o → ¬ Un X M c ∧ h'.get? c = some o := fun c o hc e => ⟨hc, by rw [hs'.2 c (by rintro rfl; exact hc (.inr hM))]; exact e⟩
        obtain ⟨S3, m3⟩ := S2.touch (tk := s2.toks) (l' := .own (vs.set k.toNat pv)) hk hg rfl hrn2 hs' ⟨_, hg'⟩ S2.es.tok ⟨by simpa using hz, a, _, n', rfl, hM, hg', dl2.move mv⟩
        exact hq _ _ _ _ _ h2 S3 ((Mut.of_keeps (keeps_trans k1 k2)).trans m3) rfl
    | ownd es =>
      obtain ⟨u, hrn, hz, a, kvs, rfl, hM, ho, he, dl⟩ := S1.es.vis x _ hg (by rw [S1.es.eok.names, hk])
      refine wpAny_Name (reads_wp S1.es.eok hrn ?_ (S1.es.eok.ne_class hk)) (S1.es.eok.ne_debug hk)
      refine hr.tk S1.es h1 fun u q s2 h2 k2 t2 d2 => ?_
      have S2 := S1.after k2 t2
      obtain ⟨k, rfl, h2⟩ := asS.inv h2
      · skip
        obtain ⟨hlt, h2⟩ := h2.elim
        obtain ⟨_, tk, rfl⟩ := den_str d2
        have ho2 := ho.keep (keeps_mem k2)
        have hkl : kvs.length ≤ sizeLine := by
          have := congrArg List.length he
          simp at this
          have := sizeLine_eq
          omega
        refine wpAny_with_toks (Nat.le_refl _) (wpAny_setItem_pairs (strKind_is _ _ k tk) ho2 (fun h' hm' hs' => ?_) hkl)
        intro htk
        obtain ⟨ob, _, _, hob, _⟩ := id hm'
        have hrn2 := hrn.keeps (keeps_mem k2)
        have hnd : (kvs.map (·.1)).Nodup := let ⟨_, _, _, _, _, _, _, _, e⟩ := ho; e
        obtain ⟨e1, e2, e3⟩ := storeS_den (d1.keeps (keeps_mem k2)) (k := k) he hnd (dl.keeps (keeps_mem k2))
        have mv : ∀ c o, ¬ Un X M c → s2.heap.get? c = some o → ¬ Un X M c ∧ h'.get? c = some o := fun c o hc e => ⟨hc, by rw [hs'.2 c (by rintro rfl; exact hc (.inr hM))]; exact e⟩
        obtain ⟨S3, m3⟩ := S2.touch (tk := s2.toks + 1) (l' := .ownd (storeS es k pv)) hk hg rfl hrn2 hs' ⟨_, hob⟩ (Nat.le_succ_of_le S2.es.tok) ⟨by omega, a, _, rfl, hM, hm', e1, e2.move mv⟩
        exact hq _ _ _ _ _ h2 S3 ((Mut.of_keeps (keeps_trans k1 k2)).trans m3) rfl
    | _ => exact False.elim h1
end
end Mine
namespace Mine

section
variable {W : Wd} {A : Around} {d : Nat} {X M M' : Excl} {env : Env} {sc : Sc} {σ : Loc} {s s' : Shared} {E : Value → Shared → Prop} {Q : Flow → Shared → Prop} {K : FP → Loc → Prop} {G : GC} {r : WE} {t : WT} {b : WB} {x : Str}

theorem fresh_none {h h' : Heap} (hk : ∀ b o, h.get? b = some o → h'.get? b = some o) : h.get? h'.objs.size = none := by
  cases e : h.get? h'.objs.size with
  | none => rfl
  | some o => exact absurd (Heap.lt_size (hk _ _ e)) (Nat.lt_irrefl _)

/-- a fresh own object gets a name -/
theorem store_own {l : LV} {a : Addr} {o : Obj} {Qs : Unit → Shared → Prop} (S : SS W A d X M env sc σ s) (hk : kd sc x = some .loc) (k : Keeps s s') (t : s.toks ≤ s'.toks) (hn : s.heap.get? a = none) (ha : s'.heap.get? a = some o)
    (hl : LDen W.prog W.w (Un X (Plus M a)) (Plus M a) s'.heap l (.ref a)) (hq : ∀ s2 M', SS W A d X M' env sc (set σ x l) s2 → Mut M M' s s2 → Qs () s2) : wpAny W.M A (storeName env x (.ref a)) Qs E s' := by
  obtain ⟨S1, m1⟩ := S.grow k t hn ha
  refine store_name_ok S1 hk hl (fun _ => ?_) (fun _ y k u hyx hg oy hky hr => ?_) fun s2 S2 m2 => hq s2 _ S2 (m1.trans m2)
  · rintro e
    cases e
    obtain ⟨o', e⟩ := S.es.xlt _ (.inr S.fr.loc.1)
    rw [hn] at e; cases e
  · obtain ⟨u', hr', d'⟩ := S.es.vis y k hg hky
    obtain ⟨a', o', rfl, hM, hget⟩ := own_addr oy d'
    have := (hr'.keeps (keeps_mem ‹Keeps s s'›)).inj hr
    subst this
    rintro e
    cases e
    rw [hn] at hget; cases hget

noncomputable def constPair? (k : Option Expr) (e : Expr) : Option (Str × Str × (Nat × Pos) × (Nat × Pos)) := ob k fun k => ob (strC? k) fun a => ob (strC? e) fun b => og (Nat.ble b.1.length 1000) (some (a.1, b.1, a.2, b.2))
theorem constPair?.inv {k : Option Expr} {e : Expr} {q : Str × Str × (Nat × Pos) × (Nat × Pos)} (h : constPair? k e = some q) :
    k = some (.Constant (.str q.1) q.2.2.1.1 q.2.2.1.2) ∧ e = .Constant (.str q.2.1) q.2.2.2.1 q.2.2.2.2 ∧ Nat.ble q.2.1.length 1000 = true := by
  obtain ⟨k', hk, h⟩ := ob.inv h
  obtain ⟨a, ha, h⟩ := ob.inv h
  obtain ⟨b, hb, h⟩ := ob.inv h
  obtain ⟨hl, h⟩ := og.inv h
  cases h
  exact ⟨hk.trans (congrArg some (strC?.inv ha)), strC?.inv hb, hl⟩
noncomputable def constPairs : List (Option Expr) → List Expr → Option (List (Str × PV))
  | [], vs => o0 vs (some []) fun _ _ => none
  | k :: ks, vs => o0 vs none fun e vs => ob (constPair? k e) fun q => ob (constPairs ks vs) fun r => some ((q.1, .str q.2.1) :: r)
theorem constPairs.inv {k : Option Expr} {ks : List (Option Expr)} {vs : List Expr} {es : List (Str × PV)} (h : constPairs (k :: ks) vs = some es) :
    ∃ e vs' q r, vs = e :: vs' ∧ constPair? k e = some q ∧ constPairs ks vs' = some r ∧ es = (q.1, .str q.2.1) :: r := by
  unfold constPairs at h
  cases vs with
  | nil => exact nsome h
  | cons e vs =>
    obtain ⟨q, hq, h⟩ := ob.inv h
    obtain ⟨r, hr, h⟩ := ob.inv h
    cases h
    exact ⟨e, vs, q, r, rfl, hq, hr, rfl⟩
noncomputable def nodupKeys : List (Str × PV) → Bool
  | [] => true
  | (k, _) :: r => (match r.all (fun p => !nmEq k p.1) with | true => nodupKeys r | false => false)
theorem nodupKeys_iff : ∀ {es : List (Str × PV)}, nodupKeys es = true → (es.map (·.1)).Nodup
  | [], _ => by simp
  | (k, p) :: r, h => by
    simp only [nodupKeys] at h
    split at h
    · rename_i ha
      simp only [List.map_cons, List.nodup_cons]
      refine ⟨?_, nodupKeys_iff h⟩
      intro hm
      obtain ⟨q, hq, e⟩ := List.mem_map.mp hm
      have := List.all_eq_true.mp ha q hq
      rw [← e] at this
      simp [(nmEq_iff q.1 q.1).mpr rfl] at this
    · cases h
theorem constPairs_eval {pos : Pos} {keys : List (Option Expr)} : ∀ {values : List Expr} {es : List (Str × PV)} {s : Shared} {Qp : List (Value × Value) → Shared → Prop}, constPairs keys values = some es →
    (∀ vs s', allStrKeys vs = true → (strPairs vs).map (·.1) = es.map (·.1) → DenL W.w X s'.heap (es.map (·.2)) ((strPairs vs).map (·.2)) → (∃ tk, s' = { s with toks := tk }) → s.toks ≤ s'.toks → Qp vs s') →
    wpAny W.M A (evalPairs (pairTrees keys values env pos)) Qp E s := by
  induction keys with
  | nil =>
    intro values es s Qp h hq
    cases values with
    | nil => cases h; exact pairTrees_nil_walk (hq [] s rfl rfl .nil ⟨s.toks, rfl⟩ (Nat.le_refl _))
    | cons => cases h
  | cons k ks ih =>
    intro values es s Qp h hq
    obtain ⟨e, vs, ⟨a, b, p, q⟩, r, rfl, h1, hr, rfl⟩ := constPairs.inv h
    obtain ⟨rfl, rfl, hl⟩ := constPair?.inv h1
    refine pairTrees_cons_walk ?_
    rw [arm_eval_Constant]
    refine wpAny_mkText ?_
    rw [arm_eval_Constant]
    refine wpAny_mkText ?_
    refine ih hr fun us s' h1 h2 h3 h4 h5 => ?_
    obtain ⟨tk, rfl⟩ := h4
    exact hq _ _ h1 (congrArg (a :: ·) h2) (.cons (mk_str (le_1000 hl)) h3) ⟨tk, rfl⟩ (Nat.le_trans (Nat.le_add_right _ 2) h5)

noncomputable def isGlob (sc : Sc) (x : Str) : Bool := match kd sc x with | some .glob => true | _ => false
theorem isGlob.inv {sc : Sc} {x : Str} (h : isGlob sc x = true) : kd sc x = some .glob := by
  unfold isGlob at h
  cases hk : kd sc x with
  | none => rw [hk] at h; cases h
  | some k => rw [hk] at h; cases k <;> first | rfl | cases h
noncomputable def ownRangeW (p : PV) (K : LV → Prop) : Prop := match p with
  | .range a b c => Ob (Builtin.Range.small a b c = true ∧ 0 ≤ Builtin.Range.rangeSize a b c ∧ Builtin.Range.rangeSize a b c ≤ sizeLine) (K (.own (rangeItems a b c)))
  | _ => False
noncomputable def ownW (r : WE) (sc : Sc) (σ : Loc) (value : Expr) (K : LV → Prop) : Prop :=
  match value with
  | .List es _ => eachW (fun e K => r sc e σ K) es fun ps => Ob (ps.length ≤ sizeLine) (K (.own ps))
  | .Call f args kws _ => gs (nameOf? f) fun q => as1 args fun e => as0 kws (gd (isGlob sc q.1) (gd (nmEq q.1 (Str.ofString "list")) (gd (noStar e) (r sc e σ fun p => ownRangeW p K)))) fun _ _ => False
  | .Dict keys values _ => gs (constPairs keys values) fun es => gd (nodupKeys es) (gd (Nat.ble es.length 15) (as0 es False fun _ _ => K (.ownd es)))
  | _ => False

theorem own_ok {value : Expr} {Kl : LV → Prop} {Qv : Value → Shared → Prop} (hG : GOk W d G) (hl : G.fn (Str.ofString "list") = none) (hr : EOk W d r) (S : SS W A d X M env sc σ s) (h : ownW r sc σ value Kl)
    (hq : ∀ l a o s', Kl l → Keeps s s' → s.toks ≤ s'.toks → s.heap.get? a = none → s'.heap.get? a = some o → LDen W.prog W.w (Un X (Plus M a)) (Plus M a) s'.heap l (.ref a) → Qv (.ref a) s') : wpAny W.M A (eval value env) Qv E s := by
  cases value with
  | List es pos =>
    refine wpAny_with_toks (Nat.le_refl _) (List_ (each_ok hr S.es h fun vs ps s1 h1 k1 t1 d1 => ?_))
    obtain ⟨hz, h1⟩ := h1.elim
    have hsz : vs.toArray.size ≤ sizeLine := by rw [List.size_toArray, d1.length]; exact hz
    refine wpAny_newObj_type ?_ (by show vs.toArray.size ≤ sizeLine; exact hsz)
    intro tt
    have kk := keeps_trans k1 (keeps_push' s1 { cls := .type "list", data := .seq vs.toArray })
    have hnone : s.heap.get? s1.heap.objs.size = none := fresh_none (keeps_mem k1)
    refine hq _ _ _ _ h1 kk tt hnone (Heap.get?_push_size _ rfl) ⟨hz, _, vs, 0, rfl, .inr rfl, Heap.get?_push_size _ rfl, d1.move fun b o hb e => ⟨?_, Heap.get?_push_of_some _ e⟩⟩
    rintro (q | q | q)
    · exact hb (.inl q)
    · exact hb (.inr q)
    · exact absurd (q ▸ Heap.lt_size e) (Nat.lt_irrefl _)
  | Call f args kws cpos =>
    obtain ⟨⟨f, fp⟩, hfn, h2⟩ := gs.inv h
    clear h
    cases nameOf?.inv hfn
    obtain ⟨e, rfl, h3⟩ := as1.inv h2
    clear h2 hfn
    rcases kws with _ | ⟨kw, kws⟩
    · obtain ⟨hk, h4⟩ := gd.inv h3
      obtain ⟨hf, h5⟩ := gd.inv h4
      obtain ⟨hs, h⟩ := gd.inv h5
      clear h3 h4 h5
      have hk := isGlob.inv hk
      have hf' : f = Str.ofString "list" := (nmEq_iff _ _).mp hf
      subst hf'
      have hn := nsTop S.es.top S.es.eok
      have hbi := hG.bi .list
      refine wpAny_Call_Name_kw (Calls.Name_function_global S.es.eok.kind (glob_kind S.es.eok hk) ?_ (S.es.eok.ne_debug hk))
      refine Calls.loadGlobal_builtin hn.1 hbi.1 hn.2 hbi.2 ?_
      refine PySem.callWith_type (T := "list") (starEach_any (f := fun _ _ => True) (by simpa using hs)) ?_
      refine wpAny_with_toks (Nat.le_refl _) (evalArgs_ok (f := .type "list") (Ka := fun ps => as1 ps fun p => ownRangeW p Kl) hr S.es ?_ fun vs ps s1 h1 k1 t1 d1 => ?_)
      · simp only [eachW, hs]
        exact h
      · obtain ⟨p, rfl, h1⟩ := as1.inv h1
        cases p with
        | range ra rb rc =>
          obtain ⟨v, rfl, dv⟩ := denL_one d1
          obtain ⟨⟨h3, h4, h5⟩, h6⟩ := h1.elim
          obtain ⟨ro, tk1, tk2, tk3, rfl, hx, hg⟩ := den_range dv
          have hrn : ((Builtin.Range.rangeSize ra rb rc).toNat : Int) = Builtin.Range.rangeSize ra rb rc := Int.toNat_of_nonneg h4
          refine fun _ => wpAny_with_toks (Nat.le_refl _) (call_list_range (n := (Builtin.Range.rangeSize ra rb rc).toNat) S.es.room.handled hg h3 hrn.symm (by have := sizeLine_eq; omega) fun h' tk acc' c' hk hg' hit tt => ?_)
          have kk := keeps_trans k1 (keeps_of (tk := tk) hk)
          have hnone : s.heap.get? s1.heap.objs.size = none := fresh_none (keeps_mem k1)
          refine hq _ _ _ _ h6 kk (Nat.le_trans t1 tt) hnone hg' ⟨by simp [rangeItems]; omega, _, acc'.toList, c', rfl, .inr rfl, hg', DenL.of_get ?_ ?_⟩
          · simp [rangeItems, hit.1]
          · intro i p v hp hv
            obtain ⟨t, rfl⟩ := hit.2 i v (by simpa using hv)
            simp only [rangeItems, List.getElem?_map, Option.map_eq_some_iff] at hp
            obtain ⟨j, hj, rfl⟩ := hp
            obtain ⟨hi, rfl⟩ := List.getElem?_eq_some_iff.mp hj
            simp only [List.getElem_range]
            exact mk_int
        | _ => exact False.elim h1
    · exact False.elim h3
  | Dict keys values pos =>
    obtain ⟨es, hes, h2⟩ := gs.inv h
    obtain ⟨hnd, h3⟩ := gd.inv h2
    obtain ⟨hle, h4⟩ := gd.inv h3
    rcases es with _ | ⟨e0, er⟩
    · exact False.elim h4
    · replace h : Kl (.ownd (e0 :: er)) := h4
      clear h2 h3 h4
      · have hlen : (e0 :: er).length ≤ 15 := Nat.le_of_ble_eq_true hle
        have hall : ∀ {keys : List (Option Expr)} {values : List Expr} {es : List (Str × PV)}, constPairs keys values = some es → keys.all (·.isSome) = true ∧ keys.length = values.length ∧ keys.length = es.length := by
          intro keys
          induction keys with
          | nil =>
            intro values es h
            cases values with
            | nil => cases h; exact ⟨rfl, rfl, rfl⟩
            | cons => cases h
          | cons k0 ks ih =>
            intro values es h
            obtain ⟨e, vs, q, r, rfl, hq, hr, rfl⟩ := constPairs.inv h
            obtain ⟨rfl, _, _⟩ := constPair?.inv hq
            obtain ⟨h1, h2, h3⟩ := ih hr
            exact ⟨h1, congrArg (· + 1) h2, congrArg (· + 1) h3⟩
        obtain ⟨h1, h2, h3⟩ := hall hes
        refine wpAny_with_toks (Nat.le_refl _) (wpAny_Dict_walk (knd := strKind W.prog W.w) h1 h2 (by rintro rfl; simp at h3) (by omega) ?_)
        refine constPairs_eval (X := Un X (Plus M s.heap.objs.size)) hes fun vs s1 a1 a2 a3 a4 a5 => ?_
        obtain ⟨tk, rfl⟩ := a4
        have hnew : (s.heap.push { cls := .type "dict", data := .dict #[] }).DictOf (strKind W.prog W.w) s.heap.objs.size [] := Heap.DictOf.new _
        refine display_done_str a1 (by rw [a2]; exact nodupKeys_iff hnd) hnew fun h' hm hs tt => ?_
        have hkp : ∀ b o, s.heap.get? b = some o → h'.get? b = some o := fun b o e => by
          rw [hs.2 b (Nat.ne_of_lt (Heap.lt_size e))]; exact Heap.get?_push_of_some _ e
        obtain ⟨ob, _, _, hob, _⟩ := id hm
        refine hq _ _ _ _ h (keeps_of hkp) tt (fresh_none (h' := s.heap) fun _ _ e => e) hob ⟨by omega, _, _, rfl, .inr rfl, hm, a2, ?_⟩
        refine DenL.move (X := Un X (Plus M s.heap.objs.size)) (h := s.heap.push { cls := .type "dict", data := .dict #[] }) (fun b o hb e => ⟨hb, ?_⟩) a3
        rw [hs.2 b (fun q => hb (.inr (.inr q)))]; exact e
  | _ => exact False.elim h
end
end Mine
namespace Mine

section
variable {W : Wd} {A : Around} {d : Nat} {X M M' : Excl} {env : Env} {sc : Sc} {σ : Loc} {s s' : Shared} {E : Value → Shared → Prop} {Q : Flow → Shared → Prop} {K : FP → Loc → Prop} {G : GC} {r : WE} {t : WT} {b : WB} {x : Str}

noncomputable def assignOwnW (r : WE) (sc : Sc) (σ : Loc) (x : Str) (value : Expr) (K : FP → Loc → Prop) : Prop :=
  gd (isLoc sc x) (gd (noComp value) (ownW r sc σ value fun l => K .next (set σ x l)))
theorem assignOwn_ok {value : Expr} {px pos : Pos} (hG : GOk W d G) (hl : G.fn (Str.ofString "list") = none) (hr : EOk W d r) (S : SS W A d X M env sc σ s) (h : assignOwnW r sc σ x value K) (hq : SPost W A d X M env sc s K Q) :
    wpAny W.M A (exec (.Assign [.Name x px] value pos) env) Q E s := by
  obtain ⟨hx, h2⟩ := gd.inv h
  obtain ⟨hnc, h3⟩ := gd.inv h2
  refine wpAny_Assign_Name (own_ok hG hl hr S h3 fun l a o s1 hK k1 t1 hn ha hl => ?_) (swaps_no hnc)
  exact store_own S (isLoc_iff hx) k1 t1 hn ha hl fun s2 M' S2 m2 => hq _ _ _ _ _ hK S2 m2 rfl

noncomputable def isLocal (sc : Sc) (x : Str) : Bool := match sc with
  | [] => false
  | (y, k) :: r => match nmEq y x with
    | true => (match k with | .local => true | _ => false)
    | false => isLocal r x
theorem isLocal_lookup {x : Str} : ∀ {sc : Sc}, isLocal sc x = true → sc.lookup x = some .local
  | [], h => by cases h
  | (y, k) :: r, h => by
    simp only [isLocal] at h
    rw [List.lookup_cons]
    cases hn : nmEq y x with
    | true =>
      rw [hn] at h
      rw [(nmEq_iff y x).mp hn]
      simp only [beq_self_eq_true]
      cases k <;> first | rfl | cases h
    | false =>
      rw [hn] at h
      have : (x == y) = false := by
        rw [beq_eq_false_iff_ne]
        exact fun e => by rw [(nmEq_iff y x).mpr e.symm] at hn; cases hn
      simp only [this]
      exact isLocal_lookup h
noncomputable def swapW (G : GC) (sc : Sc) (σ : Loc) (x y u v : Str) (lx ly : Nat) (K : FP → Loc → Prop) : Prop :=
  gd (isLocal sc x) (gd (isLocal sc y) (gd (!nmEq x y) (gd (Nat.beq lx ly) (gd (!nmEq u (Str.ofString "__debug__")) (gd (!nmEq v (Str.ofString "__debug__"))
    (nameW G sc σ u fun p => nameW G sc σ v fun q => K .next (set (set σ y (.val q)) x (.val p))))))))

theorem nameW_mono {K K' : PV → Prop} (hk : ∀ p, K p → K' p) (h : nameW G sc σ x K) : nameW G sc σ x K' := by
  unfold nameW at h ⊢
  split at h
  · split at h
    · exact hk _ h
    · exact hk _ h
    · exact h
  · split at h
    · exact hk _ h
    · split at h
      · exact hk _ h
      · exact h
  · exact h

theorem swap_fin {x y : Str} {p q : PV} {v1 v2 : Value} {tA : Addr} {Qs : Unit → Shared → Prop} (S : SS W A d X M env sc σ s) (lx : kd sc x = some .loc) (ly : kd sc y = some .loc) (ht : IsTup s'.heap tA #[v1, v2]) (k : Keeps s s') (tt : s.toks ≤ s'.toks)
    (dp : Den W.w (Un X M) s.heap p v1) (dq : Den W.w (Un X M) s.heap q v2) (hq : ∀ s2, SS W A d X M env sc (set (set σ y (.val q)) x (.val p)) s2 → Mut M M s s2 → Qs () s2) :
    wpAny W.M A (unpackItems (.ref tA) 2 none) (fun items s₂ => wpAny W.M A (assignInOrder [bindName env y, bindName env x] items.reverse) Qs E s₂) E s' := by
  have S2 := S.after k tt
  refine unpackItems_tuple (items := #[v1, v2]) S.es.room.handled ht fun h' he => ?_
  have kk2 : Keeps s' { s' with heap := h' } := ⟨h', s'.toks, rfl, fun b o e => he b o (Nat.ne_of_lt (Heap.lt_size e)) e⟩
  have S3 := S2.after kk2 (Nat.le_refl _)
  have kk3 := keeps_trans k kk2
  refine assignInOrder_cons (wpAny_bindName (store_val S3 ly (dq.keeps (keeps_mem kk3)) fun s4 S4 m4 => ?_))
  refine assignInOrder_cons (wpAny_bindName (store_val S4 lx ((dp.keeps (keeps_mem kk3)).move fun a o hh e => m4.mem a o (fun q => hh (.inr q)) e |>.imp (fun _ => hh) id) fun s5 S5 m5 => ?_))
  exact assignInOrder_nil (hq _ S5 ((Mut.of_keeps kk3).trans (m4.trans m5)))

theorem swap_ok {x y u v : Str} {px py pu pv tp vp pos : Pos} {n k : Nat} (hG : GOk W d G) (S : SS W A d X M env sc σ s) (h : swapW G sc σ x y u v px.line py.line K) (hq : SPost W A d X M env sc s K Q) :
    wpAny W.M A (exec (.Assign [.Tuple [.Name x px, .Name y py] n tp] (.Tuple [.Name u pu, .Name v pv] k vp) pos) env) Q E s := by
  obtain ⟨h1, g⟩ := gd.inv h
  obtain ⟨h2, g⟩ := gd.inv g
  obtain ⟨h3, g⟩ := gd.inv g
  obtain ⟨h4, g⟩ := gd.inv g
  obtain ⟨h5, g⟩ := gd.inv g
  obtain ⟨h6, h⟩ := gd.inv g
  clear g
  rw [Bool.not_eq_true'] at h3 h5 h6
  · skip
    have hfree := S.fr.noFree
    have kx : env.kindOf x = some .local := by
      rcases S.es.eok.kinds x with e | ⟨e, _⟩
      · rw [e]; exact isLocal_lookup h1
      · rw [isLocal_lookup h1] at e; cases e
    have ky : env.kindOf y = some .local := by
      rcases S.es.eok.kinds y with e | ⟨e, _⟩
      · rw [e]; exact isLocal_lookup h2
      · rw [isLocal_lookup h2] at e; cases e
    have lx : kd sc x = some .loc := by rw [kd_lookup, isLocal_lookup h1]; rfl
    have ly : kd sc y = some .loc := by rw [kd_lookup, isLocal_lookup h2]; rfl
    have hxy : x ≠ y := fun e => by rw [(nmEq_iff x y).mpr e] at h3; cases h3
    have hline : px.line = py.line := Nat.eq_of_beq_eq_true h4
    have hu : (u == ("__debug__" : Str)) = false := by rw [beq_eq_false_iff_ne]; intro e; rw [(nmEq_iff u _).mpr e] at h5; cases h5
    have hv : (v == ("__debug__" : Str)) = false := by rw [beq_eq_false_iff_ne]; intro e; rw [(nmEq_iff v _).mpr e] at h6; cases h6
    have hbk : env.blockKind = .function := by
      unfold Env.blockKind
      rw [S.es.eok.kind]
      rfl
    have hw : swappedStores [.Tuple [.Name x px, .Name y py] n tp] (.Tuple [.Name u pu, .Name v pv] k vp) env = pure (some [x, y]) := by
      have hyx : (y == x) = false := by rw [beq_eq_false_iff_ne]; exact Ne.symm hxy
      have f1 : foldedForSure 8 (.Name u pu) = false := rfl
      have c1 : constantsAlone 8 (.Name u pu) = (u == ("__debug__" : Str)) := rfl
      have p1 : (Expr.Name x px).pos = px := rfl
      unfold swappedStores
      simp [hbk, kx, ky, p1, hline, f1, c1, hu, List.eraseDups, List.eraseDupsBy, List.eraseDupsBy.loop, hyx]
    have hnm : EOk W d (fun sc e σ K => gs (nameOf? e) fun q => nameW G sc σ q.1 K) := by
      intro A E s X M env sc e σ K Q es h hq
      obtain ⟨q, hq', h2⟩ := gs.inv h
      rw [nameOf?.inv hq']
      exact name_ok hG es h2 hq
    refine Assign_Tuple_swapped (names := [x, y]) ?_ rfl hw
    refine Tuple_ (each_ok (K := fun ps => ∃ p q, ps = [p, q] ∧ K .next (set (set σ y (.val q)) x (.val p))) hnm S.es ?_ fun vs ps s1 h1 k1 t1 d1 => ?_)
    · simp only [eachW, noStar]
      exact nameW_mono (fun p hp => nameW_mono (fun q hq => ⟨p, q, rfl, hq⟩) hp) h
    · obtain ⟨p, q, rfl, hK⟩ := h1
      obtain ⟨v1, v2, rfl, dp, dq⟩ := denL_two d1
      have S1 := S.after k1 t1
      refine wpAny_newObj_type ?_ (by show 2 ≤ sizeLine; have := sizeLine_eq; omega)
      have ht : IsTup (s1.heap.push { cls := .type "tuple", data := .seq #[v1, v2] }) s1.heap.objs.size #[v1, v2] := tup_isTup (us := [v1, v2]) (n := 0) (Heap.get?_push_size _ rfl)
      have kk : Keeps s1 { s1 with heap := s1.heap.push { cls := .type "tuple", data := .seq #[v1, v2] } } := keeps_push' s1 _
      exact swap_fin S1 lx ly ht kk (Nat.le_refl _) dp dq fun s5 S5 m5 => hq _ _ _ _ _ hK S5 ((Mut.of_keeps k1).trans m5) rfl

noncomputable def chainW (r : WE) (sc : Sc) (σ : Loc) (x y : Str) (value : Expr) (K : FP → Loc → Prop) : Prop :=
  gd (isLoc sc x) (gd (isLoc sc y) (gd (noComp value) (r sc value σ fun p => K .next (set (set σ x (.val p)) y (.val p)))))
theorem chain_ok {x y : Str} {value : Expr} {px py pos : Pos} (hr : EOk W d r) (S : SS W A d X M env sc σ s) (h : chainW r sc σ x y value K) (hq : SPost W A d X M env sc s K Q) :
    wpAny W.M A (exec (.Assign [.Name x px, .Name y py] value pos) env) Q E s := by
  obtain ⟨hx, h2⟩ := gd.inv h
  obtain ⟨hy, h3⟩ := gd.inv h2
  obtain ⟨hnc, h⟩ := gd.inv h3
  · refine wpAny_Assign_two (hr.tk S.es h fun v p s1 hp k1 t1 d1 => ?_)
    have S1 := S.after k1 t1
    refine wpAny_assign_Name (store_val S1 (isLoc_iff hx) d1 fun s2 S2 m2 => ?_)
    refine wpAny_assign_Name (store_val S2 (isLoc_iff hy) (d1.move fun a o hh e => m2.mem a o (fun q => hh (.inr q)) e |>.imp (fun _ => hh) id) fun s3 S3 m3 => ?_)
    exact hq _ _ _ _ _ hp S3 ((Mut.of_keeps k1).trans (m2.trans m3)) rfl

theorem nameW_loc {K : PV → Prop} (hk : kd sc x = some .loc) (h : nameW G sc σ x K) : ∃ p l, get σ x = some l ∧ (∀ {P w} {X M : Excl} {h v}, LDen P w X M h l v → Den w X h p v) ∧ K p := by
  unfold nameW at h
  rw [hk] at h
  cases hg : get σ x with
  | none => rw [hg] at h; exact False.elim h
  | some l =>
    rw [hg] at h
    cases l with
    | val p => exact ⟨p, _, rfl, fun d => d, h⟩
    | is u p => exact ⟨p, _, rfl, fun d => d.2, h⟩
    | _ => exact False.elim h
noncomputable def augOp (op : Operator) (p q : PV) (K : Int → Prop) : Prop := match op with
  | .Add => asI p fun a => asI q fun b => K (a + b)
  | .Sub => asI p fun a => asI q fun b => K (a - b)
  | _ => False
noncomputable def augW (G : GC) (r : WE) (sc : Sc) (σ : Loc) (x : Str) (op : Operator) (value : Expr) (K : FP → Loc → Prop) : Prop :=
  gd (isLoc sc x) (nameW G sc σ x fun p => r sc value σ fun q => augOp op p q fun i => K .next (set σ x (.val (.int i))))
theorem aug_ok {op : Operator} {value : Expr} {px pos : Pos} (hG : GOk W d G) (hr : EOk W d r) (S : SS W A d X M env sc σ s) (h : augW G r sc σ x op value K) (hq : SPost W A d X M env sc s K Q) :
    wpAny W.M A (exec (.AugAssign (.Name x px) op value pos) env) Q E s := by
  obtain ⟨hx, h2⟩ := gd.inv h
  have hk := isLoc_iff hx
  obtain ⟨p, l, hg, hl, h3⟩ := nameW_loc hk h2
  obtain ⟨v, hrn, dv⟩ := S.es.vis x _ hg (by rw [S.es.eok.names, hk])
  have dv := hl dv
  refine wpAny_AugAssign_Name (reads_wp S.es.eok hrn ?_ (S.es.eok.ne_class hk))
  refine hr.tk S.es h3 fun u q s1 h1 k1 t1 d1 => ?_
  have S1 := S.after k1 t1
  have kk := keeps_tk s1 (s1.toks + 1)
  have fin : ∀ i : Int, K .next (set σ x (.val (.int i))) → wpAny W.M A (storeName env x (.int i s1.toks)) (fun _ s' => Q .next s') E { s1 with toks := s1.toks + 1 } := fun i hi =>
    store_val (S1.after kk (Nat.le_succ _)) hk mk_int fun s2 S2 m2 => hq _ _ _ _ _ hi S2 ((Mut.of_keeps (keeps_trans k1 kk)).trans m2) rfl
  cases op with
  | Add =>
    obtain ⟨a, rfl, h4⟩ := asI.inv h1
    obtain ⟨b, rfl, h5⟩ := asI.inv h4
    obtain ⟨tk, rfl⟩ := den_int (w := W.w) (h := s.heap) (X := Un X M) dv
    obtain ⟨tk', rfl⟩ := den_int d1
    exact PyProof.Rows.iadd_int (fin _ h5)
  | Sub =>
    obtain ⟨a, rfl, h4⟩ := asI.inv h1
    obtain ⟨b, rfl, h5⟩ := asI.inv h4
    obtain ⟨tk, rfl⟩ := den_int (w := W.w) (h := s.heap) (X := Un X M) dv
    obtain ⟨tk', rfl⟩ := den_int d1
    exact PyProof.Rows.isub_int (fin _ h5)
  | _ => exact False.elim h1

theorem if_ok {test : Expr} {body orelse : List Stmt} {pos : Pos} (ht : TOk W d t) (hb : BOk W d b) (S : SS W A d X M env sc σ s) (h : t sc test σ fun c => Br c (b sc body σ K) (b sc orelse σ K)) (hq : SPost W A d X M env sc s K Q) :
    wpAny W.M A (exec (.If test body orelse pos) env) Q E s := by
  refine wpAny_If (ht.tk S.es h fun c s1 h1 k1 t1 => ?_)
  have h2 := h1.elim
  have S1 := S.after k1 t1
  cases c with
  | true => exact hb _ _ _ _ _ _ _ _ _ _ _ S1 (h2.1 rfl) (hq.keeps k1)
  | false => exact hb _ _ _ _ _ _ _ _ _ _ _ S1 (h2.2 rfl) (hq.keeps k1)
theorem return_ok {e : Expr} {pos : Pos} (hr : EOk W d r) (S : SS W A d X M env sc σ s) (h : r sc e σ fun p => K (.ret p) σ) (hq : SPost W A d X M env sc s K Q) :
    wpAny W.M A (exec (.Return (some e) pos) env) Q E s :=
  wpAny_Return_some (hr.tk S.es h fun v p s1 h1 k1 t1 d1 => hq _ _ _ _ _ h1 (S.after k1 t1) (Mut.of_keeps k1) ⟨v, rfl, d1⟩)
theorem try_ok {body orelse : List Stmt} {h₀ : ExceptHandler} {hs : List ExceptHandler} {pos : Pos} (hb : BOk W d b) (S : SS W A d X M env sc σ s)
    (h : b sc body σ fun fp σ' => match fp with
      | .next => b sc orelse σ' K
      | fp => K fp σ') (hq : SPost W A d X M env sc s K Q) :
    wpAny W.M A (exec (.Try body (h₀ :: hs) orelse [] pos) env) Q E s := by
  refine wpAny_Try_except (hb _ _ _ _ _ _ _ _ _ _ _ S h fun fp f σ' M' s1 h1 S1 m1 hf => ?_)
  cases fp with
  | next => cases hf; exact hb _ _ _ _ _ _ _ _ _ _ _ S1 h1 (hq.after m1)
  | brk => cases hf; exact hq _ _ _ _ _ h1 S1 m1 rfl
  | cont => cases hf; exact hq _ _ _ _ _ h1 S1 m1 rfl
  | ret p => obtain ⟨v, rfl, dv⟩ := hf; exact hq _ _ _ _ _ h1 S1 m1 ⟨v, rfl, dv⟩

noncomputable def ownOf? (σ : Loc) (x : Str) : Option (List PV) := match get σ x with | some l => (match l with | .own vs => some vs | _ => none) | none => none
theorem ownOf?.inv {vs : List PV} (h : ownOf? σ x = some vs) : get σ x = some (.own vs) := by
  unfold ownOf? at h
  cases hg : get σ x with
  | none => rw [hg] at h; cases h
  | some l => rw [hg] at h; cases l <;> cases h; rfl
noncomputable def growW (r : WE) (sc : Sc) (σ : Loc) (x m : Str) (e : Expr) (al pl : Nat) (K : FP → Loc → Prop) : Prop :=
  gd (isLoc sc x) (gd (noStar e) (gd (Nat.beq al pl) (gs (ownOf? σ x) fun vs => match nmEq m (Str.ofString "append") with
    | true => r sc e σ fun p => Ob (vs.length < sizeLine) (K .next (set σ x (.own (vs ++ [p]))))
    | false => gd (nmEq m (Str.ofString "extend")) (r sc e σ fun p => asL p fun us => Ob (vs.length + us.length ≤ sizeLine) (K .next (set σ x (.own (vs ++ us))))))))
theorem grow_ok {m : Str} {e : Expr} {xp ap cp pos : Pos} (hr : EOk W d r) (S : SS W A d X M env sc σ s) (h : growW r sc σ x m e ap.endLine cp.line K) (hq : SPost W A d X M env sc s K Q) :
    wpAny W.M A (exec (.Expr (.Call (.Attribute (.Name x xp) m ap) [e] [] cp) pos) env) Q E s := by
  obtain ⟨hx, g⟩ := gd.inv h
  obtain ⟨hns, g⟩ := gd.inv g
  obtain ⟨hln, g⟩ := gd.inv g
  obtain ⟨vs, hg, h⟩ := gs.inv g
  clear g
  have hg := ownOf?.inv hg
  · skip
    have hk := isLoc_iff hx
    have hi : interactive env = false := by
      unfold interactive
      rw [S.es.eok.kind]
      rfl
    refine wpAny_Expr_any ?_ hi (swaps_no rfl)
    have hl : (ap.endLine == cp.line) = true := by simpa using Nat.eq_of_beq_eq_true hln
    obtain ⟨u, hrn, hz, a, us, n, rfl, hM, ho, dl⟩ := S.es.vis x _ hg (by rw [S.es.eok.names, hk])
    refine Call_method1 rfl (starEach_plain hns) hl (wpAny_Name (reads_wp S.es.eok hrn ?_ (S.es.eok.ne_class hk)) (S.es.eok.ne_debug hk))
    have hT : s.TypeIs (.ref a) "list" := ⟨_, ho, rfl⟩
    have hd : ∀ b, Value.ref a = .ref b → ∃ ob, s.heap.get? b = some ob ∧ ob.dict = none := by rintro b q; cases q; exact ⟨_, ho, rfl⟩
    cases hm : nmEq m (Str.ofString "append") with
    | true =>
      rw [hm] at h
      have em := (nmEq_iff _ _).mp hm
      subst em
      refine ⟨"list", "list.append", PySem.F.plainAttrs_list, PySem.F.slot_list_append, PySem.F.type_list_append, hT, hd, ?_⟩
      refine PySem.P.append_list (hr.tk S.es h fun v p s1 h1 k1 t1 d1 => ?_)
      obtain ⟨hlt, h1⟩ := h1.elim
      have hlen := dl.length
      have ho1 := keeps_mem k1 _ _ ho
      refine ⟨us.toArray, n, by rw [List.size_toArray, hlen]; exact Nat.le_of_lt hlt, ho1, ?_⟩
      have S1 := S.after k1 t1
      have up := IsL.update (h := s1.heap) (l := a) (items := us.toArray) (n := n) ho1 (·.push v)
      have hs : Heap.SameBut a s1.heap (s1.heap.update a (Obj.mapSeq (·.push v))) := Heap.SameBut.update ..
      have mv : ∀ c o, ¬ Un X M c → s1.heap.get? c = some o → ¬ Un X M c ∧ (s1.heap.update a (Obj.mapSeq (·.push v))).get? c = some o := fun c o hc e => ⟨hc, by rw [hs.2 c (by rintro rfl; exact hc (.inr hM))]; exact e⟩
      obtain ⟨S2, m2⟩ := S1.touch (tk := s1.toks) (l' := .own (vs ++ [p])) hk hg rfl (hrn.keeps (keeps_mem k1)) hs ⟨_, up⟩ S1.es.tok
        ⟨by rw [List.length_append]; exact hlt, a, us ++ [v], _, rfl, hM, by rw [show IsL _ _ _ _ = _ from rfl] at up; rw [up, List.push_toArray]; rfl, ((dl.keeps (keeps_mem k1)).append (.one d1)).move mv⟩
      exact hq _ _ _ _ _ h1 S2 ((Mut.of_keeps k1).trans m2) rfl
    | false =>
      rw [hm] at h
      obtain ⟨hm, h⟩ := gd.inv h
      have em := (nmEq_iff _ _).mp hm
      subst em
      refine ⟨"list", "list.extend", PySem.F.plainAttrs_list, PySem.F.slot_list_extend, PySem.F.type_list_extend, hT, hd, ?_⟩
      refine PySem.P.extend_list (hr.tk S.es h fun v p s1 h1 k1 t1 d1 => ?_)
      obtain ⟨ps, rfl, h1⟩ := asL.inv h1
      · obtain ⟨hlt, h1⟩ := h1.elim
        obtain ⟨hz2, a2, us2, n2, rfl, hx2, ho2, dl2⟩ := den_list d1
        have hlen := dl.length
        have hlen2 := dl2.length
        have ho1 := keeps_mem k1 _ _ ho
        refine ⟨a2, us.toArray, us2.toArray, n, n2, by rw [List.size_toArray]; omega, by rw [List.size_toArray, List.size_toArray]; omega, ?_, rfl, ho1, ho2, ?_⟩
        · have := sizeLine_eq
          simp [Builtin.List.listTooLong]
          omega
        have S1 := S.after k1 t1
        have up := IsL.update (h := s1.heap) (l := a) (items := us.toArray) (n := n) ho1 (· ++ us2.toArray)
        have hs : Heap.SameBut a s1.heap (s1.heap.update a (Obj.mapSeq (· ++ us2.toArray))) := Heap.SameBut.update ..
        have mv : ∀ c o, ¬ Un X M c → s1.heap.get? c = some o → ¬ Un X M c ∧ (s1.heap.update a (Obj.mapSeq (· ++ us2.toArray))).get? c = some o := fun c o hc e => ⟨hc, by rw [hs.2 c (by rintro rfl; exact hc (.inr hM))]; exact e⟩
        obtain ⟨S2, m2⟩ := S1.touch (tk := s1.toks) (l' := .own (vs ++ ps)) hk hg rfl (hrn.keeps (keeps_mem k1)) hs ⟨_, up⟩ S1.es.tok
          ⟨by simp; omega, a, us ++ us2, _, rfl, hM, by rw [show IsL _ _ _ _ = _ from rfl] at up; rw [up, List.append_toArray]; rfl, ((dl.keeps (keeps_mem k1)).append dl2).move mv⟩
        exact hq _ _ _ _ _ h1 S2 ((Mut.of_keeps k1).trans m2) rfl

theorem inserted_front (l : List Value) (v : Value) : ((l.toArray.extract 0 0).push v ++ l.toArray.extract 0) = (v :: l).toArray := by
  apply Array.toList_inj.mp
  simp
noncomputable def insertW (r : WE) (sc : Sc) (σ : Loc) (x m : Str) (e1 e2 : Expr) (al pl : Nat) (K : FP → Loc → Prop) : Prop :=
  gd (isLoc sc x) (gd (noStar e1) (gd (noStar e2) (gd (Nat.beq al pl) (gd (nmEq m (Str.ofString "insert")) (gs (ownOf? σ x) fun vs =>
    r sc e1 σ fun p => asI p fun i => r sc e2 σ fun q => Ob (i = 0 ∧ vs.length < sizeLine) (K .next (set σ x (.own (q :: vs)))))))))
theorem insert_ok {m : Str} {e1 e2 : Expr} {xp ap cp pos : Pos} (hr : EOk W d r) (S : SS W A d X M env sc σ s) (h : insertW r sc σ x m e1 e2 ap.endLine cp.line K) (hq : SPost W A d X M env sc s K Q) :
    wpAny W.M A (exec (.Expr (.Call (.Attribute (.Name x xp) m ap) [e1, e2] [] cp) pos) env) Q E s := by
  obtain ⟨hx, g⟩ := gd.inv h
  obtain ⟨hns1, g⟩ := gd.inv g
  obtain ⟨hns2, g⟩ := gd.inv g
  obtain ⟨hln, g⟩ := gd.inv g
  obtain ⟨hm, g⟩ := gd.inv g
  obtain ⟨vs, hg0, h0⟩ := gs.inv g
  clear g h
  have hg := ownOf?.inv hg0
  have em := (nmEq_iff _ _).mp hm
  subst em
  have hk := isLoc_iff hx
  have hi : interactive env = false := by
    unfold interactive
    rw [S.es.eok.kind]
    rfl
  refine wpAny_Expr_any ?_ hi (swaps_no rfl)
  have hl : (ap.endLine == cp.line) = true := by simpa using Nat.eq_of_beq_eq_true hln
  obtain ⟨u, hrn, hz, a, us, n, rfl, hM, ho, dl⟩ := S.es.vis x _ hg (by rw [S.es.eok.names, hk])
  have hst : starEach [e1, e2] env = [(false, eval e1 env), (false, eval e2 env)] := by
    rw [starEach_plain hns1, starEach_plain hns2]; rfl
  refine Call_method2 rfl hst hl (wpAny_Name (reads_wp S.es.eok hrn ?_ (S.es.eok.ne_class hk)) (S.es.eok.ne_debug hk))
  have hT : s.TypeIs (.ref a) "list" := ⟨_, ho, rfl⟩
  have hd : ∀ b, Value.ref a = .ref b → ∃ ob, s.heap.get? b = some ob ∧ ob.dict = none := by rintro b q; cases q; exact ⟨_, ho, rfl⟩
  refine ⟨"list", "list.insert", PySem.F.plainAttrs_list, PySem.F.slot_list_insert, PySem.F.type_list_insert, hT, hd, ?_⟩
  refine method2_meetsIn PySem.F.slot_list_insert PySem.F.entry_list_insert (hr.tk S.es h0 fun v p s1 h1 k1 t1 d1 => ?_)
  obtain ⟨i, rfl, h1⟩ := asI.inv h1
  obtain ⟨tt, rfl⟩ := den_int d1
  refine hr.tk (S.es.after k1 t1) h1 fun v2 q s2 h2 k2 t2 d2 => ?_
  obtain ⟨⟨hi0, hlt⟩, h3⟩ := h2.elim
  clear h2
  subst hi0
  have hlen := dl.length
  have k12 := keeps_trans k1 k2
  have t12 := Nat.le_trans t1 t2
  have ho1 := keeps_mem k12 _ _ ho
  refine ⟨⟨_, ho1, rfl⟩, PySem.F.args_list_insert_3 _ _ _, _, (PySem.AutoSeq1.list_insert_list_int_val_1 a us.toArray n 0 tt v2 (by decide) (by rw [List.size_toArray]; omega)).inModel _ _, ho1, ?_⟩
  have S1 := S.after k12 t12
  have hf : ∀ xs : Array Value, xs = us.toArray → (have k := if (0 : Int) < 0 then ((0 : Int) + ((xs.size : Nat) : Int)).toNat else min (0 : Int).toNat xs.size; (xs.extract 0 k).push v2 ++ xs.extract k) = (v2 :: us).toArray := by
    rintro _ rfl
    rw [← inserted_front]
    simp
  have up := IsL.update (h := s2.heap) (l := a) (items := us.toArray) (n := n) ho1 (fun xs => have k := if (0 : Int) < 0 then ((0 : Int) + ((xs.size : Nat) : Int)).toNat else min (0 : Int).toNat xs.size; (xs.extract 0 k).push v2 ++ xs.extract k)
  rw [hf _ rfl] at up
  have hs : Heap.SameBut a s2.heap (s2.heap.update a (Obj.mapSeq (fun xs => have k := if (0 : Int) < 0 then ((0 : Int) + ((xs.size : Nat) : Int)).toNat else min (0 : Int).toNat xs.size; (xs.extract 0 k).push v2 ++ xs.extract k))) := Heap.SameBut.update ..
  have mv : ∀ c o, ¬ Un X M c → s2.heap.get? c = some o → ¬ Un X M c ∧ (s2.heap.update a (Obj.mapSeq (fun xs => have k := if (0 : Int) < 0 then ((0 : Int) + ((xs.size : Nat) : Int)).toNat else min (0 : Int).toNat xs.size; (xs.extract 0 k).push v2 ++ xs.extract k))).get? c = some o := fun c o hc e => ⟨hc, by rw [hs.2 c (by rintro rfl; exact hc (.inr hM))]; exact e⟩
  obtain ⟨S2, m2⟩ := S1.touch (tk := s2.toks) (l' := .own (q :: vs)) hk hg rfl (hrn.keeps (keeps_mem k12)) hs ⟨_, up⟩ S1.es.tok
    ⟨by simp; omega, a, v2 :: us, _, rfl, hM, up, DenL.cons (d2.move mv) ((dl.keeps (keeps_mem k12)).move mv)⟩
  exact hq _ _ _ _ _ h3 S2 ((Mut.of_keeps k12).trans m2) rfl

noncomputable def mergeS : List (Str × PV) → List (Str × PV) → List (Str × PV)
  | ds, [] => ds
  | ds, (k, p) :: r => mergeS (storeS ds k p) r
theorem mergeS_den {w : World} {h : Heap} : ∀ {es : List (Str × PV)} {more : List (Str × Value)} {ds : List (Str × PV)} {kvs : List (Str × Value)}, more.map (·.1) = es.map (·.1) → DenL w X h (es.map (·.2)) (more.map (·.2)) →
    kvs.map (·.1) = ds.map (·.1) → (kvs.map (·.1)).Nodup → DenL w X h (ds.map (·.2)) (kvs.map (·.2)) →
    (merged kvs more).map (·.1) = (mergeS ds es).map (·.1) ∧ DenL w X h ((mergeS ds es).map (·.2)) ((merged kvs more).map (·.2)) ∧ (mergeS ds es).length ≤ ds.length + es.length
  | [], [], ds, kvs, _, _, h1, _, h3 => ⟨h1, h3, Nat.le_refl _⟩
  | [], _ :: _, _, _, e, _, _, _, _ => by simp at e
  | _ :: _, [], _, _, e, _, _, _, _ => by simp at e
  | (k, p) :: r, (k', v) :: more, ds, kvs, e, d, h1, h2, h3 => by
    simp only [List.map_cons, List.cons.injEq] at e d
    obtain ⟨rfl, e⟩ := e
    obtain ⟨v', r', e', d1, d2⟩ := d.inv_cons
    cases e'
    obtain ⟨a1, a2, a3⟩ := storeS_den d1 (k := k') h1 h2 h3
    have hn : ((stored kvs k' v).map (·.1)).Nodup := by
      rw [a1, storeS_map]
      rw [h1] at h2
      split
      · exact h2
      · rename_i hk
        rw [List.nodup_append]
        refine ⟨h2, by simp, ?_⟩
        intro a ha b hb
        simp only [List.mem_singleton] at hb
        subst hb
        exact fun q => hk (q ▸ ha)
    obtain ⟨b1, b2, b3⟩ := mergeS_den (ds := storeS ds k' p) e d2 a1 hn a2
    exact ⟨b1, b2, by simp only [mergeS, List.length_cons]; omega⟩
noncomputable def owndOf? (σ : Loc) (x : Str) : Option (List (Str × PV)) := match get σ x with | some l => (match l with | .ownd vs => some vs | _ => none) | none => none
theorem owndOf?.inv {vs : List (Str × PV)} (h : owndOf? σ x = some vs) : get σ x = some (.ownd vs) := by
  unfold owndOf? at h
  cases hg : get σ x with
  | none => rw [hg] at h; cases h
  | some l => rw [hg] at h; cases l <;> cases h; rfl
noncomputable def updateW (sc : Sc) (σ : Loc) (x : Str) (e : Expr) (al pl : Nat) (K : FP → Loc → Prop) : Prop := match e with
  | .Dict keys values _ => gd (isLoc sc x) (gd (Nat.beq al pl) (gs (owndOf? σ x) fun ds => gs (constPairs keys values) fun es => gd (nodupKeys es) (gd (Nat.ble es.length 15) (as0 es False fun _ _ =>
      Ob (ds.length + es.length ≤ 1000) (K .next (set σ x (.ownd (mergeS ds es))))))))
  | _ => False
theorem update_ok {m : Str} {e : Expr} {xp ap cp pos : Pos} (hm : nmEq m (Str.ofString "update") = true) (S : SS W A d X M env sc σ s) (h : updateW sc σ x e ap.endLine cp.line K) (hq : SPost W A d X M env sc s K Q) :
    wpAny W.M A (exec (.Expr (.Call (.Attribute (.Name x xp) m ap) [e] [] cp) pos) env) Q E s := by
  have em := (nmEq_iff _ _).mp hm
  subst em
  cases e with
  | Dict keys values dpos =>
    obtain ⟨hx, g1⟩ := gd.inv h
    obtain ⟨hln, g2⟩ := gd.inv g1
    obtain ⟨ds, hg0, g3⟩ := gs.inv g2
    obtain ⟨es, hes, g4⟩ := gs.inv g3
    obtain ⟨hnd, g5⟩ := gd.inv g4
    obtain ⟨hle, g6⟩ := gd.inv g5
    have hg := owndOf?.inv hg0
    have hk := isLoc_iff hx
    have hi : interactive env = false := by
      unfold interactive
      rw [S.es.eok.kind]
      rfl
    have hl : (ap.endLine == cp.line) = true := by simpa using Nat.eq_of_beq_eq_true hln
    rcases es with _ | ⟨e0, er⟩
    · exact False.elim g6
    replace g6 : Ob (ds.length + (e0 :: er).length ≤ 1000) (K .next (set σ x (.ownd (mergeS ds (e0 :: er))))) := g6
    obtain ⟨hsz, g7⟩ := g6.elim
    clear h g1 g2 g3 g4 g5
    obtain ⟨u, hrn, hz, a, kvs, rfl, hM, ho, he, dl⟩ := S.es.vis x _ hg (by rw [S.es.eok.names, hk])
    obtain ⟨od, _, _, hod, hcd, _⟩ := id ho
    refine wpAny_Expr_any ?_ hi (swaps_no rfl)
    refine Call_method1 rfl rfl hl (wpAny_Name (reads_wp S.es.eok hrn ?_ (S.es.eok.ne_class hk)) (S.es.eok.ne_debug hk))
    refine ⟨"dict", "dict.update", PySem.F.plainAttrs_dict, PySem.F.slot_dict_update, PySem.F.type_dict_update, ho.typeIs, (by rintro b q; cases q; exact ⟨_, hod, hcd.2.1⟩), ?_⟩
    refine method1_meetsIn PySem.F.slot_dict_update PySem.F.entry_dict_update ?_
    have hlen : (e0 :: er).length ≤ 15 := Nat.le_of_ble_eq_true hle
    have hall : ∀ {keys : List (Option Expr)} {values : List Expr} {es : List (Str × PV)}, constPairs keys values = some es → keys.all (·.isSome) = true ∧ keys.length = values.length ∧ keys.length = es.length := by
      intro keys
      induction keys with
      | nil =>
        intro values es h
        cases values with
        | nil => cases h; exact ⟨rfl, rfl, rfl⟩
        | cons => cases h
      | cons k0 ks ih =>
        intro values es h
        obtain ⟨e, vs, q, r, rfl, hq, hr, rfl⟩ := constPairs.inv h
        obtain ⟨rfl, _, _⟩ := constPair?.inv hq
        obtain ⟨h1, h2, h3⟩ := ih hr
        exact ⟨h1, congrArg (· + 1) h2, congrArg (· + 1) h3⟩
    obtain ⟨h1, h2, h3⟩ := hall hes
    refine wpAny_with_toks (Nat.le_refl _) (wpAny_Dict_walk (knd := strKind W.prog W.w) h1 h2 (by rintro rfl; simp at h3) (by omega) ?_)
    refine constPairs_eval (X := Un X (Plus M s.heap.objs.size)) hes fun vs s1 a1 a2 a3 a4 a5 => ?_
    obtain ⟨tk, rfl⟩ := a4
    have hnew : (s.heap.push { cls := .type "dict", data := .dict #[] }).DictOf (strKind W.prog W.w) s.heap.objs.size [] := Heap.DictOf.new _
    refine display_done_str a1 (by rw [a2]; exact nodupKeys_iff hnd) hnew fun h' hm hs tt => ?_
    have hkp : ∀ b o, s.heap.get? b = some o → h'.get? b = some o := fun b o e => by
      rw [hs.2 b (Nat.ne_of_lt (Heap.lt_size e))]; exact Heap.get?_push_of_some _ e
    have hda : a ≠ s.heap.objs.size := Nat.ne_of_lt (Heap.lt_size hod)
    have hsm : (s.heap.objs.size == sysModules) = false := beq_eq_false_iff_ne.mpr (Nat.ne_of_gt (sys_low S.es.top))
    have ho' := ho.keep hkp
    have e1 : kvs.length = ds.length := by simpa using congrArg List.length he
    have e2 : (strPairs vs).length = (e0 :: er).length := by simpa using congrArg List.length a2
    refine ⟨ho'.typeIs, PySem.F.args_dict_update_2 _ _, _, meets_dict_update (strKind W.prog W.w) a s.heap.objs.size hda hsm, kvs, strPairs vs, ho', hm, by rw [e1, e2]; exact Nat.le_trans hsz (by decide), fun h2 hd2 _ hs2 => ?_⟩
    have k1 : Keeps s { s with heap := h', toks := tk + vs.length } := keeps_of hkp
    have S1 := S.after k1 tt
    obtain ⟨ob, _, _, hob, _⟩ := id hd2
    have hndk : (kvs.map (·.1)).Nodup := let ⟨_, _, _, _, _, _, _, _, e⟩ := ho; e
    have dle : DenL W.w (Un X M) h' ((e0 :: er).map (·.2)) ((strPairs vs).map (·.2)) := a3.move fun b o hb e => ⟨fun q => hb (q.elim .inl fun q => .inr (.inl q)), by rw [hs.2 b (fun q => hb (.inr (.inr q)))]; exact e⟩
    obtain ⟨m1, m2, m3⟩ := mergeS_den a2 dle he hndk (dl.keeps hkp)
    have mv : ∀ c o, ¬ Un X M c → h'.get? c = some o → ¬ Un X M c ∧ h2.get? c = some o := fun c o hc e => ⟨hc, by rw [hs2.2 c (by rintro rfl; exact hc (.inr hM))]; exact e⟩
    obtain ⟨S3, m5⟩ := S1.touch (tk := tk + vs.length) (l' := .ownd (mergeS ds (e0 :: er))) hk hg rfl (hrn.keeps (keeps_mem k1)) hs2 ⟨_, hob⟩ S1.es.tok ⟨by omega, a, _, rfl, hM, hd2, m1, m2.move mv⟩
    exact hq _ _ _ _ _ g7 S3 ((Mut.of_keeps k1).trans m5) rfl
  | _ => exact False.elim h
end
end Mine
namespace Mine

inductive Fuel (f : Nat → Prop) : Prop
  | mk (n : Nat) (h : f n)
theorem Fuel.intro {f : Nat → Prop} (n : Nat) (h : f n) : Fuel f := .mk n h
theorem Fuel.elim {f : Nat → Prop} (h : Fuel f) : ∃ n, f n := let ⟨n, h⟩ := h; ⟨n, h⟩

section
variable {W : Wd} {A : Around} {d : Nat} {X M M' : Excl} {env : Env} {sc : Sc} {σ : Loc} {s s' : Shared} {E : Value → Shared → Prop} {Q : Flow → Shared → Prop} {K : FP → Loc → Prop} {G : GC} {r : WE} {t : WT} {b : WB} {x : Str}

noncomputable def whileN (t : WT) (b : WB) (sc : Sc) (test : Expr) (body orelse : List Stmt) (K : FP → Loc → Prop) : Nat → Loc → Prop
  | 0, _ => False
  | n + 1, σ => t sc test σ fun c => Br c (b sc body σ fun fp σ' => match fp with
      | .next => whileN t b sc test body orelse K n σ'
      | .cont => whileN t b sc test body orelse K n σ'
      | .brk => K .next σ'
      | .ret p => K (.ret p) σ') (b sc orelse σ K)
theorem while_ok {test : Expr} {body orelse : List Stmt} {pos : Pos} (ht : TOk W d t) (hb : BOk W d b) (S : SS W A d X M env sc σ s) (h : Fuel fun n => whileN t b sc test body orelse K n σ) (hq : SPost W A d X M env sc s K Q) :
    wpAny W.M A (exec (.While test body orelse pos) env) Q E s := by
  obtain ⟨n, h⟩ := h.elim
  refine wpAny_While (codeAny_whileLoop (fun n s' => ∃ σ' M', SS W A d X M' env sc σ' s' ∧ Mut M M' s s' ∧ whileN t b sc test body orelse K n σ') (fun n s' hinv => ?_) n ⟨σ, M, S, Mut.refl M s, h⟩)
  obtain ⟨σ', M', S', m', h⟩ := hinv
  cases n with
  | zero => exact h.elim
  | succ n =>
    simp only [whileN] at h
    refine ht.tk S'.es h fun c s1 h1 k1 t1 => ?_
    have S1 := S'.after k1 t1
    have m1 := m'.trans (Mut.of_keeps k1)
    have h2 := h1.elim
    cases c with
    | true =>
      rw [if_pos rfl]
      refine hb _ _ _ _ _ _ _ _ _ _ _ S1 (h2.1 rfl) fun fp f σ2 M2 s2 hk S2 m2 hf => ?_
      cases fp with
      | next => cases hf; exact ⟨n, Nat.lt_succ_self n, σ2, M2, S2, m1.trans m2, hk⟩
      | cont => cases hf; exact ⟨n, Nat.lt_succ_self n, σ2, M2, S2, m1.trans m2, hk⟩
      | brk => cases hf; exact hq _ _ _ _ _ hk S2 (m1.trans m2) rfl
      | ret p => obtain ⟨v, rfl, dv⟩ := hf; exact hq _ _ _ _ _ hk S2 (m1.trans m2) ⟨v, rfl, dv⟩
    | false =>
      rw [if_neg (by simp)]
      exact hb _ _ _ _ _ _ _ _ _ _ _ S1 (h2.2 rfl) fun fp f σ2 M2 s2 hk S2 m2 hf => hq _ _ _ _ _ hk S2 (m1.trans m2) hf

noncomputable def targetW (sc : Sc) (σ : Loc) (target : Expr) (p : PV) (K : Loc → Prop) : Prop :=
  match target with
  | .Name x _ => gd (isLoc sc x) (K (set σ x (.val p)))
  | _ => False
theorem target_ok {target : Expr} {p : PV} {v : Value} {Kl : Loc → Prop} {Qs : Unit → Shared → Prop} (S : SS W A d X M env sc σ s) (dv : Den W.w (Un X M) s.heap p v) (h : targetW sc σ target p Kl)
    (hq : ∀ σ' s', Kl σ' → SS W A d X M env sc σ' s' → Mut M M s s' → Qs () s') : wpAny W.M A (assign target env v) Qs E s := by
  cases target with
  | Name x p =>
    obtain ⟨hx, h2⟩ := gd.inv h
    exact wpAny_assign_Name (store_val S (isLoc_iff hx) dv fun s2 S2 m2 => hq _ _ h2 S2 m2)
  | _ => exact False.elim h

noncomputable def Sub (σ' σ : Loc) : Prop := ∀ x l, get σ' x = some l → get σ x = some l
theorem SS.sub {σ' : Loc} (S : SS W A d X M env sc σ s) (h : Sub σ' σ) : SS W A d X M env sc σ' s :=
  ⟨⟨S.es.room, S.es.top, S.es.eok, S.es.xlt, S.es.mx, fun x l hg hk => S.es.vis x l (h x l hg) hk, S.es.tok⟩, S.fr, fun x y l k v hxy hx hy => S.sep x y l k v hxy (h x l hx) (h y k hy), fun x l v hx => S.apart x l v (h x l hx), S.mtop, S.m0, S.lw⟩
noncomputable def inNames (x : Str) : Loc → Bool
  | [] => false
  | (y, _) :: r => match nmEq y x with
    | true => true
    | false => inNames x r
noncomputable def keepN (ns : Loc) : Loc → Loc
  | [] => []
  | (y, l) :: r => match inNames y ns with
    | true => (y, l) :: keepN ns r
    | false => keepN ns r
theorem keepN_none {ns : Loc} {x : Str} (h : inNames x ns = false) : ∀ σ : Loc, get (keepN ns σ) x = none
  | [] => rfl
  | (y, l) :: r => by
    simp only [keepN]
    split
    · rename_i hy
      simp only [get]
      cases hn : nmEq y x with
      | true => rw [(nmEq_iff _ _).mp hn, h] at hy; cases hy
      | false => exact keepN_none h r
    · exact keepN_none h r
theorem keepN_sub (ns : Loc) : ∀ σ : Loc, Sub (keepN ns σ) σ
  | [], x, l, h => h
  | (y, u) :: r, x, l, h => by
    simp only [keepN] at h
    simp only [get]
    split at h
    · simp only [get] at h
      cases hn : nmEq y x with
      | true => rw [hn] at h; exact h
      | false => rw [hn] at h; exact keepN_sub ns r x l h
    · rename_i hy
      cases hn : nmEq y x with
      | true =>
        rw [(nmEq_iff _ _).mp hn] at hy
        rw [keepN_none hy r] at h; cases h
      | false => exact keepN_sub ns r x l h
noncomputable def forL (cut : Loc → Loc) (b : WB) (sc : Sc) (target : Expr) (body orelse : List Stmt) (K : FP → Loc → Prop) : List PV → Loc → Prop
  | [], σ => b sc orelse σ K
  | p :: ps, σ => targetW sc (cut σ) target p fun σ' => b sc body σ' fun fp σ'' => match fp with
      | .next => forL cut b sc target body orelse K ps σ''
      | .cont => forL cut b sc target body orelse K ps σ''
      | .brk => K .next σ''
      | .ret p => K (.ret p) σ''
noncomputable def forW (cut : Loc → Loc) (r : WE) (b : WB) (sc : Sc) (σ : Loc) (target iter : Expr) (body orelse : List Stmt) (K : FP → Loc → Prop) : Prop :=
  gd (noSet iter) (r sc iter σ fun p => iterW p fun xs => forL cut b sc target body orelse K xs σ)

theorem for_ok {cut : Loc → Loc} (hc : ∀ σ, Sub (cut σ) σ) {target iter : Expr} {body orelse : List Stmt} {pos : Pos} (hr : EOk W d r) (hb : BOk W d b) (S : SS W A d X M env sc σ s) (h : forW cut r b sc σ target iter body orelse K) (hq : SPost W A d X M env sc s K Q) :
    wpAny W.M A (exec (.For target iter body orelse pos) env) Q E s := by
  obtain ⟨hns, h⟩ := gd.inv h
  · refine wpAny_For (hr.tk S.es h fun v p s1 h1 k1 t1 d1 => ?_) (folded_plain hns)
    have S1 := S.after k1 t1
    refine wpAny_with_toks S1.es.tok (iter_op S1.es.xlt d1 h1 fun xs s2 fp P St h2 k2 it tk2 => ?_)
    have hInone : s1.heap.get? s1.heap.objs.size = none := fresh_none (h' := s1.heap) fun _ _ e => e
    obtain ⟨oI, hoI⟩ := it.live _ _ it.start
    obtain ⟨S2, hMI, hXI, htop⟩ := S1.shield k2 tk2 hInone hoI
    generalize hIe : s1.heap.objs.size = I at *
    refine codeAny_forLoop_any (fun m s' => ∃ i σi Mi, i + m = xs.length ∧ SS W A d (Plus X I) Mi env sc σi s' ∧ St i s'.heap ∧ Mut M Mi s1 s' ∧
      (∀ b o, b ≠ I → ¬ M b → s2.heap.get? b = some o → ¬ Mi b ∧ s'.heap.get? b = some o) ∧ forL cut b sc target body orelse K (xs.drop i) σi) (fun m s' hinv => ?_) xs.length
      ⟨0, σ, M, Nat.zero_add _, S2, it.start, Mut.of_keeps k2, fun b o _ hb e => ⟨hb, e⟩, h2⟩
    obtain ⟨i, σi, Mi, him, Si, sti, mi, hbel, h⟩ := hinv
    have WK := it.walks A S.es.room.handled
    have hMiI : ¬ Mi I := fun q => Si.m0 I q (.inr rfl)
    have outer : ∀ {M2 s3}, Mut M M2 s1 s3 → Mut M M2 s s3 := fun m => (Mut.of_keeps k1).trans m
    by_cases hlt : i < xs.length
    case neg =>
      have hi : i = xs.length := turn_end him (Nat.not_lt.mp hlt)
      subst hi
      rw [List.drop_length] at h
      simp only [forL] at h
      refine wpAny_with_toks Si.es.tok (WK.done s' _ _ sti fun h' tk hk htk => ?_)
      have hkp : ∀ b o, b ≠ I → s'.heap.get? b = some o → h'.get? b = some o := fun b o hb e => hk b o (by simpa using hb) e
      have S3 := Si.jolt (X' := X) hMiI hXI htop hkp htk (.inl rfl)
      refine hb _ _ _ _ _ _ _ _ _ _ _ S3 h fun fp f σ4 M4 s4 hK S4 m4 hf => hq _ _ _ _ _ hK S4 (outer (Mut.trans ?_ m4)) hf
      obtain ⟨hh, tt, rfl, mm⟩ := mi
      refine ⟨h', tk, rfl, fun b o hb e => ⟨(mm b o hb e).1, hkp b o (by rintro rfl; rw [hInone] at e; cases e) (mm b o hb e).2⟩⟩
    case pos =>
      obtain ⟨p, hp⟩ : ∃ p, xs[i]? = some p := ⟨xs[i], by simp [hlt]⟩
      have hdrop : xs.drop i = p :: xs.drop (i + 1) := by
        rw [List.drop_eq_getElem_cons hlt]
        have := hp
        rw [List.getElem?_eq_getElem hlt] at this
        cases this; rfl
      rw [hdrop] at h
      simp only [forL] at h
      refine wpAny_with_toks Si.es.tok (WK.item i s' _ _ hlt sti fun v h' tk hPv hst hk htk => ?_)
      have hkp : ∀ b o, b ≠ I → s'.heap.get? b = some o → h'.get? b = some o := fun b o hb e => hk b o (by simpa using hb) e
      obtain ⟨oi, n, hoi, hcls, hpl⟩ := it.cls _ _ hst
      have S3 := Si.jolt (X' := Plus X I) hMiI hXI htop hkp htk (.inr ⟨rfl, oi, hoi⟩)
      have m3 : Mut M Mi s1 { s' with heap := h', toks := tk } := by
        obtain ⟨hh, tt, rfl, mm⟩ := mi
        exact ⟨h', tk, rfl, fun b o hb e => ⟨(mm b o hb e).1, hkp b o (by rintro rfl; rw [hInone] at e; cases e) (mm b o hb e).2⟩⟩
      have hbel3 : ∀ b o, b ≠ I → ¬ M b → s2.heap.get? b = some o → ¬ Mi b ∧ h'.get? b = some o := fun b o h1 h2 e => ⟨(hbel b o h1 h2 e).1, hkp b o h1 (hbel b o h1 h2 e).2⟩
      obtain ⟨q, hqe, dv⟩ := it.item (Un (Plus X I) Mi) i v h' (fun b o hx hb e => by
        have h3 := hbel3 b o hb (fun q => hx (.inr q)) e
        refine ⟨?_, h3.2⟩
        rintro ((q | q) | q)
        · exact hx (.inl q)
        · exact hb q
        · exact h3.1 q) hPv
      rw [hp] at hqe; cases hqe
      refine letGo_plain hoi hcls hpl ?_
      refine target_ok (S3.sub (hc _)) dv h fun σ4 s4 h4 S4 m4 => ?_
      have hbel4 : ∀ b o, b ≠ I → ¬ M b → s2.heap.get? b = some o → ¬ Mi b ∧ s4.heap.get? b = some o := fun b o h1 h2 e => let ⟨h3, h5⟩ := hbel3 b o h1 h2 e; m4.mem b o h3 h5
      have frame : ∀ {M5 s5}, Mut Mi M5 s4 s5 → St (i + 1) s5.heap := by
        intro M5 s5 m5
        refine WK.frame _ _ _ hst fun b hb o e => ?_
        have nb : ¬ Mi b := by
          by_cases hbI : b = I
          · subst hbI; exact hMiI
          · obtain ⟨o', e'⟩ := it.alive b hb
            exact (hbel3 b o' hbI (fun q => it.out b hb hbI (.inr q)) e').1
        exact (m5.mem b o nb (m4.mem b o nb e).2).2
      have leave : ∀ {σ5 M5 s5}, SS W A d (Plus X I) M5 env sc σ5 s5 → SS W A d X M5 env sc σ5 s5 := by
        intro σ5 M5 s5 S5
        exact S5.jolt (h' := s5.heap) (tk := s5.toks) (fun q => S5.m0 I q (.inr rfl)) hXI htop (fun _ _ _ e => e) S5.es.tok (.inl rfl)
      refine hb _ _ _ _ _ _ _ _ _ _ _ S4 h4 fun fp f σ5 M5 s5 h5 S5 m5 hf => ?_
      have m15 := m3.trans (m4.trans m5)
      have hbel5 : ∀ b o, b ≠ I → ¬ M b → s2.heap.get? b = some o → ¬ M5 b ∧ s5.heap.get? b = some o := fun b o h1 h2 e => let ⟨h3, h5⟩ := hbel4 b o h1 h2 e; m5.mem b o h3 h5
      cases fp with
      | next => cases hf; exact ⟨xs.length - (i + 1), (turn_rest him hlt).1, i + 1, σ5, M5, (turn_rest him hlt).2, S5, frame m5, m15, hbel5, h5⟩
      | cont => cases hf; exact ⟨xs.length - (i + 1), (turn_rest him hlt).1, i + 1, σ5, M5, (turn_rest him hlt).2, S5, frame m5, m15, hbel5, h5⟩
      | brk => cases hf; exact hq _ _ _ _ _ h5 (leave S5) (outer m15) rfl
      | ret q => obtain ⟨u, rfl, du⟩ := hf; exact hq _ _ _ _ _ h5 (leave S5) (outer m15) ⟨u, rfl, den_jolt (fun _ _ _ e => e) du⟩
end
end Mine
namespace Mine

section
variable {W : Wd} {A : Around} {d : Nat} {X M M' : Excl} {env cenv : Env} {sc : Sc} {σ : Loc} {s s' : Shared} {E : Value → Shared → Prop} {G : GC} {r : WE} {t : WT} {b : WB} {x : Str}

theorem SS.pin {p : PV} {v : Value} (S : SS W A d X M env sc σ s) (hg : get σ x = some (.val p)) (hk : vkOf (env.kindOf x) = some .loc) (hr : ReadsName env s.heap x v) : SS W A d X M env sc (set σ x (.is v p)) s := by
  have back : ∀ y k, get (set σ x (.is v p)) y = some k → isOwn k = true → get σ y = some k := fun y k hg ho => by
    rw [get_set] at hg
    by_cases hyx : y = x
    · rw [if_pos hyx] at hg; cases hg; cases ho
    · rwa [if_neg hyx] at hg
  refine ⟨⟨S.es.room, S.es.top, S.es.eok, S.es.xlt, S.es.mx, fun y l hgy hky => ?_, S.es.tok⟩, S.fr, fun y z l k u hyz hgy hgz oy oz => S.sep y z l k u hyz (back y l hgy oy) (back z k hgz oz) oy oz, fun y l u hgy oy => S.apart y l u (back y l hgy oy) oy, S.mtop, S.m0, S.lw⟩
  rw [get_set] at hgy
  by_cases hyx : y = x
  · subst hyx
    rw [if_pos rfl] at hgy
    cases hgy
    obtain ⟨u, hru, du⟩ := S.es.vis y _ hg hky
    have := hru.inj hr
    subst this
    exact ⟨u, hru, rfl, du⟩
  · rw [if_neg hyx] at hgy
    exact S.es.vis y l hgy hky
noncomputable def pinW (sc : Sc) : List Str → Loc → (Loc → Prop) → Prop
  | [], σ, K => K σ
  | x :: r, σ, K => match isLoc sc x with
    | true => (match get σ x with
      | none => pinW sc r σ K
      | some l => (match l with
        | .val p => (match p with
          | .list ps => ∀ a, pinW sc r (set σ x (.is (.ref a) (.list ps))) K
          | _ => pinW sc r σ K)
        | _ => pinW sc r σ K))
    | false => pinW sc r σ K
theorem pin_ok {Kl : Loc → Prop} : ∀ {xs : List Str} {σ : Loc}, SS W A d X M env sc σ s → pinW sc xs σ Kl → ∃ σ', SS W A d X M env sc σ' s ∧ Kl σ'
  | [], σ, S, h => ⟨σ, S, h⟩
  | x :: xs, σ, S, h => by
    unfold pinW at h
    cases hx : isLoc sc x with
    | false => rw [hx] at h; exact pin_ok S h
    | true =>
      rw [hx] at h
      have hk : vkOf (env.kindOf x) = some .loc := by rw [S.es.eok.names, isLoc_iff hx]
      cases hg : get σ x with
      | none => rw [hg] at h; exact pin_ok S h
      | some l =>
        rw [hg] at h
        cases l with
        | val p =>
          cases p with
          | list ps =>
            obtain ⟨v, hr, dv⟩ := S.es.vis x _ hg hk
            obtain ⟨_, a, us, n, rfl, _⟩ := den_list dv
            exact pin_ok (S.pin hg hk hr) (h a)
          | _ => exact pin_ok S h
        | _ => exact pin_ok S h

theorem SS.flok (S : SS W A d X M env sc σ s) : FlOk W (Un X M) (some env.locals) s.heap := by
  refine ⟨fun L q => ?_, fun L q => ?_, fun L q => ?_⟩ <;> cases q
  · exact .inr S.fr.loc.1
  · cases e : W.top.get? env.locals with
    | none => rfl
    | some o => exact absurd S.fr.loc.1 (S.mtop _ _ e)
  · exact S.fr.loc.2
theorem SS.afterF (S : SS W A d X M env sc σ s) (hno : noOwnd σ = true) (k : KeepsF (some env.locals) s s') (t : 1 ≤ s'.toks) : SS W A d X M env sc σ s' ∧ Mut M M s s' := by
  have back : ∀ y l v, get σ y = some l → vkOf (env.kindOf y) = some .loc → ReadsName env s'.heap y v → ReadsName env s.heap y v := fun y l v hg hky hr => by
    obtain ⟨u, hru, _⟩ := S.es.vis y l hg hky
    have := (reads_keepsF k hru).inj hr
    subst this
    exact hru
  refine ⟨⟨S.es.afterF S.flok (.inr hno) k t, ⟨⟨S.fr.loc.1, let ⟨m, hn⟩ := S.fr.loc.2; ⟨m, ns_keepsF k hn⟩⟩, fun y hy => let ⟨c, v, h1, h2, h3⟩ := S.fr.cell y hy; ⟨c, v, h1, cell_keepsF k h2, h3⟩, S.fr.inj, S.fr.noFree⟩,
    fun y z l j v hyz hgy hgz oy oz hky hkz ry rz => S.sep y z l j v hyz hgy hgz oy oz hky hkz (back y l v hgy hky ry) (back z j v hgz hkz rz), fun y l v hgy oy hky ry => S.apart y l v hgy oy hky (back y l v hgy hky ry), S.mtop, S.m0, S.lw⟩, ?_⟩
  obtain ⟨h', tk, rfl, k⟩ := k
  exact ⟨h', tk, rfl, fun c o hc e => ⟨hc, (k c o e).1 fun q => hc (by cases q; exact S.fr.loc.1)⟩⟩

noncomputable def lvP (l : LV) (F : PV → Prop) : Prop := match l with
  | .val p => F p
  | .is _ p => F p
  | _ => False
theorem lvP.inv {l : LV} {F : PV → Prop} (h : lvP l F) : ∃ p, (∀ {P w} {X M : Excl} {h v}, LDen P w X M h l v → Den w X h p v) ∧ isOwn l = false ∧ F p := by
  cases l with
  | val p => exact ⟨p, fun d => d, rfl, h⟩
  | is u p => exact ⟨p, fun d => d.2, rfl, h⟩
  | _ => exact False.elim h
noncomputable def handEW (sg : Nat → List Str) (ms : Str → Str → Str) (sc : Sc) (σ : Loc) (y kx : Str) (Kt : PV → Prop) (Ks : LV → Prop) : Prop :=
  gd (isLoc sc y) (gd (isLoc sc kx) (gs (get σ y) fun ly => gs (get σ kx) fun lk => lvP ly fun p => lvP lk fun q => asI q fun k => Ob (0 ≤ k ∧ k < 5) (handW (sg k.toNat) ms p Kt (Ks ly))))

theorem hand_eval {f y kx : Str} {p py pk pos : Pos} {sg : Nat → List Str} {ms : Str → Str → Str} {Kt : PV → Prop} {Ks : LV → Prop} {Q : Value → Shared → Prop} (hf : isGlob sc f = true) (H : HandOK W d f sg ms) (es : ES W A d X M cenv sc σ s) (hfr : A.frames = some [env])
    (hef : env.frame = some env.locals) (hek : env.scope.kind = .function) (F : FlOk W X (some env.locals) s.heap) (h : handEW sg ms sc σ y kx Kt Ks)
    (hq1 : ∀ u q s', Kt q → KeepsF (some env.locals) s s' → s.toks ≤ s'.toks → Den W.w X s'.heap q u → Q u s')
    (hq2 : ∀ u l s', Ks l → isOwn l = false → KeepsF (some env.locals) s s' → s.toks ≤ s'.toks → LDen W.prog W.w X M s'.heap l u → Q u s') :
    wpAny W.M A (eval (.Call (.Name f p) [.Name y py, .Name kx pk] [] pos) cenv) Q E s := by
  obtain ⟨hy, h⟩ := gd.inv h
  obtain ⟨hx, h⟩ := gd.inv h
  obtain ⟨ly, gy, h⟩ := gs.inv h
  obtain ⟨lk, gk, h⟩ := gs.inv h
  obtain ⟨pv, dy, oy, h⟩ := lvP.inv h
  obtain ⟨qv, dk, ok, h⟩ := lvP.inv h
  obtain ⟨k, rfl, h⟩ := asI.inv h
  obtain ⟨⟨hk0, hk5⟩, h⟩ := Ob.elim h
  have hky := isLoc_iff hy
  have hkx := isLoc_iff hx
  obtain ⟨v, rv, dv⟩ := es.vis y _ gy (by rw [es.eok.names, hky])
  obtain ⟨u, ru, du⟩ := es.vis kx _ gk (by rw [es.eok.names, hkx])
  obtain ⟨tk, rfl⟩ := den_int (dk du)
  obtain ⟨a, hfa, ⟨o, fd, hto, hod⟩, hc⟩ := H.get
  have hg := isGlob.inv hf
  refine wpAny_Call_Name_kw (Calls.Name_function_global es.eok.kind (glob_kind es.eok hg) ?_ (es.eok.ne_debug hg))
  refine Calls.loadGlobal_global (nsTop es.top es.eok).1 hfa ?_
  refine Calls.callWith_function (o := o) (fd := fd) (Calls.evalArgs_plain (Calls.spliced_cons ?_))
  refine wpAny_Name (reads_wp es.eok rv ?_ (es.eok.ne_class hky)) (es.eok.ne_debug hky)
  refine Calls.spliced_cons ?_
  refine wpAny_Name (reads_wp es.eok ru ?_ (es.eok.ne_class hkx)) (es.eok.ne_debug hkx)
  refine Calls.spliced_nil ⟨⟨es.top _ _ hto, hod⟩, ?_⟩
  obtain ⟨n, rfl⟩ := Int.eq_ofNat_of_zero_le hk0
  refine wpAny_with_toks (Nat.le_refl _) (hc es.room hfr hef hek F es.top es.xlt (dy dv) (by omega) h (fun u q s1 h1 k1 d1 t1 => hq1 u q s1 h1 k1 t1 d1) fun s1 h1 k1 t1 => hq2 v ly s1 h1 oy k1 t1 (dv.keepsF k1 F (.inr fun es' q => ?_)))
  rw [q] at oy
  cases oy

noncomputable def callOf? (e : Expr) : Option (Expr × List Expr × List Keyword × Pos) := match e with | .Call f a k p => some (f, a, k, p) | _ => none
theorem callOf?.inv {e : Expr} {q : Expr × List Expr × List Keyword × Pos} (h : callOf? e = some q) : e = .Call q.1 q.2.1 q.2.2.1 q.2.2.2 := by
  cases e <;> first | exact nsome h | (cases h; rfl)
noncomputable def hcall? (G : GC) (e : Expr) : Option ((Str × (Nat → List Str) × (Str → Str → Str)) × Pos × (Str × Pos) × (Str × Pos) × Pos) := ob G.hand fun q => ob (callOf? e) fun c => o0 c.2.2.1 (ob (nameOf? c.1) fun g => og (nmEq g.1 q.1)
  (o2 c.2.1 fun a b => ob (nameOf? a) fun y => ob (nameOf? b) fun k => some (q, g.2, y, k, c.2.2.2))) fun _ _ => none
theorem hcall?.inv {G : GC} {e : Expr} {c : (Str × (Nat → List Str) × (Str → Str → Str)) × Pos × (Str × Pos) × (Str × Pos) × Pos} (h : hcall? G e = some c) :
    G.hand = some c.1 ∧ e = .Call (.Name c.1.1 c.2.1) [.Name c.2.2.1.1 c.2.2.1.2, .Name c.2.2.2.1.1 c.2.2.2.1.2] [] c.2.2.2.2 := by
  obtain ⟨q, hG, h⟩ := ob.inv h
  obtain ⟨f, h1, h⟩ := ob.inv h
  obtain ⟨h2, h⟩ := o0.inv h
  obtain ⟨g, h3, h⟩ := ob.inv h
  obtain ⟨h4, h⟩ := og.inv h
  obtain ⟨a, b, h5, h⟩ := o2.inv h
  obtain ⟨y, h6, h⟩ := ob.inv h
  obtain ⟨k, h7, h⟩ := ob.inv h
  rw [← Option.some.inj h]
  refine ⟨hG, ?_⟩
  rw [callOf?.inv h1, h2, h5, nameOf?.inv h3, nameOf?.inv h6, nameOf?.inv h7, (nmEq_iff _ _).mp h4]
  all_goals rfl

noncomputable def handAsgW (sc : Sc) (σ : Loc) (x : Str) (q : Str × (Nat → List Str) × (Str → Str → Str)) (y kx : Str) (K : FP → Loc → Prop) : Prop :=
  gd (isLoc sc x) (gd (isGlob sc q.1) (gd (noOwnd σ) (handEW q.2.1 q.2.2 sc σ y kx (fun p => K .next (set σ x (.val p))) fun l => K .next (set σ x l))))

variable {Q : Flow → Shared → Prop} {K : FP → Loc → Prop}
theorem hand_asg_ok {q : Str × (Nat → List Str) × (Str → Str → Str)} {y kx : Str} {px p py pk cp pos : Pos} (hd : d = 11) (H : HandOK W d q.1 q.2.1 q.2.2) (S : SS W A d X M env sc σ s) (h : handAsgW sc σ x q y kx K) (hq : SPost W A d X M env sc s K Q) :
    wpAny W.M A (exec (.Assign [.Name x px] (.Call (.Name q.1 p) [.Name y py, .Name kx pk] [] cp) pos) env) Q E s := by
  obtain ⟨hx, h⟩ := gd.inv h
  obtain ⟨hg, h⟩ := gd.inv h
  obtain ⟨hno, h⟩ := gd.inv h
  obtain ⟨hfr, hef⟩ := S.lw hd
  refine wpAny_Assign_Name (hand_eval hg H S.es hfr hef S.es.eok.kind S.flok h (fun u p s1 h1 k1 t1 d1 => ?_) fun u l s1 h1 ol k1 t1 d1 => ?_) (swaps_no rfl)
  · obtain ⟨S1, m1⟩ := S.afterF hno k1 (Nat.le_trans S.es.tok t1)
    exact store_val S1 (isLoc_iff hx) d1 fun s2 S2 m2 => hq _ _ _ _ _ h1 S2 (m1.trans m2) rfl
  · obtain ⟨S1, m1⟩ := S.afterF hno k1 (Nat.le_trans S.es.tok t1)
    exact store_name_ok S1 (isLoc_iff hx) d1 (fun e => by rw [ol] at e; cases e) (fun e => by rw [ol] at e; cases e) fun s2 S2 m2 => hq _ _ _ _ _ h1 S2 (m1.trans m2) rfl

noncomputable def handLW (q : Str × (Nat → List Str) × (Str → Str → Str)) (sc : Sc) (σ : Loc) (x y kx : Str) : List PV → List PV → (List PV → Prop) → Prop
  | [], acc, K => K acc
  | p :: ps, acc, K => handEW q.2.1 q.2.2 sc (set σ x (.val p)) y kx (fun u => handLW q sc σ x y kx ps (acc ++ [u]) K) fun l => lvP l fun u => handLW q sc σ x y kx ps (acc ++ [u]) K
structure HIf where
  q : Str × (Nat → List Str) × (Str → Str → Str)
  p : Pos
  y : Str × Pos
  kx : Str × Pos
  cp : Pos
  x : Str × Pos
  iter : Expr
  scope : Scope
  lp : Pos
  op : CmpOp
  rr : Expr
  pos : Pos
noncomputable def cmpOf? (e : Expr) : Option (Expr × List CmpOp × List Expr × Pos) := match e with | .Compare l o r p => some (l, o, r, p) | _ => none
theorem cmpOf?.inv {e : Expr} {q : Expr × List CmpOp × List Expr × Pos} (h : cmpOf? e = some q) : e = .Compare q.1 q.2.1 q.2.2.1 q.2.2.2 := by
  cases e <;> first | exact nsome h | (cases h; rfl)
noncomputable def hif? (G : GC) (e : Expr) : Option HIf := ob (cmpOf? e) fun c => ob (lcOf? c.1) fun l => ob (hcall? G l.1) fun k => ob (genOf? l.2.1) fun g => o0 g.2.2 (o1 c.2.1 fun op => o1 c.2.2.1 fun rr =>
  some ⟨k.1, k.2.1, k.2.2.1, k.2.2.2.1, k.2.2.2.2, g.1, g.2.1, l.2.2.1, l.2.2.2, op, rr, c.2.2.2⟩) fun _ _ => none
theorem hif?.inv {G : GC} {e : Expr} {c : HIf} (h : hif? G e = some c) : G.hand = some c.q ∧
    e = .Compare (.ListComp (.Call (.Name c.q.1 c.p) [.Name c.y.1 c.y.2, .Name c.kx.1 c.kx.2] [] c.cp) [⟨.Name c.x.1 c.x.2, c.iter, [], 0⟩] c.scope c.lp) [c.op] [c.rr] c.pos := by
  obtain ⟨m, h1, h⟩ := ob.inv h
  obtain ⟨l, h2, h⟩ := ob.inv h
  obtain ⟨k, h3, h⟩ := ob.inv h
  obtain ⟨g, h4, h⟩ := ob.inv h
  obtain ⟨h5, h⟩ := o0.inv h
  obtain ⟨op, h6, h⟩ := o1.inv h
  obtain ⟨rr, h7, h⟩ := o1.inv h
  obtain ⟨e1, e2⟩ := hcall?.inv h3
  rw [← Option.some.inj h]
  refine ⟨e1, ?_⟩
  rw [cmpOf?.inv h1, lcOf?.inv h2, genOf?.inv h4, e2, h5, h6, h7]
  all_goals rfl
noncomputable def handIfW (r : WE) (b : WB) (sc : Sc) (σ : Loc) (c : HIf) (body orelse : List Stmt) (K : FP → Loc → Prop) : Prop :=
  gd (noOwnd σ) (gd (compOk sc σ [c.x.1] c.scope c.iter) (gd (noSet c.rr) (gd (isGlob c.scope.names c.q.1) (r sc c.iter σ fun p => iterW p fun ps => handLW c.q c.scope.names σ c.x.1 c.y.1 c.kx.1 ps [] fun ys =>
    r sc c.rr σ fun bv => cmpW c.op (.list ys) bv fun u => truthW u fun v => Br v (b sc body σ K) (b sc orelse σ K)))))
theorem hand_if_ok {c : HIf} {body orelse : List Stmt} {pos : Pos} (hd : d = 11) (H : HandOK W d c.q.1 c.q.2.1 c.q.2.2) (hr : EOk W d r) (ht : TOk W d t) (hb : BOk W d b) (S : SS W A d X M env sc σ s) (h : handIfW r b sc σ c body orelse K) (hq : SPost W A d X M env sc s K Q) :
    wpAny W.M A (exec (.If (.Compare (.ListComp (.Call (.Name c.q.1 c.p) [.Name c.y.1 c.y.2, .Name c.kx.1 c.kx.2] [] c.cp) [⟨.Name c.x.1 c.x.2, c.iter, [], 0⟩] c.scope c.lp) [c.op] [c.rr] c.pos) body orelse pos) env) Q E s := by
  obtain ⟨hno, h⟩ := gd.inv h
  obtain ⟨hok, h⟩ := gd.inv h
  obtain ⟨hs, h⟩ := gd.inv h
  obtain ⟨hgl, h⟩ := gd.inv h
  obtain ⟨hfr, hef⟩ := S.lw hd
  refine wpAny_If (wpAny_isTrue_Compare1 ?_ (marks_of hs))
  rw [arm_eval_ListComp]
  refine comp_any (fl := some env.locals) (K := fun p => r sc c.rr σ fun bv => cmpW c.op p bv fun u => truthW u fun v => Br v (b sc body σ K) (b sc orelse σ K)) (LW := handLW c.q c.scope.names σ c.x.1 c.y.1 c.kx.1)
    (ER := fun σ' Kp => handEW c.q.2.1 c.q.2.2 c.scope.names σ' c.y.1 c.kx.1 Kp fun l => lvP l Kp) (L0 := fun ps Kl => handLW c.q c.scope.names σ c.x.1 c.y.1 c.kx.1 ps [] Kl) (fun _ _ h => h) hr ht S.es S.flok (.inr hno) hok h (fun acc Kl h => h) (fun p ps acc Kl h => ⟨_, .name _ _ p σ, ⟨fun _ => h, fun e => nomatch e⟩⟩)
    (fun X' cenv σ' s5 Kp Qe E' _ es5 fo5 h5 hq5 => hand_eval hgl H es5 hfr hef S.es.eok.kind fo5 h5 (fun u q s6 hK k6 t6 d6 => hq5 u q s6 hK k6 t6 d6) fun u l s6 hl ol k6 t6 d6 => ?_) (comp_list (K := fun p => r sc c.rr σ fun bv => cmpW c.op p bv fun u => truthW u fun v => Br v (b sc body σ K) (b sc orelse σ K)) (fun L q => let ⟨m, o, _, _, e, _⟩ := S.flok.ns L q; ⟨o, e⟩) fun v p s1 h1 k1 t1 d1 => ?_)
  · obtain ⟨q, dq, _, hK⟩ := lvP.inv hl
    exact hq5 u q s6 hK k6 t6 (dq d6)
  · obtain ⟨S1, m1⟩ := S.afterF hno k1 t1
    refine hr.tk S1.es h1 fun u q s2 h2 k2 t2 d2 => ?_
    have S2 := S1.after k2 t2
    refine wpAny_with_toks (Nat.le_refl _) (cmp_op (room_units S2.es.room) (d1.keeps (keeps_mem k2)) d2 h2 fun w p3 s3 h3 k3 d3 t3 => ?_)
    have S3 := S2.after k3 t3
    refine wpAny_with_toks (Nat.le_refl _) (truth_op d3 h3 fun v s4 h4 k4 t4 => ?_)
    have S4 := S3.after k4 t4
    have h4 := h4.elim
    have m4 := m1.trans (Mut.of_keeps (keeps_trans k2 (keeps_trans k3 k4)))
    cases v with
    | true => exact hb _ _ _ _ _ _ _ _ _ _ _ S4 (h4.1 rfl) (hq.after m4)
    | false => exact hb _ _ _ _ _ _ _ _ _ _ _ S4 (h4.2 rfl) (hq.after m4)
end
end Mine
namespace Mine

section
variable {W : Wd} {A : Around} {d : Nat} {X M M' : Excl} {env : Env} {sc : Sc} {σ : Loc} {s s' : Shared} {E : Value → Shared → Prop} {Q : Flow → Shared → Prop} {K : FP → Loc → Prop} {G : GC} {r : WE} {t : WT} {b : WB} {x : Str}

noncomputable def frz1 (sc : Sc) (σ : Loc) (x : Str) : Loc :=
  match isLoc sc x, get σ x with
  | true, some (.own vs) => set σ x (.val (.list vs))
  | _, _ => σ
noncomputable def frz (sc : Sc) : List Str → Loc → Loc
  | [], σ => σ
  | x :: r, σ => frz sc r (frz1 sc σ x)
theorem frz_ok : ∀ {xs : List Str} {σ : Loc} {M : Excl}, SS W A d X M env sc σ s → ∃ M', SS W A d X M' env sc (frz sc xs σ) s ∧ Mut M M' s s
  | [], σ, M, S => ⟨M, S, Mut.refl M s⟩
  | x :: r, σ, M, S => by
    have : ∃ M', SS W A d X M' env sc (frz1 sc σ x) s ∧ Mut M M' s s := by
      unfold frz1
      split
      · rename_i vs hx hg
        exact S.freeze (isLoc_iff hx) hg
      · exact ⟨M, S, Mut.refl M s⟩
    obtain ⟨M1, S1, m1⟩ := this
    obtain ⟨M2, S2, m2⟩ := frz_ok (xs := r) S1
    exact ⟨M2, S2, m1.trans m2⟩
noncomputable def nameArgs : List Expr → List Str
  | [] => []
  | .Name x _ :: r => x :: nameArgs r
  | _ :: r => nameArgs r
noncomputable def bares : List Expr → List Str
  | [] => []
  | .Call (.Name _ _) args _ _ :: r => nameArgs args ++ bares r
  | .Name x _ :: r => x :: bares r
  | _ :: r => bares r
noncomputable def bare : Expr → List Str
  | .Name x _ => [x]
  | .Call (.Name _ _) args _ _ => nameArgs args
  | .List es _ => bares es
  | _ => []

noncomputable def inMu (x : Str) : List Str → Bool
  | [] => false
  | y :: r => match nmEq y x with
    | true => true
    | false => inMu x r

noncomputable def mus (mu : List Str) : List Str → List Str
  | [] => []
  | x :: r => match inMu x mu with
    | true => x :: mus mu r
    | false => mus mu r

noncomputable def swapOf? (es : List Expr) (value : Expr) : Option ((Str × Pos) × (Str × Pos) × (Str × Pos) × (Str × Pos) × (Nat × Pos)) := o2 es fun e1 e2 => ob (nameOf? e1) fun x => ob (nameOf? e2) fun y => ob (pairOf? value) fun q =>
  some (x, y, q.1, q.2.1, q.2.2.1, q.2.2.2)
theorem swapOf?.inv {es : List Expr} {value : Expr} {q : (Str × Pos) × (Str × Pos) × (Str × Pos) × (Str × Pos) × (Nat × Pos)} (h : swapOf? es value = some q) :
    es = [.Name q.1.1 q.1.2, .Name q.2.1.1 q.2.1.2] ∧ value = .Tuple [.Name q.2.2.1.1 q.2.2.1.2, .Name q.2.2.2.1.1 q.2.2.2.1.2] q.2.2.2.2.1 q.2.2.2.2.2 := by
  obtain ⟨e1, e2, rfl, h⟩ := o2.inv h
  obtain ⟨x, h1, h⟩ := ob.inv h
  obtain ⟨y, h2, h⟩ := ob.inv h
  obtain ⟨p, h3, h⟩ := ob.inv h
  cases h
  cases nameOf?.inv h1
  cases nameOf?.inv h2
  exact ⟨rfl, pairOf?.inv h3⟩
noncomputable def assign1W (G : GC) (mu : List Str) (r : WE) (t : WT) (sc : Sc) (σ : Loc) (target value : Expr) (K : FP → Loc → Prop) : Prop := match target with
  | .Name x _ => (match hcall? G value with
    | some c => handAsgW sc σ x c.1 c.2.2.1.1 c.2.2.2.1.1 K
    | none => (match inMu x mu with
      | true => assignOwnW r sc σ x value K
      | false => assignW r t sc (frz sc (mus mu (bare value)) σ) x value K))
  | .Tuple es _ _ => (match swapOf? es value with
    | some q => swapW G sc σ q.1.1 q.2.1.1 q.2.2.1.1 q.2.2.2.1.1 q.1.2.line q.2.1.2.line K
    | none => False)
  | .Subscript o i _ => gs (nameOf? o) fun x => itemStoreW r sc σ x.1 i value K
  | _ => False
noncomputable def assignsW (G : GC) (mu : List Str) (r : WE) (t : WT) (sc : Sc) (σ : Loc) (ts : List Expr) (value : Expr) (K : FP → Loc → Prop) : Prop :=
  as0 ts False fun t1 l => as0 l (assign1W G mu r t sc σ t1 value K) fun t2 l => as0 l (gs (nameOf? t1) fun x => gs (nameOf? t2) fun y => chainW r sc σ x.1 y.1 value K) fun _ _ => False
noncomputable def exprW (mu : List Str) (r : WE) (sc : Sc) (σ : Loc) (e : Expr) (K : FP → Loc → Prop) : Prop := match e with
  | .Call f args kws cp => (match f with
    | .Attribute o m ap => gs (nameOf? o) fun x => as0 kws (as0 args False fun e l => as0 l (match nmEq m (Str.ofString "update") with | true => updateW sc σ x.1 e ap.endLine cp.line K | false => growW r sc (frz sc (mus mu (bare e)) σ) x.1 m e ap.endLine cp.line K) fun e2 l => as0 l (insertW r sc σ x.1 m e e2 ap.endLine cp.line K) fun _ _ => False) fun _ _ => False
    | _ => False)
  | _ => False
noncomputable def stepS (G : GC) (mu : List Str) (r : WE) (t : WT) (b : WB) : WS := fun sc st σ K => match st with
  | .Assign ts value _ => assignsW G mu r t sc σ ts value K
  | .AugAssign x op value _ => gs (nameOf? x) fun x => augW G r sc σ x.1 op value K
  | .If test body orelse _ => (match hif? G test with
    | some c => handIfW r b sc σ c body orelse K
    | none => t sc test σ fun c => Br c (b sc body σ K) (b sc orelse σ K))
  | .Return e _ => gs e fun e => r sc e (frz sc (mus mu (bare e)) σ) fun p => K (.ret p) (frz sc (mus mu (bare e)) σ)
  | .Expr e _ => exprW mu r sc σ e K
  | .While test body orelse _ => Fuel fun n => whileN t b sc test body orelse K n σ
  | .For target iter body orelse _ => pinW sc G.pin σ fun σ => forW (keepN σ) r b sc σ target iter body orelse K
  | .Try body hs orelse fin _ => as0 hs False fun _ _ => as0 fin (b sc body σ fun fp σ' => match fp with
      | .next => b sc orelse σ' K
      | fp => K fp σ') fun _ _ => False
  | _ => False

theorem assign1_ok {mu : List Str} {target value : Expr} {pos : Pos} (hG : GOk W d G) (hl : G.fn (Str.ofString "list") = none) (hr : EOk W d r) (ht : TOk W d t) (S : SS W A d X M env sc σ s) (h : assign1W G mu r t sc σ target value K)
    (hq : SPost W A d X M env sc s K Q) : wpAny W.M A (exec (.Assign [target] value pos) env) Q E s := by
  cases target with
  | Name x px =>
    change (match hcall? G value with | some c => handAsgW sc σ x c.1 c.2.2.1.1 c.2.2.2.1.1 K | none => (match inMu x mu with | true => assignOwnW r sc σ x value K | false => assignW r t sc (frz sc (mus mu (bare value)) σ) x value K)) at h
    cases hh : hcall? G value with
    | some c =>
     rw [hh] at h
     obtain ⟨e1, e2⟩ := hcall?.inv hh
     obtain ⟨h1, h2⟩ := hG.hand _ e1
     rw [e2]
     exact hand_asg_ok h1 h2 S h hq
    | none =>
    rw [hh] at h
    cases hm : inMu x mu with
    | true => rw [hm] at h; exact assignOwn_ok hG hl hr S h hq
    | false =>
      rw [hm] at h
      obtain ⟨M1, S1, m1⟩ := frz_ok S
      exact assign_ok hr ht S1 h (hq.after m1)
  | Tuple es n px =>
    change (match swapOf? es value with | some q => swapW G sc σ q.1.1 q.2.1.1 q.2.2.1.1 q.2.2.2.1.1 q.1.2.line q.2.1.2.line K | none => False) at h
    cases hm : swapOf? es value with
    | some q =>
      rw [hm] at h
      obtain ⟨rfl, rfl⟩ := swapOf?.inv hm
      exact swap_ok hG S h hq
    | none => rw [hm] at h; exact h.elim
  | Subscript o i px =>
    obtain ⟨x, hx, h2⟩ := gs.inv h
    cases nameOf?.inv hx
    exact itemStore_ok hr S h2 hq
  | _ => exact False.elim h
theorem stepS_ok {mu : List Str} (hG : GOk W d G) (hl : G.fn (Str.ofString "list") = none) (hr : EOk W d r) (ht : TOk W d t) (hb : BOk W d b) : StOk W d (stepS G mu r t b) := by
  intro A E s X M env sc st σ K Q S h hq
  cases st with
  | Assign ts value pos =>
    rcases ts with _ | ⟨t1, _ | ⟨t2, _ | ⟨t3, l⟩⟩⟩
    · exact False.elim h
    · exact assign1_ok hG hl hr ht S h hq
    · obtain ⟨x, hx, h2⟩ := gs.inv h
      obtain ⟨y, hy, h3⟩ := gs.inv h2
      cases nameOf?.inv hx
      cases nameOf?.inv hy
      exact chain_ok hr S h3 hq
    · exact False.elim h
  | AugAssign x op value pos =>
    obtain ⟨x, hx, h2⟩ := gs.inv h
    cases nameOf?.inv hx
    exact aug_ok hG hr S h2 hq
  | If test body orelse pos =>
    change (match hif? G test with | some c => handIfW r b sc σ c body orelse K | none => t sc test σ fun c => Br c (b sc body σ K) (b sc orelse σ K)) at h
    cases hh : hif? G test with
    | some c =>
      rw [hh] at h
      obtain ⟨e1, e2⟩ := hif?.inv hh
      obtain ⟨h1, h2⟩ := hG.hand _ e1
      rw [e2]
      exact hand_if_ok h1 h2 hr ht hb S h hq
    | none =>
      rw [hh] at h
      exact if_ok ht hb S h hq
  | Return e pos =>
    obtain ⟨e, rfl, h2⟩ := gs.inv h
    obtain ⟨M1, S1, m1⟩ := frz_ok S
    exact return_ok hr S1 h2 (hq.after m1)
  | Expr e pos =>
    cases e with
    | Call f args kws cp =>
      cases f with
      | Attribute o m ap =>
        obtain ⟨x, hx, h2⟩ := gs.inv h
        cases nameOf?.inv hx
        rcases kws with _ | ⟨k, l⟩
        · rcases args with _ | ⟨e, _ | ⟨e2, _ | ⟨e3, l⟩⟩⟩
          · exact False.elim h2
          · change (match nmEq m (Str.ofString "update") with | true => updateW sc σ x.1 e ap.endLine cp.line K | false => growW r sc (frz sc (mus mu (bare e)) σ) x.1 m e ap.endLine cp.line K) at h2
            cases hm : nmEq m (Str.ofString "update") with
            | true => rw [hm] at h2; exact update_ok hm S h2 hq
            | false =>
              rw [hm] at h2
              obtain ⟨M1, S1, m1⟩ := frz_ok S
              exact grow_ok hr S1 h2 (hq.after m1)
          · exact insert_ok hr S h2 hq
          · exact False.elim h2
        · exact False.elim h2
      | _ => exact False.elim h
    | _ => exact False.elim h
  | While test body orelse pos => exact while_ok ht hb S h hq
  | For target iter body orelse pos =>
    obtain ⟨σ', S', h'⟩ := pin_ok S h
    exact for_ok (keepN_sub σ') hr hb S' h' hq
  | Try body hs orelse fin pos =>
    rcases hs with _ | ⟨h0, hs⟩
    · exact False.elim h
    · rcases fin with _ | ⟨f0, fin⟩
      · exact try_ok hb S h hq
      · exact False.elim h
  | _ => exact False.elim h

noncomputable def EW (G : GC) (n : Nat) : WE × WT := Nat.rec (motive := fun _ => WE × WT) (⟨fun _ _ _ _ => False, fun _ _ _ _ => False⟩) (fun _ p => ⟨stepE G p.1 p.2, stepT p.1 p.2⟩) n
theorem EW_ok (hG : GOk W d G) (n : Nat) : EOk W d (EW G n).1 ∧ TOk W d (EW G n).2 := by
  induction n with
  | zero => exact ⟨fun A E s X M env sc e σ K Q es h hq => h.elim, fun A E s X M env sc e σ K Q es h hq => h.elim⟩
  | succ n ih => exact ⟨stepE_ok hG ih.1 ih.2, stepT_ok ih.1 ih.2⟩
noncomputable def BW (G : GC) (mu : List Str) (k n : Nat) : WB := Nat.rec (motive := fun _ => WB) (fun _ _ _ _ => False) (fun _ b => blockB (stepS G mu (EW G k).1 (EW G k).2 b)) n
theorem BW_ok {mu : List Str} (hG : GOk W d G) (hl : G.fn (Str.ofString "list") = none) (k n : Nat) : BOk W d (BW G mu k n) := by
  induction n with
  | zero => exact fun A E s X M env sc e σ K Q es h hq => h.elim
  | succ n ih => exact block_ok (stepS_ok hG hl (EW_ok hG k).1 (EW_ok hG k).2 ih)
end
end Mine
namespace Mine

section
variable {W : Wd} {A : Around} {d : Nat} {X M M' : Excl} {env : Env} {sc : Sc} {σ : Loc} {s s' : Shared} {E : Value → Shared → Prop} {G : GC} {r : WE} {t : WT} {b : WB} {x : Str}

noncomputable def startσ : List Str → List PV → Loc
  | x :: xs, p :: ps => (x, .val p) :: startσ xs ps
  | _, _ => []
noncomputable def plainKinds : Sc → Bool
  | [] => true
  | (_, k) :: r => (match k with | .local | .cell | .globalImplicit => true | _ => false) && plainKinds r
noncomputable def nodupStrs : List Str → Bool
  | [] => true
  | x :: r => r.all (fun y => !nmEq x y) && nodupStrs r
noncomputable def allLocs (sc : Sc) (xs : List Str) : Bool := xs.all fun x => isLoc sc x
noncomputable def entryOk (names : List Str) (scope : Scope) : Bool :=
  (match scope.kind with | .function => true | _ => false) && !scope.isCoroutine && !scope.isGenerator && plainKinds scope.names && nodupNames scope.names && noBad scope.names && nodupStrs names && allLocs scope.names names

theorem plainKinds_lookup {y : Str} {k : NameKind} : ∀ {sc : Sc}, plainKinds sc = true → sc.lookup y = some k → k = .local ∨ k = .cell ∨ k = .globalImplicit
  | [], _, h => by cases h
  | (z, j) :: r, hp, h => by
    simp only [plainKinds, Bool.and_eq_true] at hp
    rw [List.lookup_cons] at h
    split at h
    · cases h
      have h1 := hp.1
      cases k <;> first | (exact .inl rfl) | (exact .inr (.inl rfl)) | (exact .inr (.inr rfl)) | cases h1
    · exact plainKinds_lookup hp.2 h
theorem nodupStrs_iff : ∀ {xs : List Str}, nodupStrs xs = true → xs.Nodup
  | [], _ => List.nodup_nil
  | x :: r, h => by
    simp only [nodupStrs, Bool.and_eq_true, List.all_eq_true] at h
    refine List.nodup_cons.mpr ⟨fun hm => ?_, nodupStrs_iff h.2⟩
    have := h.1 x hm
    simp [(nmEq_iff x x).mpr rfl] at this

theorem bindL_other {k : Str → Option NameKind} {y : Str} : ∀ {binds : List (Str × Value)} {m : Str → Option Value}, y ∉ binds.map (·.1) → bindL k binds m y = m y
  | [], m, _ => rfl
  | (n, v) :: r, m, h => by
    simp only [List.map_cons, List.mem_cons, not_or] at h
    unfold bindL
    rw [bindL_other h.2]
    split
    · simp [h.1]
    · rfl
theorem bindC_other {k : Str → Option NameKind} {y : Str} : ∀ {binds : List (Str × Value)} {m : Str → Option Value}, y ∉ binds.map (·.1) → bindC k binds m y = m y
  | [], m, _ => rfl
  | (n, v) :: r, m, h => by
    simp only [List.map_cons, List.mem_cons, not_or] at h
    unfold bindC
    rw [bindC_other h.2]
    split
    · rfl
    · simp [h.1]
theorem bind_at {k : Str → Option NameKind} {y : Str} {v : Value} : ∀ {binds : List (Str × Value)} {m cm : Str → Option Value}, (binds.map (·.1)).Nodup → (y, v) ∈ binds →
    (k y = some .local → bindL k binds m y = some v) ∧ (k y = some .cell → bindC k binds cm y = some v)
  | (n, u) :: r, m, cm, hn, hm => by
    have hn' := List.nodup_cons.mp hn
    rcases List.mem_cons.mp hm with e | hm
    · cases e
      constructor
      · intro hk
        unfold bindL
        rw [bindL_other hn'.1, if_pos hk]
        simp
      · intro hk
        unfold bindC
        rw [bindC_other hn'.1, if_neg (by rw [hk]; simp)]
        simp
    · unfold bindL bindC
      exact bind_at hn'.2 hm

theorem start_get {w : World} {h : Heap} : ∀ {names : List Str} {ps : List PV} {vs : List Value} {y : Str} {l : LV}, names.length = ps.length → DenL w X h ps vs → get (startσ names ps) y = some l →
    ∃ p v, l = .val p ∧ (y, v) ∈ names.zip vs ∧ Den w X h p v
  | [], _, _, _, _, _, _, hg => by cases hg
  | x :: xs, [], _, _, _, hl, _, _ => by simp at hl
  | x :: xs, p :: ps, vs, y, l, hl, dl, hg => by
    obtain ⟨v, r, rfl, d1, d2⟩ := dl.inv_cons
    simp only [startσ, get] at hg
    cases hn : nmEq x y with
    | true =>
      rw [hn] at hg
      cases hg
      rw [(nmEq_iff x y).mp hn]
      exact ⟨p, v, rfl, by simp, d1⟩
    | false =>
      rw [hn] at hg
      obtain ⟨q, u, e, hm, du⟩ := start_get (by simpa using hl) d2 hg
      exact ⟨q, u, e, by simp [hm], du⟩

noncomputable def retK (K : PV → Prop) : FP → Loc → Prop := fun fp _ => match fp with
  | .ret p => K p
  | .next => K .none
  | _ => False

theorem Room.deeper (r : Room (d + 1) A) (env : Env) : Room d (A.deeper env) := ⟨r.handled, by have := r.depth; show A.depth + 1 + d ≤ 900; omega, by have := r.units; show A.units + 3 + 64 * d ≤ 9000; omega, r.guards⟩
noncomputable def EntryM (env : Env) : Excl := fun b => b = env.locals ∨ ∃ n, env.cells.lookup n = some b
theorem enter_new {env : Env} {s s1 : Shared} {m cm : Str → Option Value} (hloc : env.locals = s.heap.objs.size) (x : InCallC s env.locals m env.cells cm s1) : ∀ b o, s.heap.get? b = some o → ¬ EntryM env b := by
  rintro b o e (h | ⟨n, hn⟩)
  · rw [hloc] at h; subst h; exact Nat.lt_irrefl _ (Heap.lt_size e)
  · have := x.above n b (mem_of_lookup hn)
    rw [hloc] at this
    exact Nat.lt_asymm (Heap.lt_size e) this
theorem enter_ss {dr : DefRec} {names : List Str} {env : Env} {s s1 : Shared} {vs : List Value} {ps : List PV} {h₁ : Heap} (hloc : env.locals = s.heap.objs.size) (hcells : env.cells = cellsFrom (s.heap.objs.size + 1) dr.scope.names [])
    (hkof : ∀ x, env.kindOf x = dr.scope.names.lookup x) (hkind : env.scope.kind = .function) (hgl : env.globals = mainGlobals) (hbu : env.builtins = builtinsNs) (hpk : plainKinds dr.scope.names = true)
    (hdebug : kd dr.scope.names (Str.ofString "__debug__") = none ∧ kd dr.scope.names (Str.ofString "__classdict__") = none) (hnames : (names.zip vs).map (·.1) = names) (hnod : names.Nodup) (hlen : ps.length = names.length) (hroom : Room (d + 1) A) (hlw : Lw d (A.deeper env) env)
    (htop : ∀ b o, W.top.get? b = some o → s.heap.get? b = some o) (hX : Xlt X s.heap) (dl : DenL W.w X s.heap ps vs)
    (x : InCallC s env.locals (bindL env.kindOf (names.zip vs) fun _ => none) env.cells (bindC env.kindOf (names.zip vs) fun _ => none) s1) (e1 : s1.heap = h₁) (hkeep : ∀ b o, s.heap.get? b = some o → h₁.get? b = some o) (s' : Shared) (hs' : s'.heap = h₁) (htk : 1 ≤ s'.toks) :
    SS W (A.deeper env) d X (EntryM env) env dr.scope.names (startσ names ps) s' := by
  have hnofree : ∀ x, env.kindOf x ≠ some .free := by
    intro x e
    rw [hkof] at e
    rcases plainKinds_lookup hpk e with h | h | h <;> cases h
  have hcell : ∀ x, env.kindOf x = some .cell → ∃ c, env.cells.lookup x = some c := by
    intro x e
    rw [hkof] at e
    rw [hcells]
    exact cellsFrom_has (n := s.heap.objs.size + 1) (mem_of_lookup e)
  have eok : EnvOk env dr.scope.names :=
    ⟨hkind, hgl, hbu, fun x => .inl (hkof x), hdebug.1, fun x hx => by
      rcases hx with hx | hx
      · exact hcell x hx
      · exact absurd hx (hnofree x), hdebug.2⟩
  have hMn := enter_new hloc x
  have hns : ∃ m, h₁.Ns env.locals m := ⟨_, e1 ▸ x.toInCall.ns⟩
  have hcl : ∀ n c, env.cells.lookup n = some c → h₁.IsCell c (bindC env.kindOf (names.zip vs) (fun _ => none) n) := fun n c hn => e1 ▸ x.cell n c hn
  have noown : ∀ y l, get (startσ names ps) y = some l → isOwn l = true → False := fun y l hg ho => by
    obtain ⟨p, _, rfl, _⟩ := start_get hlen.symm dl hg
    cases ho
  refine ⟨⟨hroom.deeper env, fun b o e => by rw [hs']; exact hkeep b o (htop b o e), eok, ?_, fun b hb => .inr hb, ?_, htk⟩, ⟨⟨.inl rfl, by rw [hs']; exact hns⟩, fun y hy => ?_, ?_, hnofree⟩, fun y z l k v _ hgy _ oy _ _ _ _ _ => noown y l hgy oy, fun y l v hgy oy _ _ => (noown y l hgy oy).elim, fun b o e => hMn b o (htop b o e), fun b hb hx => ?_, hlw⟩
  · rw [hs']
    rintro b (hb | hb | ⟨n, hn⟩)
    · obtain ⟨o, e⟩ := hX b hb; exact ⟨o, hkeep b o e⟩
    · obtain ⟨_, o, _, _, e, _⟩ := hns; exact ⟨o, hb ▸ e⟩
    · obtain ⟨o, e, _⟩ := hcl n b hn; exact ⟨o, e⟩
  · rw [hs']
    intro y l hg hky
    obtain ⟨p, v, rfl, hm, dv⟩ := start_get hlen.symm dl hg
    have hb := bind_at (k := env.kindOf) (m := fun _ => none) (cm := fun _ => none) (by rw [hnames]; exact hnod) hm
    refine ⟨v, ?_, dv.move fun b o hb' e => ⟨fun q => q.elim hb' (hMn b o e), hkeep b o e⟩⟩
    unfold ReadsName
    cases hkk : env.kindOf y with
    | none => rw [hkk] at hky; cases hky
    | some kk =>
      cases kk with
      | «local» => exact ⟨_, e1 ▸ x.toInCall.ns, hb.1 hkk⟩
      | cell =>
        obtain ⟨c, hc⟩ := hcell y hkk
        exact ⟨c, hc, hb.2 hkk ▸ hcl y c hc⟩
      | free => exact absurd hkk (hnofree y)
      | _ => rw [hkk] at hky; cases hky
  · obtain ⟨c, hc⟩ := hcell y hy
    exact ⟨c, _, hc, by rw [hs']; exact hcl y c hc, .inr ⟨y, hc⟩⟩
  · intro y z c _ _ hy hz
    exact name_of_addr x.apart (mem_of_lookup hy) (mem_of_lookup hz)
  · obtain ⟨o, e⟩ := hX b hx
    exact hMn b o e hb
theorem enter_end {env : Env} {s s' : Shared} {M' : Excl} {K : PV → Prop} {Q : Value → Shared → Prop} {fp : FP} {f : Flow} {σ' : Loc} (hn : ∀ b o, s.heap.get? b = some o → ¬ EntryM env b) {h₁ : Heap} {tk : Nat} (hk : ∀ b o, s.heap.get? b = some o → h₁.get? b = some o)
    (m' : Mut (EntryM env) M' { s with heap := h₁, toks := tk } s') (hq : Post W.w X s K Q) (hK : retK K fp σ') (hf : FDen W.w (Un X M') s'.heap fp f) : Q (match (generalizing := false) f with | .ret v => v | _ => .none) s' := by
  have hks : Keeps s s' := by
    obtain ⟨h', tk', rfl, mm⟩ := m'
    exact ⟨h', tk', rfl, fun b o e => (mm b o (hn b o e) (hk b o e)).2⟩
  cases fp with
  | next => cases hf; exact hq _ _ _ hK hks mk_none
  | ret p => obtain ⟨v, rfl, dv⟩ := hf; exact hq _ _ _ hK hks (dv.move fun b o hb' e => ⟨fun q => hb' (.inl q), e⟩)
  | _ => exact hK.elim

/-- what a def must be for `callOK` -/
structure EntryF (dr : DefRec) (names : List Str) : Prop where
  co : dr.scope.isCoroutine = false
  ge : dr.scope.isGenerator = false
  kind : dr.scope.kind = .function
  pk : plainKinds dr.scope.names = true
  dbg : kd dr.scope.names (Str.ofString "__debug__") = none ∧ kd dr.scope.names (Str.ofString "__classdict__") = none
  nod : names.Nodup
  loc : ∀ x ∈ names, kd dr.scope.names x = some .loc
theorem entry_facts {dr : DefRec} {names : List Str} (hok : entryOk names dr.scope = true) : EntryF dr names := by
  simp only [entryOk, Bool.and_eq_true] at hok
  obtain ⟨⟨⟨⟨⟨⟨⟨hk, hco⟩, hge⟩, hpk⟩, hnd⟩, hnb⟩, hns⟩, hal⟩ := hok
  refine ⟨by simpa using hco, by simpa using hge, ?_, hpk, ?_, nodupStrs_iff hns, fun x hx => isLoc_iff (List.all_eq_true.mp hal _ hx)⟩
  · cases e : dr.scope.kind <;> first | rfl | (rw [e] at hk; cases hk)
  · unfold noBad at hnb
    split at hnb
    · exact ⟨by assumption, by assumption⟩
    · cases hnb
theorem EntryF.par {dr : DefRec} {names : List Str} (F : EntryF dr names) {vs : List Value} (hnames : (names.zip vs).map (·.1) = names) (n : Nat) :
    ∀ x ∈ names.zip vs, dr.scope.names.lookup x.1 = some .local ∨ (dr.scope.names.lookup x.1 = some .cell ∧ ((cellsFrom n dr.scope.names []).lookup x.1).isSome = true) := by
  intro x hx
  have hm : x.1 ∈ names := by rw [← hnames]; exact List.mem_map_of_mem hx
  have hl := F.loc _ hm
  rw [kd_lookup] at hl
  cases e : dr.scope.names.lookup x.1 with
  | none => rw [e] at hl; cases hl
  | some k =>
    rcases plainKinds_lookup F.pk e with rfl | rfl | rfl
    · exact .inl rfl
    · refine .inr ⟨rfl, ?_⟩
      obtain ⟨c, hc⟩ := cellsFrom_has (n := n) (mem_of_lookup e)
      rw [hc]; rfl
    · rw [e] at hl; cases hl

theorem callOK {f : Str} {dr : DefRec} {names : List Str} {bw : WB} {spec : PSpec} (hd : dr ∈ recsOf W.p) (hname : dr.name = f) (hok : entryOk names dr.scope = true)
    (hbind : ∀ vs pm cd doc, vs.length = names.length → bindArgs (Calls.docDef dr.name dr.params dr.body dr.scope pm cd doc) ⟨vs, []⟩ = pure (names.zip vs)) (hb : BOk W d bw)
    (hspec : ∀ ps K, spec ps K → ps.length = names.length ∧ bw dr.scope.names dr.body (startσ names ps) (retK K)) (h11 : d ≠ 11 := by decide) : CallOK W (d + 1) f spec where
  get := by
    subst hname
    obtain ⟨a, o, pm, code, doc, hmg, ho, hdata, hcode⟩ := W.T.fn dr hd
    refine ⟨a, hmg, ⟨o, _, ho, hdata⟩, fun A E s X vs ps K Q hroom htop hX htok dl hsp hq => ?_⟩
    obtain ⟨hlen, hbw⟩ := hspec ps K hsp
    have hvl : vs.length = names.length := by rw [dl.length, hlen]
    have F := entry_facts hok
    have hnames : (names.zip vs).map (·.1) = names := List.map_fst_zip (Nat.le_of_eq hvl.symm)
    refine wpAny_call (codeAny_call_function (by have := hroom.depth; show A.depth < 1000; omega) (htop a o ho) hdata F.co F.ge rfl (hcode.keeps htop) ?_)
    rw [hbind vs pm code doc hvl]
    refine wpAny_pure (wpAny_with_toks htok (wpAny_newFunctionEnv_cells F.kind (F.par hnames _) fun env he s1 x htk => ?_))
    subst he
    refine ⟨(W.T.nolimit.keeps htop).keeps x.toInCall.keep, codeAny_func (wpAny_mono (Q := fun f s' => Q (match f with | .ret v => v | _ => .none) s') (E := fun _ _ => False) ?_ (fun _ _ z => z) fun _ _ z => z.elim)⟩
    obtain ⟨h₁, tk, rfl, hkeep⟩ := x.done
    have S := enter_ss (dr := dr) (names := names) (ps := ps) (d := d) (A := A) (X := X) rfl rfl (fun _ => rfl) F.kind rfl rfl F.pk F.dbg hnames F.nod hlen hroom (fun e => absurd e h11) htop hX dl x rfl hkeep _ rfl htk
    exact hb _ (fun _ _ => False) _ X _ _ _ _ _ _ _ S hbw fun fp f σ' M' s' hK S' m' hf => enter_end (enter_new rfl x) hkeep m' hq hK hf
end
end Mine
namespace Mine

section
variable {W : Wd} {A : Around} {d : Nat} {X M M' : Excl} {env : Env} {sc : Sc} {σ : Loc} {s s' : Shared} {E : Value → Shared → Prop} {G : GC} {r : WE} {t : WT} {b : WB} {x : Str}

/-- the first row of a law: `y = z[:c]`; behind it the tokens are not none -/
noncomputable def firstRow (y z : Str) (c : Int) (py pz ps kp pos' pos : Pos) (k : Nat) : Stmt := .Assign [.Name y py] (.Subscript (.Name z pz) (.Slice none (some (.Constant (.int c) k kp)) none ps) pos') pos
theorem first_ok {y z : Str} {c : Int} {py pz ps kp pos' pos : Pos} {k : Nat} {h : Heap} {tk : Nat} {vs : List PV} {Q : Flow → Shared → Prop} (S0 : ∀ tk', 1 ≤ tk' → SS W A d X M env sc σ { s with heap := h, toks := tk' }) (hz : get σ z = some (.val (.list vs)))
    (hzl : kd sc z = some .loc) (hyl : kd sc y = some .loc)
    (hq : ∀ s', SS W A d X M env sc (set σ y (.val (.list (sliceL vs none (some c) none)))) s' → Mut M M { s with heap := h, toks := tk } s' → Q .next s') :
    wpAny W.M A (exec (firstRow y z c py pz ps kp pos' pos k) env) Q E { s with heap := h, toks := tk } := by
  have S1 := S0 1 (Nat.le_refl _)
  have SB := S0 (tk + 1) (by omega)
  obtain ⟨v, hr, dv⟩ := S1.es.vis z _ hz (by rw [S1.es.eok.names, hzl])
  refine wpAny_Assign_Name (Subscript_ ?_) (swaps_no rfl)
  refine wpAny_Name ?_ (S1.es.eok.ne_debug hzl)
  refine reads_wp S1.es.eok hr ?_ (S1.es.eok.ne_class hzl)
  refine wpAny_Slice ?_
  rw [evalPart_none]
  refine wpAny_pure ?_
  rw [evalPart_some, arm_eval_Constant]
  refine wpAny_mkInt ?_
  refine wpAny_pure ?_
  have kp := keeps_push' { s with heap := h, toks := tk + 1 } { cls := .type "slice", data := .fields #[.none, .int c tk, .none] }
  refine wpAny_with_toks (n := tk + 1) (Nat.le_refl _) (slice_op (lo := none) (hi := some (c, tk)) (st := none) (K := fun p => p = .list (sliceL vs none (some c) none)) (X := Un X M) ?_ (dv.keeps (keeps_mem kp)) (Heap.get?_push_size _ rfl) (Ob.intro (by simp) rfl) fun u p s4 hp k4 d4 t4 => ?_)
  · exact SB.es.xlt.keeps (keeps_mem kp)
  · subst hp
    have kk := keeps_trans kp k4
    have S4 := SB.after kk t4
    refine store_val S4 hyl d4 fun s5 S5 m5 => ?_
    refine hq s5 S5 (Mut.trans ?_ m5)
    obtain ⟨h', t', rfl, kk⟩ := kk
    exact ⟨h', t', rfl, fun b o hb e => ⟨hb, kk b o e⟩⟩

theorem callFirst {y z : Str} {c : Int} {py pz ps kp pos' pos : Pos} {k : Nat} {rest : List Stmt} {f : Str} {dr : DefRec} {names : List Str} {bw : WB} {spec : PSpec} (hd : dr ∈ recsOf W.p) (hname : dr.name = f) (hok : entryOk names dr.scope = true)
    (hbind : ∀ vs pm cd doc, vs.length = names.length → bindArgs (Calls.docDef dr.name dr.params dr.body dr.scope pm cd doc) ⟨vs, []⟩ = pure (names.zip vs)) (hb : BOk W d bw)
    (hbody : dr.body = firstRow y z c py pz ps kp pos' pos k :: rest) (hzl : kd dr.scope.names z = some .loc) (hyl : kd dr.scope.names y = some .loc)
    (hspec : ∀ ps K, spec ps K → ps.length = names.length ∧ ∃ us, get (startσ names ps) z = some (.val (.list us)) ∧ bw dr.scope.names rest (set (startσ names ps) y (.val (.list (sliceL us none (some c) none)))) (retK K)) : ∃ a, W.mg f = some (.ref a) ∧ ∀ A E s X vs ps K Q, Room (d + 1) A → A.frames = some [] → (∀ b o, W.top.get? b = some o → s.heap.get? b = some o) → Xlt X s.heap → DenL W.w X s.heap ps vs → spec ps K →
      Post W.w X s K Q → wpAny W.M A (call (.ref a) vs) Q E s := by
  subst hname
  obtain ⟨a, o, pm, code, doc, hmg, ho, hdata, hcode⟩ := W.T.fn dr hd
  refine ⟨a, hmg, fun A E s X vs psv K Q hroom hfr htop hX dl hsp hq => ?_⟩
  obtain ⟨hlen, us, hz, hbw⟩ := hspec psv K hsp
  have hvl : vs.length = names.length := by rw [dl.length, hlen]
  have F := entry_facts hok
  have hnames : (names.zip vs).map (·.1) = names := List.map_fst_zip (Nat.le_of_eq hvl.symm)
  refine wpAny_call (codeAny_call_function (by have := hroom.depth; show A.depth < 1000; omega) (htop a o ho) hdata F.co F.ge rfl (hcode.keeps htop) ?_)
  rw [hbind vs pm code doc hvl]
  refine wpAny_pure (wpAny_newFunctionEnv_cells F.kind (F.par hnames _) fun env he s1 x => ?_)
  subst he
  refine ⟨(W.T.nolimit.keeps htop).keeps x.toInCall.keep, codeAny_func (wpAny_mono (Q := fun f s' => Q (match f with | .ret v => v | _ => .none) s') (E := fun _ _ => False) ?_ (fun _ _ z => z) fun _ _ z => z.elim)⟩
  obtain ⟨h₁, tk, rfl, hkeep⟩ := x.done
  have S0 := fun tk' (htk : 1 ≤ tk') => enter_ss (dr := dr) (names := names) (ps := psv) (d := d) (A := A) (X := X) rfl rfl (fun _ => rfl) F.kind rfl rfl F.pk F.dbg hnames F.nod hlen hroom (fun _ => ⟨Around.frames_deeper hfr, rfl⟩) htop hX dl x rfl hkeep { s with heap := h₁, toks := tk' } rfl htk
  show wpAny _ _ (execs dr.body _) _ _ _
  rw [hbody]
  refine wpAny_execs_cons (first_ok S0 hz hzl hyl fun s2 S2 m2 => ?_)
  exact hb _ (fun _ _ => False) _ X _ _ _ _ _ _ _ S2 hbw fun fp f σ' M' s' hK S' m' hf => enter_end (enter_new rfl x) hkeep (m2.trans m') hq hK hf
end
end Mine
namespace Mine

noncomputable def cpl (x : Str) : List Nat := x.cps.toList
noncomputable def mk (l : List Nat) : Str := ⟨l.toArray⟩
theorem cpl_mk (l : List Nat) : cpl (mk l) = l := by simp [cpl, mk]
theorem mk_cpl (x : Str) : mk (cpl x) = x := by cases x; simp [cpl, mk]
theorem cpl_inj {x y : Str} (h : cpl x = cpl y) : x = y := by rw [← mk_cpl x, ← mk_cpl y, h]
theorem cpl_append (x y : Str) : cpl (x ++ y) = cpl x ++ cpl y := by simp [cpl, Str.cps_append]
theorem len_cpl (x : Str) : x.length = (cpl x).length := by simp [cpl, Str.length]
theorem len_mk (l : List Nat) : (mk l).length = l.length := by rw [len_cpl, cpl_mk]

/-- one sign is put in place of another -/
noncomputable def rp (c : Nat) (z : List Nat) (l : List Nat) : List Nat := l.flatMap fun d => if d = c then z else [d]
theorem rp_free {c : Nat} {z : List Nat} : ∀ {l : List Nat}, c ∉ l → rp c z l = l
  | [], _ => rfl
  | d :: l, h => by
    simp only [List.mem_cons, not_or] at h
    have := rp_free (z := z) h.2
    unfold rp at this ⊢
    rw [List.flatMap_cons, this, if_neg (Ne.symm h.1)]; rfl
theorem rp_append (c : Nat) (z a b : List Nat) : rp c z (a ++ b) = rp c z a ++ rp c z b := by simp [rp]
theorem rp_join (c : Nat) (z : Str) : ∀ parts : List Str, (∀ p ∈ parts, c ∉ cpl p) → rp c (cpl z) (cpl (Str.join ⟨#[c]⟩ parts)) = cpl (Str.join z parts)
  | [], _ => rfl
  | [p], h => rp_free (h p (List.mem_singleton.mpr rfl))
  | p :: q :: r, h => by
    have ih := rp_join c z (q :: r) fun a ha => h a (List.mem_cons_of_mem _ ha)
    show rp c (cpl z) (cpl (p ++ ⟨#[c]⟩ ++ Str.join ⟨#[c]⟩ (q :: r))) = cpl (p ++ z ++ Str.join z (q :: r))
    rw [cpl_append, cpl_append, cpl_append, cpl_append, rp_append, rp_append, ih, rp_free (h p (List.mem_cons_self ..))]
    congr 2
    simp [rp, cpl]
theorem replace_cpl (x z : Str) (c : Nat) : cpl (Txt.replace x ⟨#[c]⟩ z) = rp c (cpl z) (cpl x) := by
  rw [StrLaws.replace_one, ← rp_join c z _ (StrLaws.split_free x c), StrLaws.join_split]
theorem contains_cpl (x : Str) (c : Nat) : Txt.contains x ⟨#[c]⟩ = decide (c ∈ cpl x) := StrLaws.found_one x c
theorem replace_not {x z : Str} {c : Nat} (h : Txt.contains x ⟨#[c]⟩ = false) : Txt.replace x ⟨#[c]⟩ z = x := by
  refine cpl_inj ?_
  rw [replace_cpl]
  rw [contains_cpl] at h
  exact rp_free (by simpa using h)
theorem rp_length {c : Nat} {z : List Nat} (hz : z.length ≤ 6) : ∀ l : List Nat, (rp c z l).length ≤ 6 * l.length
  | [] => by simp [rp]
  | d :: l => by
    have := rp_length hz (c := c) l
    unfold rp at this ⊢
    rw [List.flatMap_cons, List.length_append, List.length_cons]
    have h1 : (if d = c then z else [d]).length ≤ 6 := by split <;> simp_all
    omega

theorem join_cpl : ∀ xs : List Str, cpl (Txt.join ⟨#[]⟩ xs) = (xs.map cpl).flatten := by
  have key : ∀ xs : List Str, cpl (Str.join ⟨#[]⟩ xs) = (xs.map cpl).flatten := by
    intro xs
    induction xs with
    | nil => rfl
    | cons p r ih =>
      cases r with
      | nil => simp [Str.join]
      | cons q r =>
        show cpl (p ++ ⟨#[]⟩ ++ Str.join ⟨#[]⟩ (q :: r)) = _
        rw [cpl_append, cpl_append, ih]
        simp [cpl]
  intro xs
  show cpl (Builtin.Str.glued _ xs) = _
  rw [StrLaws.glued_eq_join]
  exact key xs

end Mine
namespace Mine

section
variable {α : Type} (c : α → α → Nat)
noncomputable def D : List α → List α → Nat
  | [], b => 2 * b.length
  | x :: a, [] => 2 * (a.length + 1)
  | x :: a, y :: b => min (D a b + c x y) (min (D a (y :: b) + 2) (D (x :: a) b + 2))
  termination_by a b => a.length + b.length
theorem D_nil (b : List α) : D c [] b = 2 * b.length := by simp [D]
theorem D_nil' (a : List α) : D c a [] = 2 * a.length := by cases a <;> simp [D]
theorem D_cons (x y : α) (a b : List α) : D c (x :: a) (y :: b) = min (D c a b + c x y) (min (D c a (y :: b) + 2) (D c (x :: a) b + 2)) := by rw [D]
theorem min3_add {a p q r k : Nat} (h1 : a ≤ p + k) (h2 : a ≤ q + k) (h3 : a ≤ r + k) : a ≤ min p (min q r) + k := by
  rw [← Nat.sub_le_iff_le_add, Nat.le_min, Nat.le_min, Nat.sub_le_iff_le_add, Nat.sub_le_iff_le_add, Nat.sub_le_iff_le_add]
  exact ⟨h1, h2, h3⟩
theorem min3_1 (p q r : Nat) : min p (min q r) ≤ q := Nat.le_trans (Nat.min_le_right _ _) (Nat.min_le_left _ _)
theorem min3_2 (p q r : Nat) : min p (min q r) ≤ r := Nat.le_trans (Nat.min_le_right _ _) (Nat.min_le_right _ _)
theorem D_up1 (x : α) (a b : List α) : D c (x :: a) b ≤ D c a b + 2 := by
  cases b with
  | nil => rw [D_nil', D_nil']; exact Nat.le_refl _
  | cons y b => rw [D_cons]; exact min3_1 _ _ _
theorem D_up2 (y : α) (a b : List α) : D c a (y :: b) ≤ D c a b + 2 := by
  cases a with
  | nil => rw [D_nil, D_nil]; exact Nat.le_refl _
  | cons x a => rw [D_cons]; exact min3_2 _ _ _
theorem D_down1 (x : α) (a : List α) : ∀ b, D c a b ≤ D c (x :: a) b + 2
  | [] => by rw [D_nil', D_nil']; simp; omega
  | y :: b => by
    have ih := D_down1 x a b
    have h1 := D_up2 c y a b
    rw [D_cons]
    exact min3_add (Nat.le_trans h1 (Nat.add_le_add_right (Nat.le_add_right _ _) 2)) (Nat.le_add_right _ 4) (Nat.le_trans h1 (Nat.add_le_add_right ih 2))
theorem D_down2 (y : α) (b : List α) : ∀ a, D c a b ≤ D c a (y :: b) + 2
  | [] => by rw [D_nil, D_nil]; simp; omega
  | x :: a => by
    have ih := D_down2 y b a
    have h1 := D_up1 c x a b
    rw [D_cons]
    exact min3_add (Nat.le_trans h1 (Nat.add_le_add_right (Nat.le_add_right _ _) 2)) (Nat.le_trans h1 (Nat.add_le_add_right ih 2)) (Nat.le_add_right _ 4)
theorem D_same {x : α} (h : c x x = 0) (a b : List α) : D c (x :: a) (x :: b) = D c a b := by
  have h1 := D_down1 c x a b
  have h2 := D_down2 c x b a
  rw [D_cons, h]
  exact Nat.min_eq_left (Nat.le_min.mpr ⟨h2, h1⟩)
/-- a way from one list to the other, and its price -/
inductive Al : List α → List α → Nat → Prop
  | nil : Al [] [] 0
  | del (x : α) {a b : List α} {n : Nat} (h : Al a b n) : Al (x :: a) b (n + 2)
  | ins (y : α) {a b : List α} {n : Nat} (h : Al a b n) : Al a (y :: b) (n + 2)
  | sub (x y : α) {a b : List α} {n : Nat} (h : Al a b n) : Al (x :: a) (y :: b) (n + c x y)
theorem Al.le {a b : List α} {n : Nat} (h : Al c a b n) : D c a b ≤ n := by
  induction h with
  | nil => rw [D_nil]; exact Nat.le_refl _
  | del x h ih => exact Nat.le_trans (D_up1 c x _ _) (Nat.add_le_add_right ih 2)
  | ins y h ih => exact Nat.le_trans (D_up2 c y _ _) (Nat.add_le_add_right ih 2)
  | sub x y h ih => rw [D_cons]; exact Nat.le_trans (Nat.min_le_left _ _) (Nat.add_le_add_right ih _)
theorem al_nil : ∀ b : List α, Al c [] b (2 * b.length)
  | [] => .nil
  | y :: b => .ins y (al_nil b)
theorem al_nil' : ∀ a : List α, Al c a [] (2 * a.length)
  | [] => .nil
  | x :: a => .del x (al_nil' a)
theorem al_D (a : List α) : ∀ b, Al c a b (D c a b) := by
  induction a with
  | nil => intro b; rw [D_nil]; exact al_nil c b
  | cons x a ih =>
    intro b
    induction b with
    | nil => rw [D_nil']; exact al_nil' c _
    | cons y b ihb =>
      rw [D_cons]
      have pick : ∀ {p q : Nat}, Al c (x :: a) (y :: b) p → Al c (x :: a) (y :: b) q → Al c (x :: a) (y :: b) (min p q) := fun {p q} hp hq => by
        rcases Nat.le_total p q with e | e
        · rw [Nat.min_eq_left e]; exact hp
        · rw [Nat.min_eq_right e]; exact hq
      exact pick (.sub x y (ih b)) (pick (.del x (ih (y :: b))) (.ins y ihb))
variable {c} in
theorem Al.append {a b a' b' : List α} {n m : Nat} (h : Al c a b n) (h' : Al c a' b' m) : Al c (a ++ a') (b ++ b') (n + m) := by
  induction h with
  | nil => rw [Nat.zero_add]; exact h'
  | del x h ih => rw [Nat.add_right_comm]; exact .del x ih
  | ins y h ih => rw [Nat.add_right_comm]; exact .ins y ih
  | sub x y h ih => rw [Nat.add_right_comm]; exact .sub x y ih
variable {c} in
theorem Al.rev {a b : List α} {n : Nat} (h : Al c a b n) : Al c a.reverse b.reverse n := by
  induction h with
  | nil => exact .nil
  | del x h ih =>
    have := ih.append (Al.del x (.nil (c := c)))
    rwa [List.append_nil, Nat.zero_add, ← List.reverse_cons] at this
  | ins y h ih =>
    have := ih.append (Al.ins y (.nil (c := c)))
    rwa [List.append_nil, Nat.zero_add, ← List.reverse_cons] at this
  | sub x y h ih =>
    rw [List.reverse_cons, List.reverse_cons]
    have := ih.append (Al.sub x y (.nil (c := c)))
    rw [Nat.zero_add] at this
    exact this
variable {c} in
theorem Al.symm (hs : ∀ x y, c x y = c y x) {a b : List α} {n : Nat} (h : Al c a b n) : Al c b a n := by
  induction h with
  | nil => exact .nil
  | del x h ih => exact .ins x ih
  | ins y h ih => exact .del y ih
  | sub x y h ih => rw [hs x y]; exact .sub y x ih
theorem D_symm (hs : ∀ x y, c x y = c y x) (a b : List α) : D c a b = D c b a :=
  Nat.le_antisymm ((al_D c b a).symm hs).le ((al_D c a b).symm hs).le
theorem D_reverse (a b : List α) : D c a.reverse b.reverse = D c a b := by
  refine Nat.le_antisymm (al_D c a b).rev.le ?_
  have := (al_D c a.reverse b.reverse).rev.le
  rwa [List.reverse_reverse, List.reverse_reverse] at this
theorem D_snoc (a b : List α) (x y : α) : D c (a ++ [x]) (b ++ [y]) = min (D c a b + c x y) (min (D c a (b ++ [y]) + 2) (D c (a ++ [x]) b + 2)) := by
  rw [← D_reverse c (a ++ [x]), ← D_reverse c a b, ← D_reverse c a (b ++ [y]), ← D_reverse c (a ++ [x]) b, List.reverse_append, List.reverse_append]
  exact D_cons c x y _ _
theorem D_prefix (h : ∀ x, c x x = 0) (a b : List α) : ∀ z : List α, D c (z ++ a) (z ++ b) = D c a b
  | [] => rfl
  | x :: z => by
    show D c (x :: (z ++ a)) (x :: (z ++ b)) = _
    rw [D_same c (h x), D_prefix h a b z]
theorem D_suffix (h : ∀ x, c x x = 0) (a b z : List α) : D c (a ++ z) (b ++ z) = D c a b := by
  rw [← D_reverse, List.reverse_append, List.reverse_append, D_prefix c h, D_reverse]
theorem D_diff : ∀ (a b : List α), 2 * b.length ≤ D c a b + 2 * a.length
  | [], b => by rw [D_nil]; omega
  | x :: a, [] => by simp
  | x :: a, y :: b => by
    have i1 := D_diff a b
    have i2 := D_diff a (y :: b)
    have i3 := D_diff (x :: a) b
    rw [D_cons]
    simp only [List.length_cons] at i1 i2 i3 ⊢
    exact min3_add (by omega) (by omega) (by omega)
  termination_by a b => a.length + b.length
theorem D_le : ∀ (a b : List α), D c a b ≤ 2 * a.length + 2 * b.length
  | [], b => by rw [D_nil]; omega
  | x :: a, b => by
    have := D_le a b
    have := D_up1 c x a b
    simp only [List.length_cons]
    omega

noncomputable def Pij (a b : List α) (i j : Nat) : Nat := D c (a.take i) (b.take j)
theorem Pij_0 (a b : List α) {j : Nat} (h : j ≤ b.length) : Pij c a b 0 j = 2 * j := by
  simp [Pij, D_nil, Nat.min_eq_left h]
theorem Pij_0' (a b : List α) {i : Nat} (h : i ≤ a.length) : Pij c a b i 0 = 2 * i := by
  simp [Pij, D_nil', Nat.min_eq_left h]
theorem Pij_succ (a b : List α) {i j : Nat} (hi : i < a.length) (hj : j < b.length) :
    Pij c a b (i + 1) (j + 1) = min (Pij c a b i j + c a[i] b[j]) (min (Pij c a b i (j + 1) + 2) (Pij c a b (i + 1) j + 2)) := by
  unfold Pij
  rw [List.take_succ_eq_append_getElem hi, List.take_succ_eq_append_getElem hj, D_snoc]
theorem Pij_all (a b : List α) : Pij c a b a.length b.length = D c a b := by simp [Pij]

/-- what stands in one row bounds the price from below -/
theorem row_bound (hc : ∀ x y, c x y ≤ 2) (a b : List α) {m j : Nat} (hj : j ≤ b.length) (hm : ∀ i, i ≤ a.length → m ≤ Pij c a b i j) :
    ∀ k, j + k ≤ b.length → ∀ i, i ≤ a.length → m ≤ Pij c a b i (j + k)
  | 0, _, i, hi => hm i hi
  | k + 1, hk, 0, hi => by
    have := row_bound hc a b hj hm k (by omega) 0 hi
    rw [Pij_0 c a b (by omega)] at this ⊢
    omega
  | k + 1, hk, i + 1, hi => by
    have h1 := row_bound hc a b hj hm k (by omega) i (by omega)
    have h2 := row_bound hc a b hj hm k (by omega) (i + 1) hi
    have h3 := row_bound hc a b hj hm (k + 1) hk i (by omega)
    show m ≤ Pij c a b (i + 1) (j + k + 1)
    rw [Pij_succ c a b (by omega) (by omega)]
    exact Nat.le_min.mpr ⟨Nat.le_trans h1 (Nat.le_add_right _ _), Nat.le_min.mpr ⟨Nat.le_trans h3 (Nat.le_add_right _ _), Nat.le_trans h2 (Nat.le_add_right _ _)⟩⟩
end
end Mine
namespace Mine

section
variable {α : Type} [DecidableEq α]
noncomputable def lcp : List α → List α → Nat
  | x :: a, y :: b => if x = y then lcp a b + 1 else 0
  | _, _ => 0
theorem lcp_le : ∀ a b : List α, lcp a b ≤ a.length ∧ lcp a b ≤ b.length
  | [], _ => by simp [lcp]
  | _ :: _, [] => by simp [lcp]
  | x :: a, y :: b => by
    have := lcp_le a b
    unfold lcp
    split <;> simp <;> omega
theorem lcp_take : ∀ a b : List α, a.take (lcp a b) = b.take (lcp a b)
  | [], _ => by simp [lcp]
  | _ :: _, [] => by simp [lcp]
  | x :: a, y :: b => by
    have := lcp_take a b
    unfold lcp
    split
    · rename_i h; subst h; simp [this]
    · simp
/-- up to the end of the common beginning the signs are the same -/
theorem lcp_same : ∀ (a b : List α) (k : Nat), k < lcp a b → ∃ x, a[k]? = some x ∧ b[k]? = some x
  | [], _, k, h => by simp [lcp] at h
  | _ :: _, [], k, h => by simp [lcp] at h
  | x :: a, y :: b, k, h => by
    unfold lcp at h
    split at h
    · rename_i e; subst e
      cases k with
      | zero => exact ⟨x, rfl, rfl⟩
      | succ k => simpa using lcp_same a b k (by omega)
    · omega
theorem lcp_stop : ∀ (a b : List α), lcp a b = a.length ∨ lcp a b = b.length ∨ ∃ x y, a[lcp a b]? = some x ∧ b[lcp a b]? = some y ∧ x ≠ y
  | [], _ => by simp [lcp]
  | _ :: _, [] => by simp [lcp]
  | x :: a, y :: b => by
    unfold lcp
    split
    · rcases lcp_stop a b with h | h | ⟨u, v, h1, h2, h3⟩
      · left; simp [h]
      · right; left; simp [h]
      · right; right; exact ⟨u, v, by simpa using h1, by simpa using h2, h3⟩
    · rename_i h
      right; right; exact ⟨x, y, rfl, rfl, h⟩
/-- the common beginning and the common end are cut off -/
noncomputable def strip (a b : List α) : List α × List α :=
  let a1 := a.drop (lcp a b)
  let b1 := b.drop (lcp a b)
  let m := lcp a1.reverse b1.reverse
  (a1.take (a1.length - m), b1.take (b1.length - m))

theorem D_strip (c : α → α → Nat) (h : ∀ x, c x x = 0) (a b : List α) : D c (strip a b).1 (strip a b).2 = D c a b := by
  have e1 : D c (a.drop (lcp a b)) (b.drop (lcp a b)) = D c a b := by
    have := D_prefix c h (a.drop (lcp a b)) (b.drop (lcp a b)) (a.take (lcp a b))
    rw [List.take_append_drop] at this
    rw [← this]
    congr 1
    rw [lcp_take, List.take_append_drop]
  unfold strip
  simp only
  rw [← e1]
  generalize a.drop (lcp a b) = a1
  generalize b.drop (lcp a b) = b1
  have h1 := lcp_le a1.reverse b1.reverse
  have h2 := lcp_take a1.reverse b1.reverse
  generalize lcp a1.reverse b1.reverse = m at *
  simp only [List.length_reverse] at h1
  rw [List.take_reverse, List.take_reverse] at h2
  have h2 := List.reverse_inj.mp h2
  have := D_suffix c h (a1.take (a1.length - m)) (b1.take (b1.length - m)) (a1.drop (a1.length - m))
  rw [List.take_append_drop] at this
  rw [← this]
  congr 1
  rw [h2, List.take_append_drop]

end

/-- the answer of the bounded reckoning -/
noncomputable def LevOk (dd : Nat) (m r : Int) : Prop := r = dd ∨ (m < dd ∧ r = m + 1)
end Mine
namespace Mine

theorem loop_ofR {r : WE} {t : WT} {scn : Sc} {elt : Expr} {x : Str} {ifs : List Expr} {σ : Loc} (f : PV → Option PV) : ∀ {xs acc : List PV} {K : List PV → Prop},
    (∀ p ∈ xs, ∀ (X : PV → Prop) (Z : Prop), (match f p with | some y => X y | none => Z) → testsW (fun c K => t scn c (set σ x (.val p)) K) ifs fun b => Br b (r scn elt (set σ x (.val p)) X) Z) →
    K (acc ++ xs.filterMap f) → loopW r t scn elt x ifs σ xs acc K
  | [], acc, K, _, h => by simpa [loopW] using h
  | p :: xs, acc, K, hs, h => by
    simp only [loopW]
    refine hs p List.mem_cons_self _ _ ?_
    cases hf : f p with
    | none =>
      refine loop_ofR f (fun q hq => hs q (List.mem_cons_of_mem _ hq)) ?_
      simpa [List.filterMap_cons, hf] using h
    | some y =>
      refine loop_ofR f (fun q hq => hs q (List.mem_cons_of_mem _ hq)) ?_
      simpa [List.filterMap_cons, hf, List.append_assoc] using h
theorem loop_of {r : WE} {t : WT} {scn : Sc} {elt : Expr} {x : Str} {ifs : List Expr} {σ : Loc} (f : PV → Option PV) {xs acc : List PV} {K : List PV → Prop}
    (hs : ∀ p ∈ xs, ∀ (X : PV → Prop) (Z : Prop), (match f p with | some y => X y | none => Z) → testsW (fun c K => t scn c (set σ x (.val p)) K) ifs fun b => Br b (r scn elt (set σ x (.val p)) X) Z)
    (h : K (acc ++ xs.filterMap f)) : Lp (loopW r t scn elt x ifs σ xs acc K) := ⟨loop_ofR f hs h⟩
/-- a comprehension without a condition -/
theorem loop_map {r : WE} {t : WT} {scn : Sc} {elt : Expr} {x : Str} {σ : Loc} (f : PV → PV) {xs acc : List PV} {K : List PV → Prop}
    (hs : ∀ p ∈ xs, ∀ X : PV → Prop, X (f p) → r scn elt (set σ x (.val p)) X) (h : K (acc ++ xs.map f)) : Lp (loopW r t scn elt x [] σ xs acc K) := by
  refine loop_of (fun p => some (f p)) (fun p hp X Z hx => ?_) (by simpa using h)
  exact Br.tt (hs p hp X hx)

theorem while_of {t : WT} {b : WB} {sc : Sc} {test : Expr} {body orelse : List Stmt} {K : FP → Loc → Prop} (σf : Nat → Loc) : ∀ (N : Nat) (k : Nat),
    (∀ k, k < N → ∀ X : Loc → Prop, X (σf (k + 1)) → t sc test (σf k) fun c => Br c (b sc body (σf k) fun fp σ' => match fp with | .next => X σ' | .cont => X σ' | .brk => K .next σ' | .ret p => K (.ret p) σ') (b sc orelse (σf k) K)) →
    (∀ X : Loc → Prop, t sc test (σf N) fun c => Br c (b sc body (σf N) fun fp σ' => match fp with | .next => X σ' | .cont => X σ' | .brk => K .next σ' | .ret p => K (.ret p) σ') (b sc orelse (σf N) K)) →
    k ≤ N → whileN t b sc test body orelse K (N - k + 1) (σf k) := by
  intro N k hs hl hk
  have key : ∀ n k, k + n = N → whileN t b sc test body orelse K (n + 1) (σf k) := by
    intro n
    induction n with
    | zero =>
      intro k e
      have : k = N := by omega
      subst this
      exact hl _
    | succ n ih =>
      intro k e
      exact hs k (by omega) _ (ih (k + 1) (by omega))
  exact key (N - k) k (by omega)
theorem fuel_of {t : WT} {b : WB} {sc : Sc} {test : Expr} {body orelse : List Stmt} {K : FP → Loc → Prop} {σ : Loc} (σf : Nat → Loc) (N : Nat) (h0 : σ = σf 0)
    (hs : ∀ k, k < N → ∀ X : Loc → Prop, X (σf (k + 1)) → t sc test (σf k) fun c => Br c (b sc body (σf k) fun fp σ' => match fp with | .next => X σ' | .cont => X σ' | .brk => K .next σ' | .ret p => K (.ret p) σ') (b sc orelse (σf k) K))
    (hl : ∀ X : Loc → Prop, t sc test (σf N) fun c => Br c (b sc body (σf N) fun fp σ' => match fp with | .next => X σ' | .cont => X σ' | .brk => K .next σ' | .ret p => K (.ret p) σ') (b sc orelse (σf N) K)) :
    Fuel fun n => whileN t b sc test body orelse K n σ :=
  Fuel.intro (N - 0 + 1) (h0 ▸ while_of σf N 0 hs hl (Nat.zero_le _))

theorem fuel_by {t : WT} {b : WB} {sc : Sc} {test : Expr} {body orelse : List Stmt} {K : FP → Loc → Prop} {σ : Loc} (σf : Nat → Loc) (N : Nat) (h0 : σ = σf 0)
    (ht : ∀ k, k < N → ∀ Y : Bool → Prop, Y true → t sc test (σf k) Y) (hs : ∀ k, k < N → ∀ X : Loc → Prop, X (σf (k + 1)) → b sc body (σf k) fun fp σ' => match fp with | .next => X σ' | .cont => X σ' | .brk => K .next σ' | .ret p => K (.ret p) σ')
    (hl : ∀ Y : Bool → Prop, Y false → t sc test (σf N) Y) (he : b sc orelse (σf N) K) : Fuel fun n => whileN t b sc test body orelse K n σ :=
  fuel_of σf N h0 (fun k hk X hX => ht k hk _ (Br.tt (hs k hk X hX))) fun X => hl _ (Br.ff he)

/-- a loop over a list, by what holds before each turn; it may be left early -/
theorem for_of {cut : Loc → Loc} {b : WB} {sc : Sc} {target : Expr} {body orelse : List Stmt} {K : FP → Loc → Prop} {xs : List PV} {σ : Loc} (I : Nat → Loc → Prop) (h0 : I 0 σ)
    (hs : ∀ i p σ, xs[i]? = some p → I i σ → ∀ X : Loc → Prop, (∀ σ', I (i + 1) σ' → X σ') → targetW sc (cut σ) target p fun σ' => b sc body σ' fun fp σ'' => match fp with | .next => X σ'' | .cont => X σ'' | .brk => K .next σ'' | .ret p => K (.ret p) σ'')
    (hl : ∀ σ, I xs.length σ → b sc orelse σ K) : forL cut b sc target body orelse K xs σ := by
  have key : ∀ (ys : List PV) (i : Nat) (σ : Loc), xs.drop i = ys → i ≤ xs.length → I i σ → forL cut b sc target body orelse K ys σ := by
    intro ys
    induction ys with
    | nil =>
      intro i σ e hi h
      have : i = xs.length := by
        have := congrArg List.length e
        simp at this
        omega
      subst this
      exact hl σ h
    | cons p ys ih =>
      intro i σ e hi h
      have hp : xs[i]? = some p := by
        have := congrArg (·[0]?) e
        simpa using this
      have hlt : i < xs.length := (List.getElem?_eq_some_iff.mp hp).1
      have he : xs.drop (i + 1) = ys := by
        have := congrArg List.tail e
        simpa using this
      exact hs i p σ hp h _ fun σ' h' => ih (i + 1) σ' he (by omega) h'
  exact key xs 0 σ (by simp) (Nat.zero_le _) h0

end Mine
namespace Mine
/-- the program's text, the three rows that only say a module's name left out -/
noncomputable def pr : Program := { PySem.Challenge.pw_pg0174_02 with main := { PySem.Challenge.pw_pg0174_02.main with
  body := (PySem.Challenge.pw_pg0174_02.main.body.drop 1).take 5 ++ ((PySem.Challenge.pw_pg0174_02.main.body.drop 7).take 6 ++ PySem.Challenge.pw_pg0174_02.main.body.drop 14) } }
end Mine
namespace Mine

structure Is (W : Wd) : Prop where
  p : W.p = pr
  loose : W.loose = looseW pr []
noncomputable def drOf (p : Program) (i : Nat) : DefRec := match p.main.body[i]? with
  | some (.FunctionDef name args body _ _ _ scope _ _ pos) => ⟨name, args, body, scope, pos⟩
  | _ => ⟨Str.ofString "", ⟨[], [], none, [], [], none, []⟩, [], default, default⟩
theorem rec_mem {W : Wd} (h : Is W) {i : Nat} {x : Str} (hf : (recsOf pr).find? (fun e => e.name == x) = some (drOf pr i)) : drOf pr i ∈ recsOf W.p := by
  rw [h.p]; exact List.mem_of_find?_eq_some hf

noncomputable def consts1 (x : Str) : Option PV := match nmEq (Str.ofString "_MAX_STRING_SIZE") x with
  | true => some (.int 40)
  | false => (match nmEq (Str.ofString "_MOVE_COST") x with
    | true => some (.int 2)
    | false => (match nmEq (Str.ofString "_CASE_COST") x with
      | true => some (.int 1)
      | false => none))
noncomputable def G0 : GC := ⟨fun _ => none, consts1, none, []⟩

theorem const_int {W : Wd} (h : Is W) {x : Str} {k : Int} (hv : valOf pr x = some (.int k)) : ∃ v, W.mg x = some v ∧ ∀ X h, Den W.w X h (.int k) v := by
  obtain ⟨v, hm, hr⟩ := W.T.const x _ (by rw [h.p]; exact hv)
  refine ⟨v, hm, fun X h => ?_⟩
  have := hr h
  cases this
  exact mk_int
theorem bi_free {W : Wd} (h : Is W) {x : Str} {v : Value} (h1 : startupNames.contains x = false) (h2 : (looseW pr []).contains x = false) (h3 : ((recsOf pr).map (·.name)).contains x = false) (h4 : ((litsOf pr).map (·.1)).contains x = false)
    (h5 : ((clssOf pr (looseW pr [])).map (·.name)).contains x = false) (h6 : (x == ("__name__" : Str)) = false) (h7 : bootBuiltins x = some v) : W.mg x = none ∧ W.mb x = some v := by
  have no : ∀ {l : List Str}, l.contains x = false → x ∉ l := fun e hm => by rw [List.contains_iff_mem.mpr hm] at e; cases e
  refine ⟨W.T.free x (no h1) ?_ ?_ ?_ ?_, ?_⟩
  · rw [h.loose]; exact no h2
  · rw [h.p]; exact no h3
  · rw [h.p]; exact no h4
  · rw [h.p, h.loose]; exact no h5
  · rw [W.T.builtins x (by simpa using h6), h7]

theorem gok0 {W : Wd} (h : Is W) (d : Nat) : GOk W d G0 where
  fn := fun f spec e => nomatch e
  const := fun x p e => by
    simp only [G0, consts1] at e
    split at e
    · rename_i hx
      cases e
      rw [← (nmEq_iff _ _).mp hx]
      exact const_int h (by rfl)
    · split at e
      · rename_i hx
        cases e
        rw [← (nmEq_iff _ _).mp hx]
        exact const_int h (by rfl)
      · split at e
        · rename_i hx
          cases e
          rw [← (nmEq_iff _ _).mp hx]
          exact const_int h (by rfl)
        · cases e
  bi := fun b => by
    cases b <;> exact bi_free h (by decide +kernel) (by decide +kernel) (by decide +kernel) (by decide +kernel) (by decide +kernel) (by decide +kernel) (by rfl)
  int := bi_free h (by decide +kernel) (by decide +kernel) (by decide +kernel) (by decide +kernel) (by decide +kernel) (by decide +kernel) (by rfl)
  hand := fun q e => nomatch e

theorem CallOK.up {W : Wd} {d e : Nat} {f : Str} {spec : PSpec} (h : CallOK W d f spec) (hde : d ≤ e) : CallOK W e f spec where
  get := by
    obtain ⟨a, h1, h2, h3⟩ := h.get
    exact ⟨a, h1, h2, fun A E s X vs ps K Q hr => h3 A E s X vs ps K Q (hr.less hde)⟩
/-- one more def -/
noncomputable def GC.with (G : GC) (f : Str) (spec : PSpec) : GC := ⟨fun x => match nmEq f x with | true => some spec | false => G.fn x, G.const, none, []⟩
theorem GOk.with {W : Wd} {d : Nat} {G : GC} {f : Str} {spec : PSpec} (h : GOk W d G) (c : CallOK W d f spec) : GOk W d (G.with f spec) where
  fn := fun g s e => by
    simp only [GC.with] at e
    split at e
    · rename_i hx
      cases e
      rw [← (nmEq_iff _ _).mp hx]
      exact c
    · exact h.fn g s e
  const := h.const
  bi := h.bi
  int := h.int
  hand := fun q e => nomatch e
end Mine
namespace Mine

theorem len1 {α : Type} {vs : List α} (h : vs.length = 1) : ∃ a, vs = [a] := by
  match vs, h with
  | [a], _ => exact ⟨a, rfl⟩
theorem len2 {α : Type} {vs : List α} (h : vs.length = 2) : ∃ a b, vs = [a, b] := by
  match vs, h with
  | [a, b], _ => exact ⟨a, b, rfl⟩
theorem len3 {α : Type} {vs : List α} (h : vs.length = 3) : ∃ a b c, vs = [a, b, c] := by
  match vs, h with
  | [a, b, c], _ => exact ⟨a, b, c, rfl⟩

noncomputable def subC (a b : Str) : Nat := match a == b with
  | true => 0
  | false => (match Txt.lower a == Txt.lower b with
    | true => 1
    | false => 2)
noncomputable def subSpec : PSpec := fun ps K => as0 ps False fun p0 r0 => asS p0 fun a => as1 r0 fun p1 => asS p1 fun b => 
    ((Txt.lower a).length ≤ sizeLine ∧ (Txt.lower b).length ≤ sizeLine) ∧ K (.int (subC a b))
theorem sub_ok {W : Wd} (h : Is W) : CallOK W 1 (Str.ofString "_substitution_cost") subSpec := by
  refine callOK (names := [Str.ofString "ch_a", Str.ofString "ch_b"]) (rec_mem h (i := 3) (x := Str.ofString "_substitution_cost") (by rfl)) (by rfl) (by decide +kernel)
    (fun vs pm cd doc hl => ?_) (BW_ok (gok0 h 0) rfl 8 4 (mu := [])) fun ps K hs => ?_
  · obtain ⟨a, b, rfl⟩ := len2 hl
    rfl
  · rcases ps with _ | ⟨p0, r0⟩
    · exact False.elim hs
    have hsa := hs
    obtain ⟨a, rfl, hsb⟩ := asS.inv hsa
    obtain ⟨p1, rfl, hsba⟩ := as1.inv hsb
    obtain ⟨b, rfl, hsbb⟩ := asS.inv hsba
    have hs := hsbb
    · obtain ⟨⟨h1, h2⟩, hk⟩ := hs
      refine ⟨rfl, ?_⟩
      unfold subC at hk
      conv => whnf
      refine Br.intro (fun e => ?_) (fun e => ?_)
      · conv => whnf
        rw [e] at hk
        exact hk
      · conv => whnf
        refine Ob.intro h1 ?_
        conv => whnf
        refine Ob.intro h2 ?_
        conv => whnf
        rw [e] at hk
        refine Br.intro (fun e2 => ?_) (fun e2 => ?_)
        · conv => whnf
          rw [e2] at hk
          exact hk
        · conv => whnf
          rw [e2] at hk
          exact hk
end Mine
namespace Mine

section
variable {α : Type} (c : α → α → Nat)
noncomputable def rowHi (A B : List α) (m : Int) (j : Nat) : Prop := ∀ i, i < A.length → m < (Pij c A B (i + 1) (j + 1) : Nat)
open Classical in
noncomputable def levT (A B : List α) (m : Int) : Int := if ∃ j, j < B.length ∧ rowHi c A B m j then m + 1 else (D c A B : Nat)
noncomputable def levS (A B : List α) (m : Int) : Int := if m < ((B.length : Int) - A.length) * 2 then m + 1 else levT c A B m
noncomputable def lev9 (A B : List α) (m : Int) : Int :=
  if A.length = 0 ∨ B.length = 0 then 2 * ((A.length : Int) + B.length) else if 40 < A.length ∨ 40 < B.length then m + 1 else if B.length < A.length then levS c B A m else levS c A B m
end
noncomputable def levR (a b : List Str) (m : Int) : Int := if a = b then 0 else lev9 subC (strip a b).1 (strip a b).2 m
theorem subC_symm (a b : Str) : subC a b = subC b a := by
  unfold subC
  rw [BEq.comm (a := a), BEq.comm (a := Txt.lower a)]
theorem subC_le (x y : Str) : subC x y ≤ 2 := by
  unfold subC
  split
  · omega
  · split <;> omega
theorem subC_same (x : Str) : subC x x = 0 := by simp [subC]
noncomputable def tx (a : List Str) : PV := .list (a.map PV.str)
theorem item_nat {α : Type} {xs : List α} {k : Nat} {x : α} (h : xs[k]? = some x) : itemAt xs (k : Int) = some x := by
  have hk : k < xs.length := (List.getElem?_eq_some_iff.mp h).1
  unfold itemAt seqIndex?
  have h1 : ¬ ((k : Int) < 0) := by omega
  simp only [h1, if_false]
  have h2 : (0 : Int) ≤ (k : Int) ∧ (k : Int) < xs.length := by omega
  simp [hk]
  exact (List.getElem?_eq_some_iff.mp h).2
theorem item_neg {α : Type} {xs : List α} {k : Nat} {x : α} (h : xs.reverse[k]? = some x) : itemAt xs (-(k : Int) - 1) = some x := by
  have hk : k < xs.length := by simpa using (List.getElem?_eq_some_iff.mp h).1
  rw [List.getElem?_reverse hk] at h
  unfold itemAt seqIndex?
  have h1 : (-(k : Int) - 1) < 0 := by omega
  simp only [h1, if_true]
  have e : (-(k : Int) - 1 + xs.length).toNat = xs.length - 1 - k := by omega
  have h3 : ¬ (-(k : Int) - 1 + xs.length < 0) := by omega
  have h4 : (-(k : Int) - 1 + xs.length) < xs.length := by omega
  simp [e, h3, h4]
  rw [if_pos (by omega)]
  exact h
theorem at_map {a : List Str} {k : Nat} {x : Str} (h : a[k]? = some x) : itemAt (a.map PV.str) (k : Int) = some (.str x) := item_nat (by rw [List.getElem?_map, h]; rfl)
theorem at_neg {a : List Str} {k : Nat} {x : Str} (h : a.reverse[k]? = some x) : itemAt (a.map PV.str) (-(k : Int) - 1) = some (.str x) := item_neg (by rw [← List.map_reverse, List.getElem?_map, h]; rfl)
noncomputable def G1 : GC := G0.with (Str.ofString "_substitution_cost") subSpec
theorem gok1 {W : Wd} (h : Is W) : GOk W 1 G1 := (gok0 h 1).with (sub_ok h)
noncomputable def levB (k : Nat) (σ : Loc) (K : PV → Prop) : Prop :=
  blockW (stepS G1 [Str.ofString "row"] (EW G1 10).1 (EW G1 10).2 (BW G1 [Str.ofString "row"] 10 5)) (drOf pr 4).scope.names ((drOf pr 4).body.drop k) σ (retK K)
theorem row_size (n : Nat) : Builtin.Range.rangeSize 2 (2 * ((n : Int) + 1)) 2 = n := by
  unfold Builtin.Range.rangeSize
  rw [if_pos (by omega)]
  split <;> omega
theorem count_size (n : Nat) : Builtin.Range.rangeSize 0 (n : Int) 1 = n := by
  unfold Builtin.Range.rangeSize
  rw [if_pos (by omega)]
  split <;> omega
theorem row_items (n : Nat) : rangeItems 2 (2 * ((n : Int) + 1)) 2 = (List.range n).map fun i : Nat => PV.int (2 * ((i : Int) + 1)) := by
  unfold rangeItems
  rw [row_size]
  refine List.map_congr_left fun i _ => ?_
  congr 1; omega
theorem count_items (n : Nat) : rangeItems 0 (n : Int) 1 = (List.range n).map fun i : Nat => PV.int i := by
  unfold rangeItems
  rw [count_size]
  refine List.map_congr_left fun i _ => ?_
  congr 1; omega
theorem small_of {a b c : Int} (ha : a.natAbs < 1000000) (hb : b.natAbs < 1000000) (hc : 0 < c ∧ c < 1000000) (hn : 0 ≤ Builtin.Range.rangeSize a b c ∧ Builtin.Range.rangeSize a b c < 1000000) : Builtin.Range.small a b c = true := by
  have fit : ∀ x : Int, x.natAbs < 2000001 → Builtin.Range.rangeFitsLong x = true := fun x hx => by
    unfold Builtin.Range.rangeFitsLong
    simp only [Bool.and_eq_true, decide_eq_true_eq]
    omega
  unfold Builtin.Range.small
  rw [fit a (by omega), fit b (by omega), fit c (by omega), fit _ (by omega), if_pos hc.1, fit (b + (c - 1)) (by omega)]
  simp
noncomputable def s7 (a b : List Str) (m p q : Int) (row : List PV) (res : Int) (tl : Loc) : Loc :=
  (Str.ofString "a", .val (tx a)) :: (Str.ofString "b", .val (tx b)) :: (Str.ofString "max_cost", .val (.int m)) :: (Str.ofString "pre", .val (.int p)) :: (Str.ofString "post", .val (.int q)) :: (Str.ofString "row", .own row) :: (Str.ofString "result", .val (.int res)) :: tl
noncomputable def s11 (a b : List Str) (m p q : Int) (row : List PV) (res bi : Int) (bc : Str) (di mi : Int) (tl : Loc) : Loc :=
  s7 a b m p q row res ((Str.ofString "bindex", .val (.int bi)) :: (Str.ofString "bchar", .val (.str bc)) :: (Str.ofString "distance", .val (.int di)) :: (Str.ofString "minimum", .val (.int mi)) :: tl)
noncomputable def tlJ (tl : Loc) : Prop := tl = [] ∨ ∃ x y z, tl = [(Str.ofString "index", .val (.int x)), (Str.ofString "substitute", .val (.int y)), (Str.ofString "insert_delete", .val (.int z))]
noncomputable def tlI (tl : Loc) : Prop := tl = [] ∨ ∃ bi bc di mi r, tl = (Str.ofString "bindex", .val (.int bi)) :: (Str.ofString "bchar", .val (.str bc)) :: (Str.ofString "distance", .val (.int di)) :: (Str.ofString "minimum", .val (.int mi)) :: r ∧ tlJ r
theorem cutI {a b : List Str} {m p q : Int} {r0 row : List PV} {e0 res : Int} {tl : Loc} (h : tlI tl) : keepN (s7 a b m p q r0 e0 []) (s7 a b m p q row res tl) = s7 a b m p q row res [] := by
  rcases h with rfl | ⟨_, _, _, _, _, rfl, rfl | ⟨_, _, _, rfl⟩⟩ <;> rfl
theorem cutJ {a b : List Str} {m p q : Int} {r0 row : List PV} {e0 res b0 bi d0 di m0 mi : Int} {c0 bc : Str} {tl : Loc} (h : tlJ tl) : keepN (s11 a b m p q r0 e0 b0 c0 d0 m0 []) (s11 a b m p q row res bi bc di mi tl) = s11 a b m p q row res bi bc di mi [] := by
  rcases h with rfl | ⟨_, _, _, rfl⟩ <;> rfl
noncomputable def fT (l : List Stmt) (i : Nat) : Expr := match l[i]? with
  | some st => (match st with | .For t _ _ _ _ => t | _ => .Constant .none 0 default)
  | none => .Constant .none 0 default
noncomputable def fB (l : List Stmt) (i : Nat) : List Stmt := match l[i]? with
  | some st => (match st with | .For _ _ b _ _ => b | _ => [])
  | none => []
noncomputable def rowAt (A B : List Str) (i j : Nat) : List PV := (List.range A.length).map fun t => PV.int (if t < i then (Pij subC A B (t + 1) (j + 1) : Nat) else (Pij subC A B (t + 1) j : Nat) : Nat)
theorem rowAt_item {A B : List Str} {i j : Nat} (h : i < A.length) : itemAt (rowAt A B i j) (i : Int) = some (.int (Pij subC A B (i + 1) j : Nat)) := by
  refine item_nat ?_
  unfold rowAt
  rw [List.getElem?_map, List.getElem?_range h]
  simp
theorem rowAt_set {A B : List Str} {i j : Nat} (h : i < A.length) : (rowAt A B i j).set i (.int (Pij subC A B (i + 1) (j + 1) : Nat)) = rowAt A B (i + 1) j := by
  refine List.ext_getElem? fun k => ?_
  rw [List.getElem?_set]
  unfold rowAt
  simp only [List.getElem?_map, List.length_map, List.length_range]
  by_cases hk : i = k
  · subst hk
    rw [if_pos rfl, if_pos h, List.getElem?_range h]
    simp
  · rw [if_neg hk]
    by_cases hl : k < A.length
    · rw [List.getElem?_range hl]
      have : (k < i + 1) = (k < i) := by simp; omega
      simp [this]
    · rw [List.getElem?_eq_none (by simpa using hl)]
      rfl
theorem rowAt_next {A B : List Str} {j : Nat} : rowAt A B A.length j = rowAt A B 0 (j + 1) := by
  unfold rowAt
  refine List.map_congr_left fun t ht => ?_
  simp [List.mem_range.mp ht]
theorem min_nat (a b : Nat) : min (a : Int) (b : Int) = ((min a b : Nat) : Int) := by
  rw [Int.min_def, Nat.min_def]
  by_cases h : a ≤ b
  · rw [if_pos h, if_pos (Int.ofNat_le.mpr h)]
  · rw [if_neg h, if_neg fun e => h (Int.ofNat_le.mp e)]
theorem lt_nat (a b : Nat) : (if (a : Int) < (b : Int) then (a : Int) else (b : Int)) = ((min a b : Nat) : Int) := by
  by_cases h : a < b
  · rw [if_pos (Int.ofNat_lt.mpr h), Nat.min_eq_left (Nat.le_of_lt h)]
  · rw [if_neg fun e => h (Int.ofNat_lt.mp e), Nat.min_eq_right (Nat.not_lt.mp h)]
theorem min_cast (p s q r : Nat) : (if (p : Int) + (s : Nat) < (if (q : Int) < (r : Int) then (q : Int) else (r : Int)) + 2 then (p : Int) + (s : Nat) else (if (q : Int) < (r : Int) then (q : Int) else (r : Int)) + 2) = ((min (p + s) (min (q + 2) (r + 2)) : Nat) : Int) := by
  rw [lt_nat, Nat.add_min_add_right q r 2]
  exact lt_nat (p + s) (min q r + 2)
theorem min_absorb {a b c : Nat} (h : a ≤ c) : min a (min b c) = min a b := by rw [Nat.min_comm b c, ← Nat.min_assoc, Nat.min_eq_left h]
theorem step_val {A B : List Str} {i j r1 : Nat} {ai bc : Str} (hi : A[i]? = some ai) (hj : B[j]? = some bc) (hr : r1 = if i = 0 then 2 * j else Pij subC A B i (j + 1)) :
    (if ((Pij subC A B i j : Nat) : Int) + (subC bc ai : Nat) < (if ((Pij subC A B (i + 1) j : Nat) : Int) < (r1 : Int) then ((Pij subC A B (i + 1) j : Nat) : Int) else (r1 : Int)) + 2 then
      ((Pij subC A B i j : Nat) : Int) + (subC bc ai : Nat) else (if ((Pij subC A B (i + 1) j : Nat) : Int) < (r1 : Int) then ((Pij subC A B (i + 1) j : Nat) : Int) else (r1 : Int)) + 2) = ((Pij subC A B (i + 1) (j + 1) : Nat) : Int) := by
  obtain ⟨hil, rfl⟩ := List.getElem?_eq_some_iff.mp hi
  obtain ⟨hjl, rfl⟩ := List.getElem?_eq_some_iff.mp hj
  rw [min_cast, Pij_succ subC A B hil hjl, subC_symm B[j]]
  by_cases h0 : i = 0
  · subst h0
    rw [if_pos rfl] at hr
    rw [hr, Pij_0 subC A B (by omega), Pij_0 subC A B (by omega)]
    have h2 := subC_le A[0] B[j]
    generalize subC A[0] B[j] = u at *
    generalize Pij subC A B (0 + 1) j = v
    clear hi hj hil hjl hr
    exact congrArg Nat.cast ((min_absorb (Nat.add_le_add_left h2 _)).trans (by rw [Nat.min_comm (2 * (j + 1) + 2), min_absorb (Nat.le_trans (Nat.add_le_add_left h2 _) (by rw [Nat.mul_succ]; exact Nat.le_add_right _ _))]))
  · rw [if_neg h0] at hr
    rw [hr, Nat.min_comm (Pij subC A B (i + 1) j + 2)]
noncomputable def Jn (a b : List Str) (m p q : Int) (j : Nat) (bc : Str) (i : Nat) (σ : Loc) : Prop :=
  ∃ (res : Nat) (mi : Int) (tl : Loc), (res : Nat) = (if i = 0 then 2 * j else Pij subC a b i (j + 1)) ∧ (∀ t, t < i → mi ≤ (Pij subC a b (t + 1) (j + 1) : Nat)) ∧ (i ≠ 0 → ∃ t, t < i ∧ mi = (Pij subC a b (t + 1) (j + 1) : Nat)) ∧
    (i = 0 → mi = 9223372036854775807) ∧ tlJ tl ∧ σ = s11 a b m p q (rowAt a b i j) res j bc (Pij subC a b i j : Nat) mi tl
noncomputable def In (a b : List Str) (m p q : Int) (j : Nat) (σ : Loc) : Prop :=
  ∃ (res : Nat) (tl : Loc), (j ≠ 0 → res = Pij subC a b a.length j) ∧ (∀ k, k < j → ¬ rowHi subC a b m k) ∧ tlI tl ∧ σ = s7 a b m p q (rowAt a b 0 j) res tl
theorem Pij_le200 {a b : List Str} (ha : a.length ≤ 40) (hb : b.length ≤ 40) (i j : Nat) : Pij subC a b i j ≤ 200 := by
  have h1 := D_le subC (a.take i) (b.take j)
  have h4 : (a.take i).length ≤ a.length := List.length_take_le' i a
  have h5 : (b.take j).length ≤ b.length := List.length_take_le' j b
  unfold Pij
  omega
theorem set_ob {i n : Nat} (h : i < n) : (0 : Int) ≤ (i : Int) ∧ (i : Int) < (n : Int) := ⟨Int.natCast_nonneg i, Int.ofNat_lt.mpr h⟩
set_option maxHeartbeats 4000000 in
theorem lev_in (a b : List Str) (m p q : Int) (r0 : List PV) (e0 d0 m0 : Int) (hla : ∀ x ∈ a, (Txt.lower x).length ≤ sizeLine) (hlb : ∀ x ∈ b, (Txt.lower x).length ≤ sizeLine) (hP : ∀ i j, Pij subC a b i j ≤ 200)
    (hA40 : a.length ≤ 40) (j : Nat) (bc : Str) (hbc : b[j]? = some bc) (i : Nat) (hia : i < a.length) (σ : Loc) (hJ : Jn a b m p q j bc i σ) (Y : FP → Loc → Prop) (hY : ∀ σ', Jn a b m p q j bc (i + 1) σ' → Y .next σ') :
    targetW (drOf pr 4).scope.names (keepN (s11 a b m p q r0 e0 j bc d0 m0 []) σ) (fT (fB (drOf pr 4).body 15) 3) (.int i) fun σ' => BW G1 [Str.ofString "row"] 10 4 (drOf pr 4).scope.names (fB (fB (drOf pr 4).body 15) 3) σ' Y := by
  obtain ⟨ai, hai⟩ : ∃ c, a[i]? = some c := ⟨_, List.getElem?_eq_getElem hia⟩
  obtain ⟨r1, mi1, tl, hr1, hmi1, hat1, hm01, ht, rfl⟩ := hJ
  rw [cutJ ht]
  conv => whnf
  refine Ex.intro _ (at_map hai) ?_
  conv => whnf
  refine ⟨⟨hlb _ (List.mem_of_getElem? hbc), hla _ (List.mem_of_getElem? hai)⟩, ?_⟩
  conv => whnf
  refine Ex.intro _ (rowAt_item hia) ?_
  conv => whnf
  refine Ob.intro (set_ob (by rw [rowAt, List.length_map, List.length_range]; exact hia)) ?_
  rw [step_val hai hbc hr1, Int.toNat_natCast, rowAt_set hia]
  conv => whnf
  have hP1 := hP (i + 1) (j + 1)
  refine Br.intro (fun em => ?_) (fun em => ?_)
  · conv => whnf
    simp only [decide_eq_true_eq] at em
    refine hY _ ⟨_, (Pij subC a b (i + 1) (j + 1) : Nat), _, by rw [if_neg (Nat.succ_ne_zero i)], fun t ht => ?_, fun _ => ⟨i, Nat.lt_succ_self i, rfl⟩, fun e => absurd e (Nat.succ_ne_zero i), .inr ⟨_, _, _, rfl⟩, rfl⟩
    by_cases hti : t = i
    · subst hti; exact Int.le_refl _
    · exact Int.le_trans (Int.le_of_lt em) (hmi1 t (Nat.lt_of_le_of_ne (Nat.le_of_lt_succ ht) hti))
  · conv => whnf
    simp only [decide_eq_false_iff_not] at em
    have hi0 : i ≠ 0 := fun e => em (by rw [hm01 e]; exact Int.lt_of_le_of_lt (Int.ofNat_le.mpr hP1) (by decide))
    refine hY _ ⟨_, mi1, _, by rw [if_neg (Nat.succ_ne_zero i)], fun t ht => ?_, fun _ => (let ⟨t, h1, h2⟩ := hat1 hi0; ⟨t, Nat.lt_succ_of_lt h1, h2⟩), fun e => absurd e (Nat.succ_ne_zero i), .inr ⟨_, _, _, rfl⟩, rfl⟩
    by_cases hti : t = i
    · subst hti; exact Int.not_lt.mp em
    · exact hmi1 t (Nat.lt_of_le_of_ne (Nat.le_of_lt_succ ht) hti)

theorem count_ob {n : Nat} (h : n ≤ 1001) : Builtin.Range.small 0 (n : Int) 1 = true ∧ 0 ≤ Builtin.Range.rangeSize 0 (n : Int) 1 ∧ Builtin.Range.rangeSize 0 (n : Int) 1 ≤ sizeLine := by
  have := sizeLine_eq
  exact ⟨small_of (by decide) (by omega) (by decide) (by rw [count_size]; omega), by rw [count_size]; omega, by rw [count_size]; omega⟩
theorem row_ob {n : Nat} (h : n ≤ 41) : Builtin.Range.small 2 (2 * ((n : Int) + 1)) 2 = true ∧ 0 ≤ Builtin.Range.rangeSize 2 (2 * ((n : Int) + 1)) 2 ∧ Builtin.Range.rangeSize 2 (2 * ((n : Int) + 1)) 2 ≤ sizeLine := by
  have := sizeLine_eq
  exact ⟨small_of (by decide) (by omega) (by decide) (by rw [row_size]; omega), by rw [row_size]; omega, by rw [row_size]; omega⟩
theorem turn_of {n k : Nat} {p : PV} (h : ((List.range n).map fun i : Nat => PV.int i)[k]? = some p) : k < n ∧ p = .int k := by
  have hk : k < n := by
    have := (List.getElem?_eq_some_iff.mp h).1
    simpa using this
  rw [List.getElem?_map, List.getElem?_range hk] at h
  exact ⟨hk, (Option.some.inj h).symm⟩

set_option maxHeartbeats 4000000 in
theorem lev_turn (a b : List Str) (m p q : Int) (K : PV → Prop) (r0 : List PV) (ha : 0 < a.length) (hla : ∀ x ∈ a, (Txt.lower x).length ≤ sizeLine) (hlb : ∀ x ∈ b, (Txt.lower x).length ≤ sizeLine) (hP : ∀ i j, Pij subC a b i j ≤ 200)
    (hA40 : a.length ≤ 40) (j : Nat) (hjb : j < b.length) (σ : Loc) (hI : In a b m p q j σ) (Y : FP → Loc → Prop) (hY : ∀ σ', In a b m p q (j + 1) σ' → Y .next σ') (hR : ∀ σ', rowHi subC a b m j → Y (.ret (.int (m + 1))) σ') :
    targetW (drOf pr 4).scope.names (keepN (s7 a b m p q r0 0 []) σ) (fT (drOf pr 4).body 15) (.int j) fun σ' => BW G1 [Str.ofString "row"] 10 5 (drOf pr 4).scope.names (fB (drOf pr 4).body 15) σ' Y := by
  obtain ⟨bc, hbc⟩ : ∃ c, b[j]? = some c := ⟨_, List.getElem?_eq_getElem hjb⟩
  obtain ⟨res, tl, hres, hlo, ht, rfl⟩ := hI
  rw [cutI ht]
  conv => whnf
  refine Ex.intro _ (at_map hbc) ?_
  conv => whnf
  refine Ob.intro (IntMulOk.of_right (by decide)) ?_
  conv => whnf
  rw [List.length_map]
  refine Ob.intro (count_ob (Nat.le_trans hA40 (by decide))) ?_
  rw [count_items]
  conv => whnf
  refine for_of (Jn a b m p q j bc) ⟨2 * j, 9223372036854775807, [], by simp, fun t ht => absurd ht (Nat.not_lt_zero t), fun h => absurd rfl h, fun _ => rfl, .inl rfl, ?_⟩ (fun i pw σ hi hJ Z hZ => ?_) (fun σ hJ => ?_)
  · rw [Pij_0 subC _ _ (Nat.le_of_lt hjb)]
    have e2 : ((2 * j : Nat) : Int) = (j : Int) * 2 := by rw [Int.natCast_mul, Int.mul_comm]; rfl
    rw [e2]
    rfl
  · obtain ⟨hia, rfl⟩ := turn_of hi
    exact lev_in a b m p q _ _ _ _ hla hlb hP hA40 j bc hbc i hia σ hJ _ hZ
  · simp only [List.length_map, List.length_range] at hJ
    obtain ⟨r1, mi1, tl1, hr1, hmi1, hat1, hm01, ht1, rfl⟩ := hJ
    have hne : a.length ≠ 0 := Nat.ne_of_gt ha
    rw [if_neg hne] at hr1
    conv => whnf
    refine Br.intro (fun em => ?_) (fun em => ?_)
    · conv => whnf
      simp only [decide_eq_true_eq] at em
      exact hR _ fun t ht => Int.lt_of_lt_of_le em (hmi1 t ht)
    · conv => whnf
      simp only [decide_eq_false_iff_not] at em
      refine hY _ ⟨r1, _, fun _ => hr1, fun k hk => ?_, .inr ⟨(j : Int), bc, (Pij subC a b a.length j : Nat), mi1, tl1, rfl, ht1⟩, ?_⟩
      · by_cases hkj : k = j
        · subst hkj
          intro hr
          obtain ⟨t, ht, e⟩ := hat1 hne
          have := hr t ht
          rw [← e] at this
          exact em this
        · exact hlo k (Nat.lt_of_le_of_ne (Nat.le_of_lt_succ hk) hkj)
      · rw [← rowAt_next]
        rfl

set_option maxHeartbeats 4000000 in
theorem lev_12 (a b : List Str) (m p q : Int) (K : PV → Prop) (ha : 0 < a.length) (hab : a.length ≤ b.length) (hb : b.length ≤ 40) (hla : ∀ x ∈ a, (Txt.lower x).length ≤ sizeLine) (hlb : ∀ x ∈ b, (Txt.lower x).length ≤ sizeLine) (hK : K (.int (levS subC a b m))) :
    levB 12 [(Str.ofString "a", .val (tx a)), (Str.ofString "b", .val (tx b)), (Str.ofString "max_cost", .val (.int m)), (Str.ofString "pre", .val (.int p)), (Str.ofString "post", .val (.int q))] K := by
  unfold levS at hK
  conv => whnf
  refine Ob.intro (IntMulOk.of_right (by decide)) ?_
  rw [List.length_map, List.length_map]
  conv => whnf
  refine Br.intro (fun e => ?_) (fun e => ?_)
  · conv => whnf
    rw [if_pos (by simpa using e)] at hK
    exact hK
  · conv => whnf
    rw [if_neg (by simpa using e)] at hK
    refine Ob.intro (IntMulOk.of_left (by decide)) ?_
    conv => whnf
    refine Ob.intro (by decide) ?_
    conv => whnf
    rw [List.length_map]
    have hA40 : a.length ≤ 40 := Nat.le_trans hab hb
    refine Ob.intro (row_ob (Nat.le_succ_of_le hA40)) ?_
    rw [row_items]
    conv => whnf
    rw [List.length_map]
    refine Ob.intro (count_ob (Nat.le_trans hb (by decide))) ?_
    rw [count_items]
    conv => whnf
    have hP : ∀ i j, Pij subC a b i j ≤ 200 := fun i j => Pij_le200 hA40 hb i j
    refine for_of (In a b m p q) ⟨0, [], fun h => absurd rfl h, fun k hk => absurd hk (Nat.not_lt_zero k), .inl rfl, ?_⟩ (fun j pv σ hj hI X hX => ?_) (fun σ hI => ?_)
    · have : rowAt a b 0 0 = (List.range a.length).map fun i : Nat => PV.int (2 * ((i : Int) + 1)) := by
        unfold rowAt
        refine List.map_congr_left fun t ht => ?_
        have := List.mem_range.mp ht
        rw [if_neg (Nat.not_lt_zero t), Pij_0' subC _ _ this]
        rfl
      rw [this]
      rfl
    · obtain ⟨hjb, rfl⟩ := turn_of hj
      refine lev_turn a b m p q K _ ha hla hlb hP hA40 j hjb σ hI _ hX fun σ' hr => ?_
      have e : levT subC a b m = m + 1 := by
        unfold levT
        rw [if_pos ⟨j, hjb, hr⟩]
      rw [e] at hK
      exact hK
    · obtain ⟨res, tl, hres, hlo, _, rfl⟩ := hI
      simp only [List.length_map, List.length_range] at hres hlo
      have hr := hres (Nat.ne_of_gt (Nat.lt_of_lt_of_le ha hab))
      rw [Pij_all] at hr
      have e : levT subC a b m = (D subC a b : Nat) := by
        unfold levT
        rw [if_neg]
        rintro ⟨k, hk, h⟩
        exact hlo k hk h
      rw [e, ← hr] at hK
      conv => whnf
      exact hK
end Mine
namespace Mine

theorem sliceL_from {α : Type} (xs : List α) (k : Nat) : sliceL xs (some (k : Int)) none none = xs.drop k := by
  rw [sliceL_plain]
  simp only [Option.elim, clipAt_nat]
  rcases Nat.le_total k xs.length with h | h
  · rw [Nat.min_eq_left h, List.take_of_length_le (Nat.le_of_eq List.length_drop)]
  · rw [Nat.min_eq_right h, List.drop_eq_nil_of_le (Nat.le_refl _), List.drop_eq_nil_of_le h, List.take_nil]
theorem sliceL_all {α : Type} (xs : List α) : sliceL xs none none none = xs := by
  rw [sliceL_plain]
  simp
theorem sliceL_to_neg {α : Type} (xs : List α) (k : Nat) : sliceL xs none (some (-((k + 1 : Nat) : Int))) none = xs.take (xs.length - (k + 1)) := by
  rw [sliceL_plain]
  simp only [Option.elim, clipAt_neg xs.length (k + 1) (Nat.succ_pos k), List.drop_zero, Nat.sub_zero]
theorem slice_map {α β : Type} (f : α → β) (xs : List α) (lo hi st : Option Int) : sliceL (xs.map f) lo hi st = (sliceL xs lo hi st).map f := by
  unfold sliceL
  rw [List.length_map, List.map_filterMap]
  congr 1
  funext i
  rw [List.getElem?_map]
theorem empty_map {a : List Str} : (List.map PV.str a).isEmpty = decide (a.length = 0) := by
  cases a <;> simp

theorem lev_9 (a b : List Str) (m p q : Int) (K : PV → Prop) (ha : a.length ≤ 1000) (hb : b.length ≤ 1000) (hla : ∀ x ∈ a, (Txt.lower x).length ≤ sizeLine) (hlb : ∀ x ∈ b, (Txt.lower x).length ≤ sizeLine) (hK : K (.int (lev9 subC a b m))) :
    levB 9 [(Str.ofString "a", .val (tx a)), (Str.ofString "b", .val (tx b)), (Str.ofString "max_cost", .val (.int m)), (Str.ofString "pre", .val (.int p)), (Str.ofString "post", .val (.int q))] K := by
  unfold lev9 at hK
  conv => whnf
  rw [empty_map]
  refine Br.intro (fun e => ?_) (fun e1 => ?_)
  · conv => whnf
    refine Br.tt ?_
    conv => whnf
    rw [List.length_map, List.length_map]
    refine Ob.intro (IntMulOk.of_left (by decide)) ?_
    conv => whnf
    rw [if_pos (.inl (by simpa using e))] at hK
    exact hK
  · conv => whnf
    rw [empty_map]
    refine Br.intro (fun e => ?_) (fun e2 => ?_)
    · conv => whnf
      refine Br.tt ?_
      conv => whnf
      rw [List.length_map, List.length_map]
      refine Ob.intro (IntMulOk.of_left (by decide)) ?_
      conv => whnf
      rw [if_pos (.inr (by simpa using e))] at hK
      exact hK
    · have e1 : a.length ≠ 0 := by simpa using e1
      have e2 : b.length ≠ 0 := by simpa using e2
      rw [if_neg (by omega)] at hK
      conv => whnf
      refine Br.ff ?_
      conv => whnf
      rw [List.length_map]
      refine Br.intro (fun e => ?_) (fun e3 => ?_)
      · conv => whnf
        refine Br.tt ?_
        conv => whnf
        rw [if_pos (.inl (by simp only [decide_eq_true_eq] at e; omega))] at hK
        exact hK
      · conv => whnf
        rw [List.length_map]
        refine Br.intro (fun e => ?_) (fun e4 => ?_)
        · conv => whnf
          refine Br.tt ?_
          conv => whnf
          rw [if_pos (.inr (by simp only [decide_eq_true_eq] at e; omega))] at hK
          exact hK
        · have e3 : ¬ 40 < a.length := by simp only [decide_eq_false_iff_not] at e3; omega
          have e4 : ¬ 40 < b.length := by simp only [decide_eq_false_iff_not] at e4; omega
          rw [if_neg (by omega)] at hK
          conv => whnf
          refine Br.ff ?_
          conv => whnf
          rw [List.length_map, List.length_map]
          refine Br.intro (fun e => ?_) (fun e => ?_)
          · simp only [decide_eq_true_eq] at e
            rw [if_pos (by omega)] at hK
            have h := lev_12 b a m p q K (by omega) (by omega) (by omega) hlb hla hK
            conv at h => whnf
            have es : set (set [(Str.ofString "a", LV.val (tx a)), (Str.ofString "b", .val (tx b)), (Str.ofString "max_cost", .val (.int m)), (Str.ofString "pre", .val (.int p)), (Str.ofString "post", .val (.int q))] (Str.ofString "b") (.val (tx a))) (Str.ofString "a") (.val (tx b)) =
                [(Str.ofString "a", .val (tx b)), (Str.ofString "b", .val (tx a)), (Str.ofString "max_cost", .val (.int m)), (Str.ofString "pre", .val (.int p)), (Str.ofString "post", .val (.int q))] := rfl
            conv => whnf
            exact h
          · simp only [decide_eq_false_iff_not] at e
            rw [if_neg (by omega)] at hK
            have h := lev_12 a b m p q K (by omega) (by omega) (by omega) hla hlb hK
            conv at h => whnf
            conv => whnf
            exact h

theorem eqv_strs : ∀ a b : List Str, PyData.eqvAll (a.map PyData.str) (b.map PyData.str) = decide (a = b)
  | [], [] => by simp [PyData.eqvAll]
  | [], _ :: _ => by simp [PyData.eqvAll]
  | _ :: _, [] => by simp [PyData.eqvAll]
  | x :: a, y :: b => by
    simp only [List.map_cons, PyData.eqvAll, PyData.eqv, eqv_strs a b, List.cons.injEq, Bool.decide_and]
    congr 1
theorem can_strs : ∀ {a : List Str}, (∀ x ∈ a, PyData.strOk x = true) → PyData.canLayAll0 (a.map PyData.str) = true
  | [], _ => by simp [PyData.canLayAll0]
  | x :: a, h => by
    simp only [List.map_cons, PyData.canLayAll0, PyData.canLay0, h x List.mem_cons_self, can_strs fun y hy => h y (List.mem_cons_of_mem _ hy), Bool.and_self]
theorem depth_strs : ∀ (a : List Str), PyData.depthAll (a.map PyData.str) = 0
  | [] => by simp [PyData.depthAll]
  | x :: a => by simp [PyData.depthAll, PyData.depth, depth_strs a]
theorem pyOf_strs (a : List Str) : pyOf (.list (a.map PV.str)) = some (.list (a.map PyData.str)) := by simp only [pyOf, pyOfs_strs]
/-- what is asked of a row of texts -/
structure RowOk (a : List Str) : Prop where
  len : a.length ≤ 1000
  ok : ∀ x ∈ a, PyData.strOk x = true
  low : ∀ x ∈ a, (Txt.lower x).length ≤ sizeLine
theorem RowOk.sub {a b : List Str} (h : RowOk a) (hl : b.length ≤ a.length) (hs : ∀ x ∈ b, x ∈ a) : RowOk b := ⟨Nat.le_trans hl h.len, fun x hx => h.ok x (hs x hx), fun x hx => h.low x (hs x hx)⟩
theorem drop_go {a : List Str} {k n : Nat} (hk : k < n) (hn : n ≤ a.length) (e : (!decide ((List.drop k a).length = 0)) = false) : False := by
  simp at e
  exact absurd e (Nat.sub_ne_zero_of_lt (Nat.lt_of_lt_of_le hk hn))
theorem take_go {a : List Str} {k n : Nat} (hk : k + 1 < n) (hn : n ≤ a.length) : 0 < (a.take (a.length - (k + 1))).length := by
  rw [List.length_take, Nat.min_eq_left (Nat.sub_le _ _)]
  exact Nat.sub_pos_of_lt (Nat.lt_of_lt_of_le hk hn)
theorem empty_false {a : List Str} (h : 0 < a.length) : (!(List.map PV.str a).isEmpty) = true := by rw [empty_map, decide_eq_false (by omega)]; rfl
set_option maxHeartbeats 4000000 in
theorem lev_body (a b : List Str) (m : Int) (K : PV → Prop) (ha : RowOk a) (hb : RowOk b) (hK : K (.int (levR a b m))) :
    BW G1 [Str.ofString "row"] 10 6 (drOf pr 4).scope.names (drOf pr 4).body (startσ [Str.ofString "a", Str.ofString "b", Str.ofString "max_cost"] [tx a, tx b, .int m]) (retK K) := by
  unfold levR at hK
  conv => whnf
  refine Ex.intro _ (pyOf_strs a) ?_
  conv => whnf
  refine Ex.intro _ (pyOf_strs b) ?_
  conv => whnf
  refine Ob.intro ⟨by simp only [PyData.canLay0]; exact can_strs ha.ok, by simp only [PyData.canLay0]; exact can_strs hb.ok, by simp only [PyData.depth, depth_strs]; decide⟩ ?_
  rw [show PyData.eqv (.list (a.map PyData.str)) (.list (b.map PyData.str)) = decide (a = b) from by simp only [PyData.eqv]; exact eqv_strs a b]
  conv => whnf
  refine Br.intro (fun h => ?_) (fun h => ?_)
  · conv => whnf
    rw [if_pos (by simpa using h)] at hK
    exact hK
  · conv => whnf
    rw [if_neg (by simpa using h)] at hK
    have hl := lcp_le a b
    refine fuel_by (fun k => [(Str.ofString "a", .val (tx a)), (Str.ofString "b", .val (tx b)), (Str.ofString "max_cost", .val (.int m)), (Str.ofString "pre", .val (.int k))]) (lcp a b) rfl (fun k hk Y hY => ?_) (fun k hk X hX => ?_) (fun Y hY => ?_) ?_
    · obtain ⟨c, hca, hcb⟩ := lcp_same _ _ _ hk
      conv => whnf
      refine Ex.intro _ rfl ?_
      conv => whnf
      refine Ob.intro (by decide) ?_
      rw [slice_map, sliceL_from]
      conv => whnf
      rw [empty_map]
      refine Br.intro (fun _ => ?_) (fun e => (drop_go hk hl.1 e).elim)
      conv => whnf
      refine Ex.intro _ rfl ?_
      conv => whnf
      refine Ob.intro (by decide) ?_
      rw [slice_map, sliceL_from]
      conv => whnf
      rw [empty_map]
      refine Br.intro (fun _ => ?_) (fun e => (drop_go hk hl.2 e).elim)
      conv => whnf
      refine Ex.intro _ (at_map hca) ?_
      conv => whnf
      refine Ex.intro _ (at_map hcb) ?_
      conv => whnf
      refine Br.intro (fun _ => ?_) (fun e => by simp at e)
      conv => whnf
      exact hY
    · conv => whnf
      exact hX
    · conv => whnf
      refine Ex.intro _ rfl ?_
      conv => whnf
      refine Ob.intro (by decide) ?_
      rw [slice_map, sliceL_from]
      conv => whnf
      rw [empty_map]
      refine Br.intro (fun q1 => ?_) (fun _ => ?_)
      · conv => whnf
        refine Ex.intro _ rfl ?_
        conv => whnf
        refine Ob.intro (by decide) ?_
        rw [slice_map, sliceL_from]
        conv => whnf
        rw [empty_map]
        refine Br.intro (fun q2 => ?_) (fun _ => ?_)
        · simp at q1 q2
          rcases lcp_stop a b with e | e | ⟨x, y, hx, hy, hxy⟩
          · exact absurd (by rw [e, Nat.sub_self]) q1
          · exact absurd (by rw [e, Nat.sub_self]) q2
          · conv => whnf
            refine Ex.intro _ (at_map hx) ?_
            conv => whnf
            refine Ex.intro _ (at_map hy) ?_
            conv => whnf
            refine Br.intro (fun e => by simp at e; exact absurd e hxy) (fun _ => ?_)
            conv => whnf
            exact hY
        · conv => whnf
          exact hY
      · conv => whnf
        exact hY
    · conv => whnf
      refine Ex.intro _ rfl ?_
      conv => whnf
      refine Ob.intro (by decide) ?_
      rw [slice_map, sliceL_from]
      conv => whnf
      refine Ex.intro _ rfl ?_
      conv => whnf
      refine Ob.intro (by decide) ?_
      rw [slice_map, sliceL_from]
      conv => whnf
      generalize ea1 : a.drop (lcp a b) = a1
      generalize eb1 : b.drop (lcp a b) = b1
      have hst0 : strip a b = (a1.take (a1.length - lcp a1.reverse b1.reverse), b1.take (b1.length - lcp a1.reverse b1.reverse)) := by
        unfold strip
        simp only [ea1, eb1]
      generalize hN : lcp a b = N at *
      have ra1 : RowOk a1 := ha.sub (by rw [← ea1]; simp) fun x hx => List.mem_of_mem_drop (ea1 ▸ hx)
      have rb1 : RowOk b1 := hb.sub (by rw [← eb1]; simp) fun x hx => List.mem_of_mem_drop (eb1 ▸ hx)
      have hl2 := lcp_le a1.reverse b1.reverse
      simp only [List.length_reverse] at hl2
      refine fuel_by (fun k => [(Str.ofString "a", .val (tx a1)), (Str.ofString "b", .val (tx b1)), (Str.ofString "max_cost", .val (.int m)), (Str.ofString "pre", .val (.int N)), (Str.ofString "post", .val (.int (-(k : Int))))]) (lcp a1.reverse b1.reverse) rfl (fun k hk Y hY => ?_) (fun k hk X hX => ?_) (fun Y hY => ?_) ?_
      · obtain ⟨c, hca, hcb⟩ := lcp_same _ _ _ hk
        cases k with
        | zero =>
          conv => whnf
          refine Br.ff ?_
          conv => whnf
          refine Ex.intro _ rfl ?_
          conv => whnf
          refine Ob.intro (by decide) ?_
          rw [slice_map, sliceL_all]
          conv => whnf
          refine Br.intro (fun _ => ?_) (fun e => by rw [empty_false (Nat.lt_of_lt_of_le hk hl2.1)] at e; cases e)
          conv => whnf
          refine Br.ff ?_
          conv => whnf
          refine Ex.intro _ rfl ?_
          conv => whnf
          refine Ob.intro (by decide) ?_
          rw [slice_map, sliceL_all]
          conv => whnf
          refine Br.intro (fun _ => ?_) (fun e => by rw [empty_false (Nat.lt_of_lt_of_le hk hl2.2)] at e; cases e)
          conv => whnf
          refine Ex.intro _ (at_neg hca) ?_
          conv => whnf
          refine Ex.intro _ (at_neg hcb) ?_
          conv => whnf
          refine Br.intro (fun _ => ?_) (fun e => by simp at e)
          conv => whnf
          exact hY
        | succ k =>
          conv => whnf
          refine Br.tt ?_
          conv => whnf
          refine Ex.intro _ rfl ?_
          conv => whnf
          refine Ob.intro (by decide) ?_
          rw [slice_map, sliceL_to_neg]
          conv => whnf
          refine Br.intro (fun _ => ?_) (fun e => by rw [empty_false (take_go hk hl2.1)] at e; cases e)
          conv => whnf
          refine Br.tt ?_
          conv => whnf
          refine Ex.intro _ rfl ?_
          conv => whnf
          refine Ob.intro (by decide) ?_
          rw [slice_map, sliceL_to_neg]
          conv => whnf
          refine Br.intro (fun _ => ?_) (fun e => by rw [empty_false (take_go hk hl2.2)] at e; cases e)
          conv => whnf
          refine Ex.intro _ (at_neg hca) ?_
          conv => whnf
          refine Ex.intro _ (at_neg hcb) ?_
          conv => whnf
          refine Br.intro (fun _ => ?_) (fun e => by simp at e)
          conv => whnf
          exact hY
      · have e : -((k + 1 : Nat) : Int) = -(k : Int) - 1 := by omega
        simp only [e] at hX
        conv => whnf
        exact hX
      · generalize hM : lcp a1.reverse b1.reverse = M at *
        have stop := lcp_stop a1.reverse b1.reverse
        rw [hM] at stop
        simp only [List.length_reverse] at stop
        cases M with
        | zero =>
          conv => whnf
          refine Br.ff ?_
          conv => whnf
          refine Ex.intro _ rfl ?_
          conv => whnf
          refine Ob.intro (by decide) ?_
          rw [slice_map, sliceL_all]
          conv => whnf
          rw [empty_map]
          refine Br.intro (fun q1 => ?_) (fun _ => ?_)
          · conv => whnf
            refine Br.ff ?_
            conv => whnf
            refine Ex.intro _ rfl ?_
            conv => whnf
            refine Ob.intro (by decide) ?_
            rw [slice_map, sliceL_all]
            conv => whnf
            rw [empty_map]
            refine Br.intro (fun q2 => ?_) (fun _ => ?_)
            · simp at q1 q2
              rcases stop with e | e | ⟨x, y, hx, hy, hxy⟩
              · exact absurd (List.length_eq_zero_iff.mp e.symm) q1
              · exact absurd (List.length_eq_zero_iff.mp e.symm) q2
              · conv => whnf
                refine Ex.intro _ (at_neg hx) ?_
                conv => whnf
                refine Ex.intro _ (at_neg hy) ?_
                conv => whnf
                refine Br.intro (fun e => by simp at e; exact absurd e hxy) (fun _ => ?_)
                conv => whnf
                exact hY
            · conv => whnf
              exact hY
          · conv => whnf
            exact hY
        | succ M =>
          conv => whnf
          refine Br.tt ?_
          conv => whnf
          refine Ex.intro _ rfl ?_
          conv => whnf
          refine Ob.intro (by decide) ?_
          rw [slice_map, sliceL_to_neg]
          conv => whnf
          rw [empty_map]
          refine Br.intro (fun q1 => ?_) (fun _ => ?_)
          · conv => whnf
            refine Br.tt ?_
            conv => whnf
            refine Ex.intro _ rfl ?_
            conv => whnf
            refine Ob.intro (by decide) ?_
            rw [slice_map, sliceL_to_neg]
            conv => whnf
            rw [empty_map]
            refine Br.intro (fun q2 => ?_) (fun _ => ?_)
            · simp only [List.length_take, Bool.not_eq_true', decide_eq_false_iff_not] at q1 q2
              rcases stop with e | e | ⟨x, y, hx, hy, hxy⟩
              · exact absurd (by rw [← e, Nat.sub_self]; exact Nat.zero_min _) q1
              · exact absurd (by rw [← e, Nat.sub_self]; exact Nat.zero_min _) q2
              · conv => whnf
                refine Ex.intro _ (at_neg hx) ?_
                conv => whnf
                refine Ex.intro _ (at_neg hy) ?_
                conv => whnf
                refine Br.intro (fun e => by simp at e; exact absurd e hxy) (fun _ => ?_)
                conv => whnf
                exact hY
            · conv => whnf
              exact hY
          · conv => whnf
            exact hY
      · generalize hM : lcp a1.reverse b1.reverse = M at *
        have hfin : ∀ a2 b2 : List Str, a2 = a1.take (a1.length - M) → b2 = b1.take (b1.length - M) →
            levB 9 [(Str.ofString "a", .val (tx a2)), (Str.ofString "b", .val (tx b2)), (Str.ofString "max_cost", .val (.int m)), (Str.ofString "pre", .val (.int N)), (Str.ofString "post", .val (.int (-(M : Int))))] K := by
          intro a2 b2 h1 h2
          rw [hst0, ← h1, ← h2] at hK
          have r2 : RowOk a2 := ra1.sub (by rw [h1]; exact List.length_take_le' _ _) fun x hx => List.mem_of_mem_take (h1 ▸ hx)
          have s2 : RowOk b2 := rb1.sub (by rw [h2]; exact List.length_take_le' _ _) fun x hx => List.mem_of_mem_take (h2 ▸ hx)
          exact lev_9 a2 b2 m N (-(M : Int)) K r2.len s2.len r2.low s2.low hK
        cases M with
        | zero =>
          conv => whnf
          refine Br.ff ?_
          conv => whnf
          refine Ex.intro _ rfl ?_
          conv => whnf
          refine Ob.intro (by decide) ?_
          rw [slice_map, sliceL_all]
          conv => whnf
          refine Br.ff ?_
          conv => whnf
          refine Ex.intro _ rfl ?_
          conv => whnf
          refine Ob.intro (by decide) ?_
          rw [slice_map, sliceL_all]
          exact hfin a1 b1 (by simp) (by simp)
        | succ M =>
          conv => whnf
          refine Br.tt ?_
          conv => whnf
          refine Ex.intro _ rfl ?_
          conv => whnf
          refine Ob.intro (by decide) ?_
          rw [slice_map, sliceL_to_neg]
          conv => whnf
          refine Br.tt ?_
          conv => whnf
          refine Ex.intro _ rfl ?_
          conv => whnf
          refine Ob.intro (by decide) ?_
          rw [slice_map, sliceL_to_neg]
          exact hfin _ _ rfl rfl

noncomputable def levSpec : PSpec := fun ps K => as0 ps False fun p0 r0 => asL p0 fun av => as0 r0 False fun p1 r1 => asL p1 fun bv => as1 r1 fun p2 => asI p2 fun m =>
    ∃ a b : List Str, (av = a.map PV.str ∧ bv = b.map PV.str ∧ RowOk a ∧ RowOk b) ∧ K (.int (levR a b m))
theorem lev_ok {W : Wd} (h : Is W) : CallOK W 2 (Str.ofString "_levenshtein_distance") levSpec := by
  refine callOK (names := [Str.ofString "a", Str.ofString "b", Str.ofString "max_cost"]) (rec_mem h (i := 4) (x := Str.ofString "_levenshtein_distance") (by rfl)) (by rfl) (by decide +kernel)
    (fun vs pm cd doc hl => ?_) (BW_ok (gok1 h) rfl 10 6 (mu := [Str.ofString "row"])) fun ps K hs => ?_
  · obtain ⟨a, b, c, rfl⟩ := len3 hl
    rfl
  · rcases ps with _ | ⟨p0, r0⟩
    · exact False.elim hs
    obtain ⟨av, rfl, h1⟩ := asL.inv hs
    rcases r0 with _ | ⟨p1, r1⟩
    · exact False.elim h1
    obtain ⟨bv, rfl, h2⟩ := asL.inv h1
    obtain ⟨p2, rfl, h3⟩ := as1.inv h2
    obtain ⟨m, rfl, a, b, ⟨rfl, rfl, ha, hb⟩, hk⟩ := asI.inv h3
    exact ⟨rfl, lev_body a b m K ha hb hk⟩
end Mine
namespace Mine

noncomputable def signsOf : Nat → List Nat
  | 0 => [38, 60, 62]
  | 1 => [38, 60, 62, 34, 13, 10, 9]
  | 2 => [38, 62, 34]
  | 3 => [38, 60, 62, 13]
  | _ => [38, 60, 34, 13, 10, 9]
noncomputable def nameOf (kind d : Nat) : List Nat :=
  if d = 38 then [97, 109, 112] else if d = 60 then [108, 116] else if d = 62 then [103, 116] else if d = 34 then [113, 117, 111, 116]
  else if d = 13 then (if kind = 1 then [35, 49, 51] else [35, 120, 68]) else if d = 10 then (if kind = 1 then [35, 49, 48] else [35, 120, 65])
  else (if kind = 1 then [35, 48, 57] else [35, 120, 57])
noncomputable def escT (kind d : Nat) : List Nat := if d ∈ signsOf kind then 38 :: nameOf kind d ++ [59] else [d]
noncomputable def escL (kind : Nat) (l : List Nat) : List Nat := l.flatMap (escT kind)
noncomputable def escSpec (kind : Nat) : PSpec := fun ps K => as1 ps fun p0 => asS p0 fun x => 
    (cpl x).length ≤ 1000 ∧ K (.str (mk (escL kind (cpl x))))
theorem Br.rep2 {t c z : Str} {k : Nat} {B1 B2 B : Prop} (hc : c = ⟨#[k]⟩) (h2 : Txt.replace t c z = t → B → B2) (h1 : B → B1) (h : B) : Br (Txt.contains t c) B1 B2 := by
  subst hc
  exact Br.intro (fun _ => h1 h) fun hn => h2 (replace_not hn) h
theorem rp_flat (c : Nat) (z : List Nat) (f : Nat → List Nat) (l : List Nat) : rp c z (l.flatMap f) = l.flatMap fun d => rp c z (f d) := by
  unfold rp; rw [List.flatMap_assoc]
theorem flat_len {f : Nat → List Nat} (h : ∀ d, (f d).length ≤ 6) : ∀ {l : List Nat} {n : Nat}, l.length ≤ n → (l.flatMap f).length ≤ 6 * n
  | [], n, _ => by simp
  | d :: l, n, hl => by
    have h1 := h d
    simp only [List.length_cons] at hl
    have h2 := flat_len h (l := l) (n := n - 1) (by omega)
    rw [List.flatMap_cons, List.length_append]
    omega
theorem flat_congr {f g : Nat → List Nat} (h : ∀ d, f d = g d) {l : List Nat} : l.flatMap f = l.flatMap g := by
  rw [show f = g from funext h]
theorem rep_len {x y : Str} {c : Nat} {z : Str} {n : Nat} (h : cpl y = rp c (cpl z) (cpl x)) (hz : (cpl z).length ≤ 6) (hx : (cpl x).length ≤ n) : (cpl y).length ≤ 6 * n := by
  rw [h]
  have := rp_length hz (c := c) (cpl x)
  omega
theorem rep_ok {x : Str} {c : Nat} {z : Str} {n : Nat} (hn : n ≤ 500000) (hz : (cpl z).length ≤ 6) (hx : (cpl x).length ≤ n) (hne : ((⟨#[c]⟩ : Str) == z) = false) :
    ((⟨#[c]⟩ : Str) == z) = false ∧ x.length + (x.length + 1) * z.length ≤ 16777216 ∧ (Txt.replace x ⟨#[c]⟩ z).length ≤ sizeLine := by
  have h1 := rep_len (x := x) (y := Txt.replace x ⟨#[c]⟩ z) (replace_cpl x z c) hz hx
  have := sizeLine_eq
  rw [len_cpl, len_cpl, len_cpl]
  refine ⟨hne, ?_, by omega⟩
  have : ((cpl x).length + 1) * (cpl z).length ≤ (500000 + 1) * 6 := Nat.mul_le_mul (by omega) hz
  omega

set_option maxHeartbeats 4000000 in
theorem esc0_body (x : Str) (K : PV → Prop) (hx : (cpl x).length ≤ 1000) (hK : K (.str (mk (escL 0 (cpl x))))) :
    BW G0 [] 8 5 (drOf pr 6).scope.names (drOf pr 6).body (startσ [Str.ofString "text"] [.str x]) (retK K) := by
  have l0 : (cpl x).length ≤ 1000 := hx
  have b0 : (cpl x).length ≤ 1000 := hx
  conv => whnf
  refine Br.rep2 (t := x) (c := Str.ofString "&") (z := Str.ofString "&amp;") (k := 38) (by rfl) (fun hn => by rw [← hn]; exact fun hF => hF) (fun hF => ?_) ?_
  · conv => whnf
    refine Ob.intro (rep_ok (n := 1000) (by omega) (by decide +kernel) l0 (by decide +kernel)) ?_
    conv at hF => whnf
    conv => whnf
    exact hF
  have c1 := replace_cpl x (mk [38, 97, 109, 112, 59]) 38
  rw [cpl_mk] at c1
  rw [show Txt.replace x ⟨#[38]⟩ (mk [38, 97, 109, 112, 59]) = Txt.replace x (Str.ofString "&") (Str.ofString "&amp;") from rfl] at c1
  generalize e1 : Txt.replace x (Str.ofString "&") (Str.ofString "&amp;") = x1 at *
  have d1 : cpl x1 = (cpl x).flatMap fun d => if d = 38 then [38, 97, 109, 112, 59] else [d] := c1
  have l1 : (cpl x1).length ≤ 6000 := by
    rw [d1]
    exact flat_len (fun d => by
      by_cases h : d ∈ [38, 60, 62, 34, 13, 10, 9]
      · revert d; decide +kernel
      · simp only [List.mem_cons, List.not_mem_nil, not_or, or_false] at h; simp [rp, h]) hx
  conv => whnf
  refine Br.rep2 (t := x1) (c := Str.ofString "<") (z := Str.ofString "&lt;") (k := 60) (by rfl) (fun hn => by rw [← hn]; exact fun hF => hF) (fun hF => ?_) ?_
  · conv => whnf
    refine Ob.intro (rep_ok (n := 6000) (by omega) (by decide +kernel) l1 (by decide +kernel)) ?_
    conv at hF => whnf
    conv => whnf
    exact hF
  have c2 := replace_cpl x1 (mk [38, 108, 116, 59]) 60
  rw [cpl_mk] at c2
  rw [show Txt.replace x1 ⟨#[60]⟩ (mk [38, 108, 116, 59]) = Txt.replace x1 (Str.ofString "<") (Str.ofString "&lt;") from rfl] at c2
  generalize e2 : Txt.replace x1 (Str.ofString "<") (Str.ofString "&lt;") = x2 at *
  have d2 := c2
  rw [d1, rp_flat] at d2
  have l2 : (cpl x2).length ≤ 6000 := by
    rw [d2]
    exact flat_len (fun d => by
      by_cases h : d ∈ [38, 60, 62, 34, 13, 10, 9]
      · revert d; decide +kernel
      · simp only [List.mem_cons, List.not_mem_nil, not_or, or_false] at h; simp [rp, h]) hx
  conv => whnf
  refine Br.rep2 (t := x2) (c := Str.ofString ">") (z := Str.ofString "&gt;") (k := 62) (by rfl) (fun hn => by rw [← hn]; exact fun hF => hF) (fun hF => ?_) ?_
  · conv => whnf
    refine Ob.intro (rep_ok (n := 6000) (by omega) (by decide +kernel) l2 (by decide +kernel)) ?_
    conv at hF => whnf
    conv => whnf
    exact hF
  have c3 := replace_cpl x2 (mk [38, 103, 116, 59]) 62
  rw [cpl_mk] at c3
  rw [show Txt.replace x2 ⟨#[62]⟩ (mk [38, 103, 116, 59]) = Txt.replace x2 (Str.ofString ">") (Str.ofString "&gt;") from rfl] at c3
  generalize e3 : Txt.replace x2 (Str.ofString ">") (Str.ofString "&gt;") = x3 at *
  have d3 := c3
  rw [d2, rp_flat] at d3
  have l3 : (cpl x3).length ≤ 6000 := by
    rw [d3]
    exact flat_len (fun d => by
      by_cases h : d ∈ [38, 60, 62, 34, 13, 10, 9]
      · revert d; decide +kernel
      · simp only [List.mem_cons, List.not_mem_nil, not_or, or_false] at h; simp [rp, h]) hx
  conv => whnf
  have fin : x3 = mk (escL 0 (cpl x)) := by
    refine cpl_inj ?_
    rw [d3, cpl_mk]
    unfold escL
    refine flat_congr fun d => ?_
    by_cases h : d ∈ [38, 60, 62, 34, 13, 10, 9]
    · revert d; decide +kernel
    · simp only [List.mem_cons, List.not_mem_nil, not_or, or_false] at h
      simp [escT, signsOf, rp, h]
  rw [fin]
  exact hK
theorem esc0_ok {W : Wd} (h : Is W) : CallOK W 1 (Str.ofString "_escape_cdata") (escSpec 0) := by
  refine callOK (names := [Str.ofString "text"]) (rec_mem h (i := 6) (x := Str.ofString "_escape_cdata") (by rfl)) (by rfl) (by decide +kernel)
    (fun vs pm cd doc hl => ?_) (BW_ok (gok0 h 0) rfl 8 5 (mu := [])) fun ps K hs => ?_
  · obtain ⟨a, rfl⟩ := len1 hl
    rfl
  · obtain ⟨p0, rfl, hsa⟩ := as1.inv hs
    obtain ⟨x, rfl, hsb⟩ := asS.inv hsa
    have hs := hsb
    · exact ⟨rfl, esc0_body x K hs.1 hs.2⟩

set_option maxHeartbeats 4000000 in
theorem esc1_body (x : Str) (K : PV → Prop) (hx : (cpl x).length ≤ 1000) (hK : K (.str (mk (escL 1 (cpl x))))) :
    BW G0 [] 8 5 (drOf pr 7).scope.names (drOf pr 7).body (startσ [Str.ofString "text"] [.str x]) (retK K) := by
  have l0 : (cpl x).length ≤ 1000 := hx
  have b0 : (cpl x).length ≤ 1000 := hx
  conv => whnf
  refine Br.rep2 (t := x) (c := Str.ofString "&") (z := Str.ofString "&amp;") (k := 38) (by rfl) (fun hn => by rw [← hn]; exact fun hF => hF) (fun hF => ?_) ?_
  · conv => whnf
    refine Ob.intro (rep_ok (n := 1000) (by omega) (by decide +kernel) l0 (by decide +kernel)) ?_
    conv at hF => whnf
    conv => whnf
    exact hF
  have c1 := replace_cpl x (mk [38, 97, 109, 112, 59]) 38
  rw [cpl_mk] at c1
  rw [show Txt.replace x ⟨#[38]⟩ (mk [38, 97, 109, 112, 59]) = Txt.replace x (Str.ofString "&") (Str.ofString "&amp;") from rfl] at c1
  generalize e1 : Txt.replace x (Str.ofString "&") (Str.ofString "&amp;") = x1 at *
  have d1 : cpl x1 = (cpl x).flatMap fun d => if d = 38 then [38, 97, 109, 112, 59] else [d] := c1
  have l1 : (cpl x1).length ≤ 6000 := by
    rw [d1]
    exact flat_len (fun d => by
      by_cases h : d ∈ [38, 60, 62, 34, 13, 10, 9]
      · revert d; decide +kernel
      · simp only [List.mem_cons, List.not_mem_nil, not_or, or_false] at h; simp [rp, h]) hx
  conv => whnf
  refine Br.rep2 (t := x1) (c := Str.ofString "<") (z := Str.ofString "&lt;") (k := 60) (by rfl) (fun hn => by rw [← hn]; exact fun hF => hF) (fun hF => ?_) ?_
  · conv => whnf
    refine Ob.intro (rep_ok (n := 6000) (by omega) (by decide +kernel) l1 (by decide +kernel)) ?_
    conv at hF => whnf
    conv => whnf
    exact hF
  have c2 := replace_cpl x1 (mk [38, 108, 116, 59]) 60
  rw [cpl_mk] at c2
  rw [show Txt.replace x1 ⟨#[60]⟩ (mk [38, 108, 116, 59]) = Txt.replace x1 (Str.ofString "<") (Str.ofString "&lt;") from rfl] at c2
  generalize e2 : Txt.replace x1 (Str.ofString "<") (Str.ofString "&lt;") = x2 at *
  have d2 := c2
  rw [d1, rp_flat] at d2
  have l2 : (cpl x2).length ≤ 6000 := by
    rw [d2]
    exact flat_len (fun d => by
      by_cases h : d ∈ [38, 60, 62, 34, 13, 10, 9]
      · revert d; decide +kernel
      · simp only [List.mem_cons, List.not_mem_nil, not_or, or_false] at h; simp [rp, h]) hx
  conv => whnf
  refine Br.rep2 (t := x2) (c := Str.ofString ">") (z := Str.ofString "&gt;") (k := 62) (by rfl) (fun hn => by rw [← hn]; exact fun hF => hF) (fun hF => ?_) ?_
  · conv => whnf
    refine Ob.intro (rep_ok (n := 6000) (by omega) (by decide +kernel) l2 (by decide +kernel)) ?_
    conv at hF => whnf
    conv => whnf
    exact hF
  have c3 := replace_cpl x2 (mk [38, 103, 116, 59]) 62
  rw [cpl_mk] at c3
  rw [show Txt.replace x2 ⟨#[62]⟩ (mk [38, 103, 116, 59]) = Txt.replace x2 (Str.ofString ">") (Str.ofString "&gt;") from rfl] at c3
  generalize e3 : Txt.replace x2 (Str.ofString ">") (Str.ofString "&gt;") = x3 at *
  have d3 := c3
  rw [d2, rp_flat] at d3
  have l3 : (cpl x3).length ≤ 6000 := by
    rw [d3]
    exact flat_len (fun d => by
      by_cases h : d ∈ [38, 60, 62, 34, 13, 10, 9]
      · revert d; decide +kernel
      · simp only [List.mem_cons, List.not_mem_nil, not_or, or_false] at h; simp [rp, h]) hx
  conv => whnf
  refine Br.rep2 (t := x3) (c := Str.ofString "\"") (z := Str.ofString "&quot;") (k := 34) (by rfl) (fun hn => by rw [← hn]; exact fun hF => hF) (fun hF => ?_) ?_
  · conv => whnf
    refine Ob.intro (rep_ok (n := 6000) (by omega) (by decide +kernel) l3 (by decide +kernel)) ?_
    conv at hF => whnf
    conv => whnf
    exact hF
  have c4 := replace_cpl x3 (mk [38, 113, 117, 111, 116, 59]) 34
  rw [cpl_mk] at c4
  rw [show Txt.replace x3 ⟨#[34]⟩ (mk [38, 113, 117, 111, 116, 59]) = Txt.replace x3 (Str.ofString "\"") (Str.ofString "&quot;") from rfl] at c4
  generalize e4 : Txt.replace x3 (Str.ofString "\"") (Str.ofString "&quot;") = x4 at *
  have d4 := c4
  rw [d3, rp_flat] at d4
  have l4 : (cpl x4).length ≤ 6000 := by
    rw [d4]
    exact flat_len (fun d => by
      by_cases h : d ∈ [38, 60, 62, 34, 13, 10, 9]
      · revert d; decide +kernel
      · simp only [List.mem_cons, List.not_mem_nil, not_or, or_false] at h; simp [rp, h]) hx
  conv => whnf
  refine Br.rep2 (t := x4) (c := Str.ofString "\r") (z := Str.ofString "&#13;") (k := 13) (by rfl) (fun hn => by rw [← hn]; exact fun hF => hF) (fun hF => ?_) ?_
  · conv => whnf
    refine Ob.intro (rep_ok (n := 6000) (by omega) (by decide +kernel) l4 (by decide +kernel)) ?_
    conv at hF => whnf
    conv => whnf
    exact hF
  have c5 := replace_cpl x4 (mk [38, 35, 49, 51, 59]) 13
  rw [cpl_mk] at c5
  rw [show Txt.replace x4 ⟨#[13]⟩ (mk [38, 35, 49, 51, 59]) = Txt.replace x4 (Str.ofString "\r") (Str.ofString "&#13;") from rfl] at c5
  generalize e5 : Txt.replace x4 (Str.ofString "\r") (Str.ofString "&#13;") = x5 at *
  have d5 := c5
  rw [d4, rp_flat] at d5
  have l5 : (cpl x5).length ≤ 6000 := by
    rw [d5]
    exact flat_len (fun d => by
      by_cases h : d ∈ [38, 60, 62, 34, 13, 10, 9]
      · revert d; decide +kernel
      · simp only [List.mem_cons, List.not_mem_nil, not_or, or_false] at h; simp [rp, h]) hx
  conv => whnf
  refine Br.rep2 (t := x5) (c := Str.ofString "\n") (z := Str.ofString "&#10;") (k := 10) (by rfl) (fun hn => by rw [← hn]; exact fun hF => hF) (fun hF => ?_) ?_
  · conv => whnf
    refine Ob.intro (rep_ok (n := 6000) (by omega) (by decide +kernel) l5 (by decide +kernel)) ?_
    conv at hF => whnf
    conv => whnf
    exact hF
  have c6 := replace_cpl x5 (mk [38, 35, 49, 48, 59]) 10
  rw [cpl_mk] at c6
  rw [show Txt.replace x5 ⟨#[10]⟩ (mk [38, 35, 49, 48, 59]) = Txt.replace x5 (Str.ofString "\n") (Str.ofString "&#10;") from rfl] at c6
  generalize e6 : Txt.replace x5 (Str.ofString "\n") (Str.ofString "&#10;") = x6 at *
  have d6 := c6
  rw [d5, rp_flat] at d6
  have l6 : (cpl x6).length ≤ 6000 := by
    rw [d6]
    exact flat_len (fun d => by
      by_cases h : d ∈ [38, 60, 62, 34, 13, 10, 9]
      · revert d; decide +kernel
      · simp only [List.mem_cons, List.not_mem_nil, not_or, or_false] at h; simp [rp, h]) hx
  conv => whnf
  refine Br.rep2 (t := x6) (c := Str.ofString "\t") (z := Str.ofString "&#09;") (k := 9) (by rfl) (fun hn => by rw [← hn]; exact fun hF => hF) (fun hF => ?_) ?_
  · conv => whnf
    refine Ob.intro (rep_ok (n := 6000) (by omega) (by decide +kernel) l6 (by decide +kernel)) ?_
    conv at hF => whnf
    conv => whnf
    exact hF
  have c7 := replace_cpl x6 (mk [38, 35, 48, 57, 59]) 9
  rw [cpl_mk] at c7
  rw [show Txt.replace x6 ⟨#[9]⟩ (mk [38, 35, 48, 57, 59]) = Txt.replace x6 (Str.ofString "\t") (Str.ofString "&#09;") from rfl] at c7
  generalize e7 : Txt.replace x6 (Str.ofString "\t") (Str.ofString "&#09;") = x7 at *
  have d7 := c7
  rw [d6, rp_flat] at d7
  have l7 : (cpl x7).length ≤ 6000 := by
    rw [d7]
    exact flat_len (fun d => by
      by_cases h : d ∈ [38, 60, 62, 34, 13, 10, 9]
      · revert d; decide +kernel
      · simp only [List.mem_cons, List.not_mem_nil, not_or, or_false] at h; simp [rp, h]) hx
  conv => whnf
  have fin : x7 = mk (escL 1 (cpl x)) := by
    refine cpl_inj ?_
    rw [d7, cpl_mk]
    unfold escL
    refine flat_congr fun d => ?_
    by_cases h : d ∈ [38, 60, 62, 34, 13, 10, 9]
    · revert d; decide +kernel
    · simp only [List.mem_cons, List.not_mem_nil, not_or, or_false] at h
      simp [escT, signsOf, rp, h]
  rw [fin]
  exact hK
theorem esc1_ok {W : Wd} (h : Is W) : CallOK W 1 (Str.ofString "_escape_attrib") (escSpec 1) := by
  refine callOK (names := [Str.ofString "text"]) (rec_mem h (i := 7) (x := Str.ofString "_escape_attrib") (by rfl)) (by rfl) (by decide +kernel)
    (fun vs pm cd doc hl => ?_) (BW_ok (gok0 h 0) rfl 8 5 (mu := [])) fun ps K hs => ?_
  · obtain ⟨a, rfl⟩ := len1 hl
    rfl
  · obtain ⟨p0, rfl, hsa⟩ := as1.inv hs
    obtain ⟨x, rfl, hsb⟩ := asS.inv hsa
    have hs := hsb
    · exact ⟨rfl, esc1_body x K hs.1 hs.2⟩

set_option maxHeartbeats 4000000 in
theorem esc2_body (x : Str) (K : PV → Prop) (hx : (cpl x).length ≤ 1000) (hK : K (.str (mk (escL 2 (cpl x))))) :
    BW G0 [] 8 5 (drOf pr 8).scope.names (drOf pr 8).body (startσ [Str.ofString "text"] [.str x]) (retK K) := by
  have l0 : (cpl x).length ≤ 1000 := hx
  have b0 : (cpl x).length ≤ 1000 := hx
  conv => whnf
  refine Br.rep2 (t := x) (c := Str.ofString "&") (z := Str.ofString "&amp;") (k := 38) (by rfl) (fun hn => by rw [← hn]; exact fun hF => hF) (fun hF => ?_) ?_
  · conv => whnf
    refine Ob.intro (rep_ok (n := 1000) (by omega) (by decide +kernel) l0 (by decide +kernel)) ?_
    conv at hF => whnf
    conv => whnf
    exact hF
  have c1 := replace_cpl x (mk [38, 97, 109, 112, 59]) 38
  rw [cpl_mk] at c1
  rw [show Txt.replace x ⟨#[38]⟩ (mk [38, 97, 109, 112, 59]) = Txt.replace x (Str.ofString "&") (Str.ofString "&amp;") from rfl] at c1
  generalize e1 : Txt.replace x (Str.ofString "&") (Str.ofString "&amp;") = x1 at *
  have d1 : cpl x1 = (cpl x).flatMap fun d => if d = 38 then [38, 97, 109, 112, 59] else [d] := c1
  have l1 : (cpl x1).length ≤ 6000 := by
    rw [d1]
    exact flat_len (fun d => by
      by_cases h : d ∈ [38, 60, 62, 34, 13, 10, 9]
      · revert d; decide +kernel
      · simp only [List.mem_cons, List.not_mem_nil, not_or, or_false] at h; simp [rp, h]) hx
  conv => whnf
  refine Br.rep2 (t := x1) (c := Str.ofString ">") (z := Str.ofString "&gt;") (k := 62) (by rfl) (fun hn => by rw [← hn]; exact fun hF => hF) (fun hF => ?_) ?_
  · conv => whnf
    refine Ob.intro (rep_ok (n := 6000) (by omega) (by decide +kernel) l1 (by decide +kernel)) ?_
    conv at hF => whnf
    conv => whnf
    exact hF
  have c2 := replace_cpl x1 (mk [38, 103, 116, 59]) 62
  rw [cpl_mk] at c2
  rw [show Txt.replace x1 ⟨#[62]⟩ (mk [38, 103, 116, 59]) = Txt.replace x1 (Str.ofString ">") (Str.ofString "&gt;") from rfl] at c2
  generalize e2 : Txt.replace x1 (Str.ofString ">") (Str.ofString "&gt;") = x2 at *
  have d2 := c2
  rw [d1, rp_flat] at d2
  have l2 : (cpl x2).length ≤ 6000 := by
    rw [d2]
    exact flat_len (fun d => by
      by_cases h : d ∈ [38, 60, 62, 34, 13, 10, 9]
      · revert d; decide +kernel
      · simp only [List.mem_cons, List.not_mem_nil, not_or, or_false] at h; simp [rp, h]) hx
  conv => whnf
  refine Br.rep2 (t := x2) (c := Str.ofString "\"") (z := Str.ofString "&quot;") (k := 34) (by rfl) (fun hn => by rw [← hn]; exact fun hF => hF) (fun hF => ?_) ?_
  · conv => whnf
    refine Ob.intro (rep_ok (n := 6000) (by omega) (by decide +kernel) l2 (by decide +kernel)) ?_
    conv at hF => whnf
    conv => whnf
    exact hF
  have c3 := replace_cpl x2 (mk [38, 113, 117, 111, 116, 59]) 34
  rw [cpl_mk] at c3
  rw [show Txt.replace x2 ⟨#[34]⟩ (mk [38, 113, 117, 111, 116, 59]) = Txt.replace x2 (Str.ofString "\"") (Str.ofString "&quot;") from rfl] at c3
  generalize e3 : Txt.replace x2 (Str.ofString "\"") (Str.ofString "&quot;") = x3 at *
  have d3 := c3
  rw [d2, rp_flat] at d3
  have l3 : (cpl x3).length ≤ 6000 := by
    rw [d3]
    exact flat_len (fun d => by
      by_cases h : d ∈ [38, 60, 62, 34, 13, 10, 9]
      · revert d; decide +kernel
      · simp only [List.mem_cons, List.not_mem_nil, not_or, or_false] at h; simp [rp, h]) hx
  conv => whnf
  have fin : x3 = mk (escL 2 (cpl x)) := by
    refine cpl_inj ?_
    rw [d3, cpl_mk]
    unfold escL
    refine flat_congr fun d => ?_
    by_cases h : d ∈ [38, 60, 62, 34, 13, 10, 9]
    · revert d; decide +kernel
    · simp only [List.mem_cons, List.not_mem_nil, not_or, or_false] at h
      simp [escT, signsOf, rp, h]
  rw [fin]
  exact hK
theorem esc2_ok {W : Wd} (h : Is W) : CallOK W 1 (Str.ofString "_escape_attrib_html") (escSpec 2) := by
  refine callOK (names := [Str.ofString "text"]) (rec_mem h (i := 8) (x := Str.ofString "_escape_attrib_html") (by rfl)) (by rfl) (by decide +kernel)
    (fun vs pm cd doc hl => ?_) (BW_ok (gok0 h 0) rfl 8 5 (mu := [])) fun ps K hs => ?_
  · obtain ⟨a, rfl⟩ := len1 hl
    rfl
  · obtain ⟨p0, rfl, hsa⟩ := as1.inv hs
    obtain ⟨x, rfl, hsb⟩ := asS.inv hsa
    have hs := hsb
    · exact ⟨rfl, esc2_body x K hs.1 hs.2⟩

set_option maxHeartbeats 4000000 in
theorem esc3_body (x : Str) (K : PV → Prop) (hx : (cpl x).length ≤ 1000) (hK : K (.str (mk (escL 3 (cpl x))))) :
    BW G0 [] 8 5 (drOf pr 9).scope.names (drOf pr 9).body (startσ [Str.ofString "text"] [.str x]) (retK K) := by
  have l0 : (cpl x).length ≤ 1000 := hx
  have b0 : (cpl x).length ≤ 1000 := hx
  conv => whnf
  refine Br.rep2 (t := x) (c := Str.ofString "&") (z := Str.ofString "&amp;") (k := 38) (by rfl) (fun hn => by rw [← hn]; exact fun hF => hF) (fun hF => ?_) ?_
  · conv => whnf
    refine Ob.intro (rep_ok (n := 1000) (by omega) (by decide +kernel) l0 (by decide +kernel)) ?_
    conv at hF => whnf
    conv => whnf
    exact hF
  have c1 := replace_cpl x (mk [38, 97, 109, 112, 59]) 38
  rw [cpl_mk] at c1
  rw [show Txt.replace x ⟨#[38]⟩ (mk [38, 97, 109, 112, 59]) = Txt.replace x (Str.ofString "&") (Str.ofString "&amp;") from rfl] at c1
  generalize e1 : Txt.replace x (Str.ofString "&") (Str.ofString "&amp;") = x1 at *
  have d1 : cpl x1 = (cpl x).flatMap fun d => if d = 38 then [38, 97, 109, 112, 59] else [d] := c1
  have l1 : (cpl x1).length ≤ 6000 := by
    rw [d1]
    exact flat_len (fun d => by
      by_cases h : d ∈ [38, 60, 62, 34, 13, 10, 9]
      · revert d; decide +kernel
      · simp only [List.mem_cons, List.not_mem_nil, not_or, or_false] at h; simp [rp, h]) hx
  conv => whnf
  refine Br.rep2 (t := x1) (c := Str.ofString "<") (z := Str.ofString "&lt;") (k := 60) (by rfl) (fun hn => by rw [← hn]; exact fun hF => hF) (fun hF => ?_) ?_
  · conv => whnf
    refine Ob.intro (rep_ok (n := 6000) (by omega) (by decide +kernel) l1 (by decide +kernel)) ?_
    conv at hF => whnf
    conv => whnf
    exact hF
  have c2 := replace_cpl x1 (mk [38, 108, 116, 59]) 60
  rw [cpl_mk] at c2
  rw [show Txt.replace x1 ⟨#[60]⟩ (mk [38, 108, 116, 59]) = Txt.replace x1 (Str.ofString "<") (Str.ofString "&lt;") from rfl] at c2
  generalize e2 : Txt.replace x1 (Str.ofString "<") (Str.ofString "&lt;") = x2 at *
  have d2 := c2
  rw [d1, rp_flat] at d2
  have l2 : (cpl x2).length ≤ 6000 := by
    rw [d2]
    exact flat_len (fun d => by
      by_cases h : d ∈ [38, 60, 62, 34, 13, 10, 9]
      · revert d; decide +kernel
      · simp only [List.mem_cons, List.not_mem_nil, not_or, or_false] at h; simp [rp, h]) hx
  conv => whnf
  refine Br.rep2 (t := x2) (c := Str.ofString ">") (z := Str.ofString "&gt;") (k := 62) (by rfl) (fun hn => by rw [← hn]; exact fun hF => hF) (fun hF => ?_) ?_
  · conv => whnf
    refine Ob.intro (rep_ok (n := 6000) (by omega) (by decide +kernel) l2 (by decide +kernel)) ?_
    conv at hF => whnf
    conv => whnf
    exact hF
  have c3 := replace_cpl x2 (mk [38, 103, 116, 59]) 62
  rw [cpl_mk] at c3
  rw [show Txt.replace x2 ⟨#[62]⟩ (mk [38, 103, 116, 59]) = Txt.replace x2 (Str.ofString ">") (Str.ofString "&gt;") from rfl] at c3
  generalize e3 : Txt.replace x2 (Str.ofString ">") (Str.ofString "&gt;") = x3 at *
  have d3 := c3
  rw [d2, rp_flat] at d3
  have l3 : (cpl x3).length ≤ 6000 := by
    rw [d3]
    exact flat_len (fun d => by
      by_cases h : d ∈ [38, 60, 62, 34, 13, 10, 9]
      · revert d; decide +kernel
      · simp only [List.mem_cons, List.not_mem_nil, not_or, or_false] at h; simp [rp, h]) hx
  conv => whnf
  refine Br.rep2 (t := x3) (c := Str.ofString "\r") (z := Str.ofString "&#xD;") (k := 13) (by rfl) (fun hn => by rw [← hn]; exact fun hF => hF) (fun hF => ?_) ?_
  · conv => whnf
    refine Ob.intro (rep_ok (n := 6000) (by omega) (by decide +kernel) l3 (by decide +kernel)) ?_
    conv at hF => whnf
    conv => whnf
    exact hF
  have c4 := replace_cpl x3 (mk [38, 35, 120, 68, 59]) 13
  rw [cpl_mk] at c4
  rw [show Txt.replace x3 ⟨#[13]⟩ (mk [38, 35, 120, 68, 59]) = Txt.replace x3 (Str.ofString "\r") (Str.ofString "&#xD;") from rfl] at c4
  generalize e4 : Txt.replace x3 (Str.ofString "\r") (Str.ofString "&#xD;") = x4 at *
  have d4 := c4
  rw [d3, rp_flat] at d4
  have l4 : (cpl x4).length ≤ 6000 := by
    rw [d4]
    exact flat_len (fun d => by
      by_cases h : d ∈ [38, 60, 62, 34, 13, 10, 9]
      · revert d; decide +kernel
      · simp only [List.mem_cons, List.not_mem_nil, not_or, or_false] at h; simp [rp, h]) hx
  conv => whnf
  have fin : x4 = mk (escL 3 (cpl x)) := by
    refine cpl_inj ?_
    rw [d4, cpl_mk]
    unfold escL
    refine flat_congr fun d => ?_
    by_cases h : d ∈ [38, 60, 62, 34, 13, 10, 9]
    · revert d; decide +kernel
    · simp only [List.mem_cons, List.not_mem_nil, not_or, or_false] at h
      simp [escT, signsOf, rp, h]
  rw [fin]
  exact hK
theorem esc3_ok {W : Wd} (h : Is W) : CallOK W 1 (Str.ofString "_escape_cdata_c14n") (escSpec 3) := by
  refine callOK (names := [Str.ofString "text"]) (rec_mem h (i := 9) (x := Str.ofString "_escape_cdata_c14n") (by rfl)) (by rfl) (by decide +kernel)
    (fun vs pm cd doc hl => ?_) (BW_ok (gok0 h 0) rfl 8 5 (mu := [])) fun ps K hs => ?_
  · obtain ⟨a, rfl⟩ := len1 hl
    rfl
  · obtain ⟨p0, rfl, hsa⟩ := as1.inv hs
    obtain ⟨x, rfl, hsb⟩ := asS.inv hsa
    have hs := hsb
    · exact ⟨rfl, esc3_body x K hs.1 hs.2⟩

set_option maxHeartbeats 4000000 in
theorem esc4_body (x : Str) (K : PV → Prop) (hx : (cpl x).length ≤ 1000) (hK : K (.str (mk (escL 4 (cpl x))))) :
    BW G0 [] 8 5 (drOf pr 10).scope.names (drOf pr 10).body (startσ [Str.ofString "text"] [.str x]) (retK K) := by
  have l0 : (cpl x).length ≤ 1000 := hx
  have b0 : (cpl x).length ≤ 1000 := hx
  conv => whnf
  refine Br.rep2 (t := x) (c := Str.ofString "&") (z := Str.ofString "&amp;") (k := 38) (by rfl) (fun hn => by rw [← hn]; exact fun hF => hF) (fun hF => ?_) ?_
  · conv => whnf
    refine Ob.intro (rep_ok (n := 1000) (by omega) (by decide +kernel) l0 (by decide +kernel)) ?_
    conv at hF => whnf
    conv => whnf
    exact hF
  have c1 := replace_cpl x (mk [38, 97, 109, 112, 59]) 38
  rw [cpl_mk] at c1
  rw [show Txt.replace x ⟨#[38]⟩ (mk [38, 97, 109, 112, 59]) = Txt.replace x (Str.ofString "&") (Str.ofString "&amp;") from rfl] at c1
  generalize e1 : Txt.replace x (Str.ofString "&") (Str.ofString "&amp;") = x1 at *
  have d1 : cpl x1 = (cpl x).flatMap fun d => if d = 38 then [38, 97, 109, 112, 59] else [d] := c1
  have l1 : (cpl x1).length ≤ 6000 := by
    rw [d1]
    exact flat_len (fun d => by
      by_cases h : d ∈ [38, 60, 62, 34, 13, 10, 9]
      · revert d; decide +kernel
      · simp only [List.mem_cons, List.not_mem_nil, not_or, or_false] at h; simp [rp, h]) hx
  conv => whnf
  refine Br.rep2 (t := x1) (c := Str.ofString "<") (z := Str.ofString "&lt;") (k := 60) (by rfl) (fun hn => by rw [← hn]; exact fun hF => hF) (fun hF => ?_) ?_
  · conv => whnf
    refine Ob.intro (rep_ok (n := 6000) (by omega) (by decide +kernel) l1 (by decide +kernel)) ?_
    conv at hF => whnf
    conv => whnf
    exact hF
  have c2 := replace_cpl x1 (mk [38, 108, 116, 59]) 60
  rw [cpl_mk] at c2
  rw [show Txt.replace x1 ⟨#[60]⟩ (mk [38, 108, 116, 59]) = Txt.replace x1 (Str.ofString "<") (Str.ofString "&lt;") from rfl] at c2
  generalize e2 : Txt.replace x1 (Str.ofString "<") (Str.ofString "&lt;") = x2 at *
  have d2 := c2
  rw [d1, rp_flat] at d2
  have l2 : (cpl x2).length ≤ 6000 := by
    rw [d2]
    exact flat_len (fun d => by
      by_cases h : d ∈ [38, 60, 62, 34, 13, 10, 9]
      · revert d; decide +kernel
      · simp only [List.mem_cons, List.not_mem_nil, not_or, or_false] at h; simp [rp, h]) hx
  conv => whnf
  refine Br.rep2 (t := x2) (c := Str.ofString "\"") (z := Str.ofString "&quot;") (k := 34) (by rfl) (fun hn => by rw [← hn]; exact fun hF => hF) (fun hF => ?_) ?_
  · conv => whnf
    refine Ob.intro (rep_ok (n := 6000) (by omega) (by decide +kernel) l2 (by decide +kernel)) ?_
    conv at hF => whnf
    conv => whnf
    exact hF
  have c3 := replace_cpl x2 (mk [38, 113, 117, 111, 116, 59]) 34
  rw [cpl_mk] at c3
  rw [show Txt.replace x2 ⟨#[34]⟩ (mk [38, 113, 117, 111, 116, 59]) = Txt.replace x2 (Str.ofString "\"") (Str.ofString "&quot;") from rfl] at c3
  generalize e3 : Txt.replace x2 (Str.ofString "\"") (Str.ofString "&quot;") = x3 at *
  have d3 := c3
  rw [d2, rp_flat] at d3
  have l3 : (cpl x3).length ≤ 6000 := by
    rw [d3]
    exact flat_len (fun d => by
      by_cases h : d ∈ [38, 60, 62, 34, 13, 10, 9]
      · revert d; decide +kernel
      · simp only [List.mem_cons, List.not_mem_nil, not_or, or_false] at h; simp [rp, h]) hx
  conv => whnf
  refine Br.rep2 (t := x3) (c := Str.ofString "\t") (z := Str.ofString "&#x9;") (k := 9) (by rfl) (fun hn => by rw [← hn]; exact fun hF => hF) (fun hF => ?_) ?_
  · conv => whnf
    refine Ob.intro (rep_ok (n := 6000) (by omega) (by decide +kernel) l3 (by decide +kernel)) ?_
    conv at hF => whnf
    conv => whnf
    exact hF
  have c4 := replace_cpl x3 (mk [38, 35, 120, 57, 59]) 9
  rw [cpl_mk] at c4
  rw [show Txt.replace x3 ⟨#[9]⟩ (mk [38, 35, 120, 57, 59]) = Txt.replace x3 (Str.ofString "\t") (Str.ofString "&#x9;") from rfl] at c4
  generalize e4 : Txt.replace x3 (Str.ofString "\t") (Str.ofString "&#x9;") = x4 at *
  have d4 := c4
  rw [d3, rp_flat] at d4
  have l4 : (cpl x4).length ≤ 6000 := by
    rw [d4]
    exact flat_len (fun d => by
      by_cases h : d ∈ [38, 60, 62, 34, 13, 10, 9]
      · revert d; decide +kernel
      · simp only [List.mem_cons, List.not_mem_nil, not_or, or_false] at h; simp [rp, h]) hx
  conv => whnf
  refine Br.rep2 (t := x4) (c := Str.ofString "\n") (z := Str.ofString "&#xA;") (k := 10) (by rfl) (fun hn => by rw [← hn]; exact fun hF => hF) (fun hF => ?_) ?_
  · conv => whnf
    refine Ob.intro (rep_ok (n := 6000) (by omega) (by decide +kernel) l4 (by decide +kernel)) ?_
    conv at hF => whnf
    conv => whnf
    exact hF
  have c5 := replace_cpl x4 (mk [38, 35, 120, 65, 59]) 10
  rw [cpl_mk] at c5
  rw [show Txt.replace x4 ⟨#[10]⟩ (mk [38, 35, 120, 65, 59]) = Txt.replace x4 (Str.ofString "\n") (Str.ofString "&#xA;") from rfl] at c5
  generalize e5 : Txt.replace x4 (Str.ofString "\n") (Str.ofString "&#xA;") = x5 at *
  have d5 := c5
  rw [d4, rp_flat] at d5
  have l5 : (cpl x5).length ≤ 6000 := by
    rw [d5]
    exact flat_len (fun d => by
      by_cases h : d ∈ [38, 60, 62, 34, 13, 10, 9]
      · revert d; decide +kernel
      · simp only [List.mem_cons, List.not_mem_nil, not_or, or_false] at h; simp [rp, h]) hx
  conv => whnf
  refine Br.rep2 (t := x5) (c := Str.ofString "\r") (z := Str.ofString "&#xD;") (k := 13) (by rfl) (fun hn => by rw [← hn]; exact fun hF => hF) (fun hF => ?_) ?_
  · conv => whnf
    refine Ob.intro (rep_ok (n := 6000) (by omega) (by decide +kernel) l5 (by decide +kernel)) ?_
    conv at hF => whnf
    conv => whnf
    exact hF
  have c6 := replace_cpl x5 (mk [38, 35, 120, 68, 59]) 13
  rw [cpl_mk] at c6
  rw [show Txt.replace x5 ⟨#[13]⟩ (mk [38, 35, 120, 68, 59]) = Txt.replace x5 (Str.ofString "\r") (Str.ofString "&#xD;") from rfl] at c6
  generalize e6 : Txt.replace x5 (Str.ofString "\r") (Str.ofString "&#xD;") = x6 at *
  have d6 := c6
  rw [d5, rp_flat] at d6
  have l6 : (cpl x6).length ≤ 6000 := by
    rw [d6]
    exact flat_len (fun d => by
      by_cases h : d ∈ [38, 60, 62, 34, 13, 10, 9]
      · revert d; decide +kernel
      · simp only [List.mem_cons, List.not_mem_nil, not_or, or_false] at h; simp [rp, h]) hx
  conv => whnf
  have fin : x6 = mk (escL 4 (cpl x)) := by
    refine cpl_inj ?_
    rw [d6, cpl_mk]
    unfold escL
    refine flat_congr fun d => ?_
    by_cases h : d ∈ [38, 60, 62, 34, 13, 10, 9]
    · revert d; decide +kernel
    · simp only [List.mem_cons, List.not_mem_nil, not_or, or_false] at h
      simp [escT, signsOf, rp, h]
  rw [fin]
  exact hK
theorem esc4_ok {W : Wd} (h : Is W) : CallOK W 1 (Str.ofString "_escape_attrib_c14n") (escSpec 4) := by
  refine callOK (names := [Str.ofString "text"]) (rec_mem h (i := 10) (x := Str.ofString "_escape_attrib_c14n") (by rfl)) (by rfl) (by decide +kernel)
    (fun vs pm cd doc hl => ?_) (BW_ok (gok0 h 0) rfl 8 5 (mu := [])) fun ps K hs => ?_
  · obtain ⟨a, rfl⟩ := len1 hl
    rfl
  · obtain ⟨p0, rfl, hsa⟩ := as1.inv hs
    obtain ⟨x, rfl, hsb⟩ := asS.inv hsa
    have hs := hsb
    · exact ⟨rfl, esc4_body x K hs.1 hs.2⟩

end Mine
namespace Mine

noncomputable def G5 : GC := ((((G0.with (Str.ofString "_escape_cdata") (escSpec 0)).with (Str.ofString "_escape_attrib") (escSpec 1)).with (Str.ofString "_escape_attrib_html") (escSpec 2)).with (Str.ofString "_escape_cdata_c14n") (escSpec 3)).with (Str.ofString "_escape_attrib_c14n") (escSpec 4)
theorem gok5 {W : Wd} (h : Is W) : GOk W 1 G5 := (((((gok0 h 1).with (esc0_ok h)).with (esc1_ok h)).with (esc2_ok h)).with (esc3_ok h)).with (esc4_ok h)
noncomputable def writeSpec : PSpec := fun ps K => as0 ps False fun p0 r0 => asS p0 fun x => as1 r0 fun p1 => asI p1 fun k => 
    (0 ≤ k ∧ k ≤ 4 ∧ (cpl x).length ≤ 1000) ∧ K (.str (mk (escL k.toNat (cpl x))))
theorem five {k : Int} (h0 : 0 ≤ k) (h4 : k ≤ 4) : k = 0 ∨ k = 1 ∨ k = 2 ∨ k = 3 ∨ k = 4 := by omega
theorem write_ok {W : Wd} (h : Is W) : CallOK W 2 (Str.ofString "_law_write") writeSpec := by
  refine callOK (names := [Str.ofString "text", Str.ofString "kind"]) (rec_mem h (i := 11) (x := Str.ofString "_law_write") (by rfl)) (by rfl) (by decide +kernel)
    (fun vs pm cd doc hl => ?_) (BW_ok (gok5 h) rfl 8 5 (mu := [])) fun ps K hs => ?_
  · obtain ⟨a, b, rfl⟩ := len2 hl
    rfl
  · rcases ps with _ | ⟨p0, r0⟩
    · exact False.elim hs
    have hsa := hs
    obtain ⟨x, rfl, hsb⟩ := asS.inv hsa
    obtain ⟨p1, rfl, hsba⟩ := as1.inv hsb
    obtain ⟨k, rfl, hsbb⟩ := asI.inv hsba
    have hs := hsbb
    · obtain ⟨⟨h1, h2, h3⟩, hk⟩ := hs
      refine ⟨rfl, ?_⟩
      rcases five h1 h2 with rfl | rfl | rfl | rfl | rfl
      · conv => whnf
        refine Br.tt ?_
        conv => whnf
        exact ⟨h3, hk⟩
      · conv => whnf
        refine Br.ff ?_
        conv => whnf
        refine Br.tt ?_
        conv => whnf
        exact ⟨h3, hk⟩
      · conv => whnf
        refine Br.ff ?_
        conv => whnf
        refine Br.ff ?_
        conv => whnf
        refine Br.tt ?_
        conv => whnf
        exact ⟨h3, hk⟩
      · conv => whnf
        refine Br.ff ?_
        conv => whnf
        refine Br.ff ?_
        conv => whnf
        refine Br.ff ?_
        conv => whnf
        refine Br.tt ?_
        conv => whnf
        exact ⟨h3, hk⟩
      · conv => whnf
        refine Br.ff ?_
        conv => whnf
        refine Br.ff ?_
        conv => whnf
        refine Br.ff ?_
        conv => whnf
        refine Br.ff ?_
        conv => whnf
        exact ⟨h3, hk⟩
end Mine
namespace Mine

section
variable {α β : Type} [DecidableEq α] [DecidableEq β] (c : α → α → Nat) (d : β → β → Nat)
/-- what the places of the one and of the other row have to do with each other is the same -/
noncomputable def Alike (za zb : List (α × β)) : Prop := ∀ p ∈ za, ∀ q ∈ zb, (p.1 = q.1 ↔ p.2 = q.2) ∧ c p.1 q.1 = d p.2 q.2
variable {c d}
theorem Alike.cut {za zb za' zb' : List (α × β)} (h : Alike c d za zb) (ha : ∀ p ∈ za', p ∈ za) (hb : ∀ p ∈ zb', p ∈ zb) : Alike c d za' zb' := fun p hp q hq => h p (ha p hp) q (hb q hq)
theorem D_alike : ∀ (za zb : List (α × β)), Alike c d za zb → D c (za.map (·.1)) (zb.map (·.1)) = D d (za.map (·.2)) (zb.map (·.2))
  | [], zb, _ => by simp [D_nil]
  | p :: za, [], _ => by simp [D_nil']
  | p :: za, q :: zb, h => by
    simp only [List.map_cons]
    rw [D_cons, D_cons, (h p List.mem_cons_self q List.mem_cons_self).2, D_alike za zb (h.cut (fun x => List.mem_cons_of_mem _) fun x => List.mem_cons_of_mem _)]
    have h1 := D_alike za (q :: zb) (h.cut (fun x => List.mem_cons_of_mem _) fun x => id)
    have h2 := D_alike (p :: za) zb (h.cut (fun x => id) fun x => List.mem_cons_of_mem _)
    simp only [List.map_cons] at h1 h2
    rw [h1, h2]
  termination_by za zb => za.length + zb.length
theorem lcp_alike : ∀ (za zb : List (α × β)), Alike c d za zb → lcp (za.map (·.1)) (zb.map (·.1)) = lcp (za.map (·.2)) (zb.map (·.2))
  | [], zb, _ => by simp [lcp]
  | p :: za, [], _ => by simp [lcp]
  | p :: za, q :: zb, h => by
    have h1 := (h p List.mem_cons_self q List.mem_cons_self).1
    have h2 := lcp_alike za zb (h.cut (fun x => List.mem_cons_of_mem _) fun x => List.mem_cons_of_mem _)
    simp only [List.map_cons, lcp, h2]
    by_cases e : p.1 = q.1
    · rw [if_pos e, if_pos (h1.mp e)]
    · rw [if_neg e, if_neg fun q => e (h1.mpr q)]
theorem eq_alike : ∀ (za zb : List (α × β)), Alike c d za zb → (za.map (·.1) = zb.map (·.1) ↔ za.map (·.2) = zb.map (·.2))
  | [], [], _ => by simp
  | [], _ :: _, _ => by simp
  | _ :: _, [], _ => by simp
  | p :: za, q :: zb, h => by
    have h1 := (h p List.mem_cons_self q List.mem_cons_self).1
    have h2 := eq_alike za zb (h.cut (fun x => List.mem_cons_of_mem _) fun x => List.mem_cons_of_mem _)
    simp only [List.map_cons, List.cons.injEq, h1, h2]
theorem strip_alike (za zb : List (α × β)) (h : Alike c d za zb) : ∃ ya yb : List (α × β), (∀ p ∈ ya, p ∈ za) ∧ (∀ p ∈ yb, p ∈ zb) ∧ strip (za.map (·.1)) (zb.map (·.1)) = (ya.map (·.1), yb.map (·.1)) ∧ strip (za.map (·.2)) (zb.map (·.2)) = (ya.map (·.2), yb.map (·.2)) := by
  have e1 := lcp_alike za zb h
  generalize hk : lcp (za.map (·.2)) (zb.map (·.2)) = k at e1
  have hx : Alike c d (za.drop k).reverse (zb.drop k).reverse := h.cut (fun x hx => List.mem_of_mem_drop (List.mem_reverse.mp hx)) fun x hx => List.mem_of_mem_drop (List.mem_reverse.mp hx)
  have e2 := lcp_alike _ _ hx
  generalize hm : lcp ((za.drop k).reverse.map (·.2)) ((zb.drop k).reverse.map (·.2)) = m at e2
  refine ⟨(za.drop k).take ((za.drop k).length - m), (zb.drop k).take ((zb.drop k).length - m), fun p hp => List.mem_of_mem_drop (List.mem_of_mem_take hp), fun p hp => List.mem_of_mem_drop (List.mem_of_mem_take hp), ?_, ?_⟩
  · unfold strip
    simp only [e1, ← List.map_drop, ← List.map_reverse, e2, List.length_map, ← List.map_take]
  · unfold strip
    simp only [hk, ← List.map_drop, ← List.map_reverse, hm, List.length_map, ← List.map_take]
theorem Pij_alike {za zb : List (α × β)} (h : Alike c d za zb) (i j : Nat) : Pij c (za.map (·.1)) (zb.map (·.1)) i j = Pij d (za.map (·.2)) (zb.map (·.2)) i j := by
  unfold Pij
  rw [← List.map_take, ← List.map_take, ← List.map_take, ← List.map_take]
  exact D_alike _ _ (h.cut (fun x => List.mem_of_mem_take) fun x => List.mem_of_mem_take)
theorem levS_alike {za zb : List (α × β)} (h : Alike c d za zb) (m : Int) : levS c (za.map (·.1)) (zb.map (·.1)) m = levS d (za.map (·.2)) (zb.map (·.2)) m := by
  have e : levT c (za.map (·.1)) (zb.map (·.1)) m = levT d (za.map (·.2)) (zb.map (·.2)) m := by
    unfold levT rowHi
    simp only [List.length_map, Pij_alike h, D_alike za zb h]
  unfold levS
  simp only [List.length_map, e]
theorem lev9_alike {za zb : List (α × β)} (h : Alike c d za zb) (h' : Alike c d zb za) (m : Int) : lev9 c (za.map (·.1)) (zb.map (·.1)) m = lev9 d (za.map (·.2)) (zb.map (·.2)) m := by
  unfold lev9
  simp only [List.length_map, levS_alike h, levS_alike h']
end
theorem levR_alike {za zb : List (Str × Str)} (h : Alike subC subC za zb) (m : Int) : levR (za.map (·.1)) (zb.map (·.1)) m = levR (za.map (·.2)) (zb.map (·.2)) m := by
  have h' : Alike subC subC zb za := fun p hp q hq => by
    have := h q hq p hp
    exact ⟨⟨fun e => (this.1.mp e.symm).symm, fun e => (this.1.mpr e.symm).symm⟩, by rw [subC_symm, this.2, subC_symm]⟩
  obtain ⟨ya, yb, g1, g2, e1, e2⟩ := strip_alike za zb h
  unfold levR
  rw [e1, e2, lev9_alike (h.cut g1 g2) (h'.cut g2 g1)]
  by_cases e : za.map (·.1) = zb.map (·.1)
  · rw [if_pos e, if_pos ((eq_alike za zb h).mp e)]
  · rw [if_neg e, if_neg fun q => e ((eq_alike za zb h).mpr q)]

theorem levT_ok {A B : List Str} {m : Int} (hA : 0 < A.length) : LevOk (D subC A B) m (levT subC A B m) := by
  unfold levT
  split
  · rename_i h
    obtain ⟨j, hj, hr⟩ := h
    refine .inr ⟨?_, rfl⟩
    have rb := row_bound subC subC_le A B (m := (m + 1).toNat) (j := j + 1) hj (fun t ht => ?_) (B.length - (j + 1)) (by omega) A.length (Nat.le_refl _)
    · rw [show j + 1 + (B.length - (j + 1)) = B.length by omega, Pij_all] at rb
      omega
    · cases t with
      | zero =>
        have h1 := hr 0 hA
        have h2 := Pij_succ subC A B (i := 0) (j := j) hA hj
        have h3 := subC_le A[0] B[j]
        rw [Pij_0 subC _ _ (by omega)] at h2 ⊢
        omega
      | succ t =>
        have h1 := hr t (by omega)
        omega
  · exact .inl rfl
theorem levS_ok {A B : List Str} {m : Int} (hA : 0 < A.length) : LevOk (D subC A B) m (levS subC A B m) := by
  unfold levS
  split
  · have := D_diff subC A B
    exact .inr ⟨by omega, rfl⟩
  · exact levT_ok hA
theorem lev9_ok {A B : List Str} {m : Int} (h : A.length ≤ 40 ∧ B.length ≤ 40) : LevOk (D subC A B) m (lev9 subC A B m) := by
  unfold lev9
  split
  · rename_i h0
    refine .inl ?_
    rcases h0 with e | e
    · rw [List.length_eq_zero_iff.mp e, D_nil]; simp
    · rw [List.length_eq_zero_iff.mp e, D_nil']; simp
  · rw [if_neg (by omega)]
    split
    · rw [D_symm subC subC_symm]; exact levS_ok (by omega)
    · exact levS_ok (by omega)
theorem strip_le {α : Type} [DecidableEq α] (a b : List α) : (strip a b).1.length ≤ a.length ∧ (strip a b).2.length ≤ b.length := by
  unfold strip
  simp only [List.length_take, List.length_drop]
  exact ⟨Nat.le_trans (Nat.min_le_right _ _) (Nat.sub_le _ _), Nat.le_trans (Nat.min_le_right _ _) (Nat.sub_le _ _)⟩
theorem levR_ok {a b : List Str} {m : Int} (h : a.length ≤ 40 ∧ b.length ≤ 40) : LevOk (D subC a b) m (levR a b m) := by
  unfold levR
  split
  · rename_i e
    subst e
    have := D_prefix subC subC_same [] [] a
    rw [List.append_nil, D_nil] at this
    exact .inl (by rw [this]; rfl)
  · have hs := strip_le a b
    have := lev9_ok (A := (strip a b).1) (B := (strip a b).2) (m := m) (by omega)
    rwa [D_strip subC subC_same] at this
theorem levR_far {a b : List Str} (h : a.length ≤ 10 ∧ b.length ≤ 10) : levR a b 99 = (D subC a b : Nat) := by
  rcases levR_ok (a := a) (b := b) (m := 99) (by omega) with e | ⟨e, _⟩
  · exact e
  · have := D_le subC a b
    omega
end Mine
namespace Mine

noncomputable def asc (x : Str) : Prop := ∀ c ∈ cpl x, c < 128
theorem lower_cpl {x : Str} (h : asc x) : cpl (Txt.lower x) = (cpl x).map lo1 := by
  rw [lower_ascii h]
  simp [cpl]
theorem upper_cpl {x : Str} (h : asc x) : cpl (Txt.upper x) = (cpl x).map up1 := by
  rw [upper_ascii h]
  simp [cpl]
theorem up_lo : ∀ c, c < 128 → up1 (lo1 c) = up1 c := by decide +kernel
theorem lo_up : ∀ c, c < 128 → lo1 (up1 c) = lo1 c := by decide +kernel
theorem lo_lt : ∀ c, c < 128 → lo1 c < 128 := by decide +kernel
theorem map_case {l : List Nat} (h : ∀ c ∈ l, c < 128) : (l.map lo1).map up1 = l.map up1 ∧ (l.map up1).map lo1 = l.map lo1 := by
  rw [List.map_map, List.map_map]
  exact ⟨List.map_congr_left fun c hc => up_lo c (h c hc), List.map_congr_left fun c hc => lo_up c (h c hc)⟩
theorem case_iff {x y : Str} (hx : asc x) (hy : asc y) : Txt.upper x = Txt.upper y ↔ Txt.lower x = Txt.lower y := by
  constructor
  · intro e
    have e := congrArg cpl e
    rw [upper_cpl hx, upper_cpl hy] at e
    refine cpl_inj ?_
    rw [lower_cpl hx, lower_cpl hy, ← (map_case hx).2, ← (map_case hy).2, e]
  · intro e
    have e := congrArg cpl e
    rw [lower_cpl hx, lower_cpl hy] at e
    refine cpl_inj ?_
    rw [upper_cpl hx, upper_cpl hy, ← (map_case hx).1, ← (map_case hy).1, e]

/-- where two codes meet they are the same word of the same sign -/
noncomputable def Meet (S : Nat → Prop) (f g : Nat → List Nat) : Prop := ∀ c d, S c → S d → ∀ r r', f c ++ r = g d ++ r' → c = d ∧ f c = g d
theorem code_meet {S : Nat → Prop} {f g : Nat → List Nat} (h : Meet S f g) (hf : ∀ c, S c → f c ≠ []) (hg : ∀ c, S c → g c ≠ []) : ∀ {p q : List Nat}, (∀ c ∈ p, S c) → (∀ c ∈ q, S c) → p.flatMap f = q.flatMap g → p = q ∧ ∀ c ∈ p, f c = g c
  | [], [], _, _, _ => ⟨rfl, fun _ h => nomatch h⟩
  | [], d :: q, _, hq, e => by
    rw [List.flatMap_nil, List.flatMap_cons] at e
    exact absurd (List.append_eq_nil_iff.mp e.symm).1 (hg d (hq d List.mem_cons_self))
  | c :: p, [], hp, _, e => by
    rw [List.flatMap_nil, List.flatMap_cons] at e
    exact absurd (List.append_eq_nil_iff.mp e).1 (hf c (hp c List.mem_cons_self))
  | c :: p, d :: q, hp, hq, e => by
    rw [List.flatMap_cons, List.flatMap_cons] at e
    obtain ⟨rfl, e1⟩ := h c d (hp c List.mem_cons_self) (hq d List.mem_cons_self) _ _ e
    rw [e1] at e
    obtain ⟨rfl, e2⟩ := code_meet h hf hg (fun x hx => hp x (List.mem_cons_of_mem _ hx)) (fun x hx => hq x (List.mem_cons_of_mem _ hx)) (List.append_cancel_left e)
    refine ⟨rfl, fun x hx => ?_⟩
    rcases List.mem_cons.mp hx with rfl | hx
    · exact e1
    · exact e2 x hx
theorem flat_eq {f g : Nat → List Nat} : ∀ {p : List Nat}, (∀ c ∈ p, f c = g c) → p.flatMap f = p.flatMap g
  | [], _ => rfl
  | c :: p, h => by rw [List.flatMap_cons, List.flatMap_cons, h c List.mem_cons_self, flat_eq fun x hx => h x (List.mem_cons_of_mem _ hx)]

/-- the hands' words, small and as they are -/
noncomputable def lowT (k d : Nat) : List Nat := (escT k d).map lo1
noncomputable def kinds5 : List Nat := [0, 1, 2, 3, 4]
theorem amp_all : ∀ k ∈ kinds5, 38 ∈ signsOf k := by decide
theorem esc_out {k d : Nat} (h : d ∉ signsOf k) : escT k d = [d] := by unfold escT; rw [if_neg h]
theorem esc_in {k d : Nat} (h : d ∈ signsOf k) : escT k d = 38 :: (nameOf k d ++ [59]) := by unfold escT; rw [if_pos h]; rfl
theorem words_apart : ∀ k ∈ kinds5, ∀ j ∈ kinds5, ∀ c ∈ signsOf k, ∀ d ∈ signsOf j, ((escT k c).isPrefixOf (escT j d) = true ∨ (escT j d).isPrefixOf (escT k c) = true) → c = d ∧ escT k c = escT j d := by decide +kernel
theorem words_low : ∀ k ∈ kinds5, ∀ j ∈ kinds5, ∀ c ∈ signsOf k, ∀ d ∈ signsOf j, ((lowT k c).isPrefixOf (lowT j d) = true ∨ (lowT j d).isPrefixOf (lowT k c) = true) → c = d ∧ escT k c = escT j d := by decide +kernel
theorem low_same : ∀ k ∈ kinds5, ∀ d, d < 128 → lowT k (lo1 d) = lowT k d := by decide +kernel
theorem pre_of {a b r r' : List Nat} (h : a ++ r = b ++ r') : a.isPrefixOf b = true ∨ b.isPrefixOf a = true := by
  rw [List.isPrefixOf_iff_prefix, List.isPrefixOf_iff_prefix]
  exact List.prefix_or_prefix_of_prefix (List.prefix_append a r) (h ▸ List.prefix_append b r')
theorem meet_esc {k j : Nat} (hk : k ∈ kinds5) (hj : j ∈ kinds5) : Meet (fun _ => True) (escT k) (escT j) := by
  intro c d _ _ r r' e
  by_cases hc : c ∈ signsOf k
  · by_cases hd : d ∈ signsOf j
    · exact words_apart k hk j hj c hc d hd (pre_of e)
    · rw [esc_in hc, esc_out hd] at e
      have : 38 = d := by simpa using congrArg (·.head?) e
      exact absurd (this ▸ amp_all j hj) hd
  · by_cases hd : d ∈ signsOf j
    · rw [esc_out hc, esc_in hd] at e
      have : c = 38 := by simpa using congrArg (·.head?) e
      exact absurd (this ▸ amp_all k hk) hc
    · rw [esc_out hc, esc_out hd] at e ⊢
      have : c = d := by simpa using congrArg (·.head?) e
      exact ⟨this, by rw [this]⟩
/-- signs below 128 whose letters are small -/
noncomputable def smallSign (c : Nat) : Prop := c < 128 ∧ lo1 c = c
theorem low_in {k d : Nat} (h : d ∈ signsOf k) : ∃ w, lowT k d = 38 :: w := by
  unfold lowT
  rw [esc_in h]
  exact ⟨_, rfl⟩
theorem low_out {k d : Nat} (h : d ∉ signsOf k) (hs : lo1 d = d) : lowT k d = [d] := by unfold lowT; rw [esc_out h]; simp [hs]
theorem meet_low {k j : Nat} (hk : k ∈ kinds5) (hj : j ∈ kinds5) : Meet smallSign (lowT k) (lowT j) := by
  intro c d sc sd r r' e
  by_cases hc : c ∈ signsOf k
  · by_cases hd : d ∈ signsOf j
    · obtain ⟨rfl, e2⟩ := words_low k hk j hj c hc d hd (pre_of e)
      exact ⟨rfl, by unfold lowT; rw [e2]⟩
    · obtain ⟨w, ew⟩ := low_in hc
      rw [ew, low_out hd sd.2] at e
      have : 38 = d := by simpa using congrArg (·.head?) e
      exact absurd (this ▸ amp_all j hj) hd
  · by_cases hd : d ∈ signsOf j
    · obtain ⟨w, ew⟩ := low_in hd
      rw [ew, low_out hc sc.2] at e
      have : c = 38 := by simpa using congrArg (·.head?) e
      exact absurd (this ▸ amp_all k hk) hc
    · rw [low_out hc sc.2, low_out hd sd.2] at e ⊢
      have : c = d := by simpa using congrArg (·.head?) e
      exact ⟨this, by rw [this]⟩
end Mine
namespace Mine

/-- a text, written by a hand -/
noncomputable def wr (k : Nat) (p : Str) : Str := mk (escL k (cpl p))
noncomputable def sameBy (k j : Nat) (p : Str) : Prop := ∀ c ∈ cpl p, escT k c = escT j c
theorem escT_ne (k c : Nat) : escT k c ≠ [] := by
  unfold escT
  split <;> simp
theorem escT_asc : ∀ k ∈ kinds5, ∀ c, c < 128 → ∀ d ∈ escT k c, d < 128 := by decide +kernel
theorem wr_asc {k : Nat} (hk : k ∈ kinds5) {p : Str} (h : asc p) : asc (wr k p) := by
  intro d hd
  unfold wr at hd
  rw [cpl_mk] at hd
  obtain ⟨c, hc, hd⟩ := List.mem_flatMap.mp hd
  exact escT_asc k hk c (h c hc) d hd
theorem wr_eq {k j : Nat} (hk : k ∈ kinds5) (hj : j ∈ kinds5) {p q : Str} : wr k p = wr j q ↔ p = q ∧ sameBy k j p := by
  unfold wr
  constructor
  · intro e
    have e := congrArg cpl e
    rw [cpl_mk, cpl_mk] at e
    obtain ⟨h1, h2⟩ := code_meet (meet_esc hk hj) (fun c _ => escT_ne k c) (fun c _ => escT_ne j c) (fun _ _ => trivial) (fun _ _ => trivial) e
    exact ⟨cpl_inj h1, h2⟩
  · rintro ⟨rfl, h⟩
    exact congrArg mk (flat_eq h)
theorem flat_low {k : Nat} (hk : k ∈ kinds5) : ∀ {l : List Nat}, (∀ c ∈ l, c < 128) → (escL k l).map lo1 = (l.map lo1).flatMap (lowT k)
  | [], _ => rfl
  | c :: l, h => by
    have ih := flat_low hk (l := l) fun x hx => h x (List.mem_cons_of_mem _ hx)
    unfold escL at ih ⊢
    rw [List.flatMap_cons, List.map_append, ih, List.map_cons, List.flatMap_cons, low_same k hk c (h c List.mem_cons_self)]
    rfl
theorem small_all {l : List Nat} (h : ∀ c ∈ l, c < 128) : ∀ c ∈ l.map lo1, smallSign c := by
  intro c hc
  obtain ⟨d, hd, rfl⟩ := List.mem_map.mp hc
  refine ⟨lo_lt d (h d hd), ?_⟩
  have : ∀ c, c < 128 → lo1 (lo1 c) = lo1 c := by decide +kernel
  exact this d (h d hd)
theorem lowT_ne (k c : Nat) : lowT k c ≠ [] := by
  unfold lowT
  intro e
  exact escT_ne k c (List.map_eq_nil_iff.mp e)
theorem low_differ : ∀ k ∈ kinds5, ∀ j ∈ kinds5, ∀ c, c < 128 → lowT k (lo1 c) = lowT j (lo1 c) → escT k c = escT j c := by decide +kernel
theorem esc_low_of : ∀ k ∈ kinds5, ∀ j ∈ kinds5, ∀ c, c < 128 → escT k c = escT j c → lowT k (lo1 c) = lowT j (lo1 c) := by decide +kernel
theorem wr_low {k j : Nat} (hk : k ∈ kinds5) (hj : j ∈ kinds5) {p q : Str} (hp : asc p) (hq : asc q) : Txt.lower (wr k p) = Txt.lower (wr j q) ↔ Txt.lower p = Txt.lower q ∧ sameBy k j p := by
  have e1 : cpl (Txt.lower (wr k p)) = ((cpl p).map lo1).flatMap (lowT k) := by rw [lower_cpl (wr_asc hk hp), wr, cpl_mk, flat_low hk hp]
  have e2 : cpl (Txt.lower (wr j q)) = ((cpl q).map lo1).flatMap (lowT j) := by rw [lower_cpl (wr_asc hj hq), wr, cpl_mk, flat_low hj hq]
  constructor
  · intro e
    have e := congrArg cpl e
    rw [e1, e2] at e
    obtain ⟨h1, h2⟩ := code_meet (meet_low hk hj) (fun c _ => lowT_ne k c) (fun c _ => lowT_ne j c) (small_all hp) (small_all hq) e
    refine ⟨cpl_inj (by rw [lower_cpl hp, lower_cpl hq, h1]), fun c hc => ?_⟩
    exact low_differ k hk j hj c (hp c hc) (h2 (lo1 c) (List.mem_map_of_mem hc))
  · rintro ⟨e, h⟩
    have e := congrArg cpl e
    rw [lower_cpl hp, lower_cpl hq] at e
    refine cpl_inj ?_
    rw [e1, e2, ← e]
    refine flat_eq fun c hc => ?_
    obtain ⟨d, hd, rfl⟩ := List.mem_map.mp hc
    exact esc_low_of k hk j hj d (hp d hd) (h d hd)
theorem subC_iff {x y x' y' : Str} (h1 : x = y ↔ x' = y') (h2 : Txt.lower x = Txt.lower y ↔ Txt.lower x' = Txt.lower y') : subC x y = subC x' y' := by
  have e1 : (x == y) = (x' == y') := by rw [Bool.eq_iff_iff, beq_iff_eq, beq_iff_eq]; exact h1
  have e2 : (Txt.lower x == Txt.lower y) = (Txt.lower x' == Txt.lower y') := by rw [Bool.eq_iff_iff, beq_iff_eq, beq_iff_eq]; exact h2
  unfold subC
  rw [e1, e2]
theorem sameBy_self (k : Nat) (p : Str) : sameBy k k p := fun _ _ => rfl
/-- one hand for both -/
theorem one_hand {k : Nat} (hk : k ∈ kinds5) {p q : Str} (hp : asc p) (hq : asc q) : (wr k p = wr k q ↔ p = q) ∧ subC (wr k p) (wr k q) = subC p q := by
  have h1 : wr k p = wr k q ↔ p = q := ⟨fun e => ((wr_eq hk hk).mp e).1, fun e => by rw [e]⟩
  have h2 : Txt.lower (wr k p) = Txt.lower (wr k q) ↔ Txt.lower p = Txt.lower q := ⟨fun e => ((wr_low hk hk hp hq).mp e).1, fun e => (wr_low hk hk hp hq).mpr ⟨e, sameBy_self k p⟩⟩
  exact ⟨h1, subC_iff h1 h2⟩

noncomputable def str1 : Str := ⟨#[19968]⟩
noncomputable def str2 : Str := ⟨#[19969]⟩
open Classical in
noncomputable def mark (k j : Nat) (z p : Str) : Str := if sameBy k j p then p else z
theorem low1 : Txt.lower str1 = str1 := by decide +kernel
theorem low2 : Txt.lower str2 = str2 := by decide +kernel
theorem upp1 : Txt.upper str1 = str1 := by decide +kernel
theorem upp2 : Txt.upper str2 = str2 := by decide +kernel
theorem asc_ne1 {p : Str} (h : asc p) : p ≠ str1 := by rintro rfl; exact absurd (h 19968 (by simp [str1, cpl])) (by decide)
theorem asc_ne2 {p : Str} (h : asc p) : p ≠ str2 := by rintro rfl; exact absurd (h 19969 (by simp [str2, cpl])) (by decide)
theorem lower_asc {p : Str} (h : asc p) : asc (Txt.lower p) := by
  intro c hc
  rw [lower_cpl h] at hc
  obtain ⟨d, hd, rfl⟩ := List.mem_map.mp hc
  exact lo_lt d (h d hd)
theorem up_lt : ∀ c, c < 128 → up1 c < 128 := by decide +kernel
theorem upper_asc {p : Str} (h : asc p) : asc (Txt.upper p) := by
  intro c hc
  rw [upper_cpl h] at hc
  obtain ⟨d, hd, rfl⟩ := List.mem_map.mp hc
  exact up_lt d (h d hd)
theorem signs_same_low : ∀ k ∈ kinds5, ∀ j ∈ kinds5, ∀ c, c < 128 → (escT k c = escT j c ↔ escT k (lo1 c) = escT j (lo1 c)) := by decide +kernel
theorem sameBy_low {k j : Nat} (hk : k ∈ kinds5) (hj : j ∈ kinds5) {p q : Str} (hp : asc p) (hq : asc q) (h : Txt.lower p = Txt.lower q) (hs : sameBy k j p) : sameBy k j q := by
  have e := congrArg cpl h
  rw [lower_cpl hp, lower_cpl hq] at e
  intro c hc
  have hm : lo1 c ∈ (cpl p).map lo1 := by rw [e]; exact List.mem_map_of_mem hc
  obtain ⟨d, hd, ed⟩ := List.mem_map.mp hm
  rw [signs_same_low k hk j hj c (hq c hc), ← ed, ← signs_same_low k hk j hj d (hp d hd)]
  exact hs d hd
theorem two_hands {k j : Nat} (hk : k ∈ kinds5) (hj : j ∈ kinds5) {p q : Str} (hp : asc p) (hq : asc q) :
    (wr k p = wr j q ↔ mark k j str1 p = mark k j str2 q) ∧ subC (wr k p) (wr j q) = subC (mark k j str1 p) (mark k j str2 q) := by
  have h12 : str1 ≠ str2 := by decide
  have h1 : wr k p = wr j q ↔ mark k j str1 p = mark k j str2 q := by
    rw [wr_eq hk hj]
    unfold mark
    by_cases a : sameBy k j p
    · rw [if_pos a]
      by_cases b : sameBy k j q
      · rw [if_pos b]; exact ⟨fun h => h.1, fun h => ⟨h, a⟩⟩
      · rw [if_neg b]; exact ⟨fun h => absurd (h.1 ▸ a) b, fun h => absurd h (asc_ne2 hp)⟩
    · rw [if_neg a]
      by_cases b : sameBy k j q
      · rw [if_pos b]; exact ⟨fun h => absurd h.2 a, fun h => absurd h.symm (asc_ne1 hq)⟩
      · rw [if_neg b]; exact ⟨fun h => absurd h.2 a, fun h => absurd h h12⟩
  have h2 : Txt.lower (wr k p) = Txt.lower (wr j q) ↔ Txt.lower (mark k j str1 p) = Txt.lower (mark k j str2 q) := by
    rw [wr_low hk hj hp hq]
    unfold mark
    by_cases a : sameBy k j p
    · rw [if_pos a]
      by_cases b : sameBy k j q
      · rw [if_pos b]; exact ⟨fun h => h.1, fun h => ⟨h, a⟩⟩
      · rw [if_neg b, low2]; exact ⟨fun h => absurd (sameBy_low hk hj hp hq h.1 a) b, fun h => absurd h (asc_ne2 (lower_asc hp))⟩
    · rw [if_neg a, low1]
      by_cases b : sameBy k j q
      · rw [if_pos b]; exact ⟨fun h => absurd h.2 a, fun h => absurd h.symm (asc_ne1 (lower_asc hq))⟩
      · rw [if_neg b, low2]; exact ⟨fun h => absurd h.2 a, fun h => absurd h h12⟩
  exact ⟨h1, subC_iff h1 h2⟩

noncomputable def priceU (a b : Str) : Nat := if a = b then 0 else if Txt.upper a = Txt.upper b then 1 else 2
noncomputable def fine (p : Str) : Prop := asc p ∨ p = str1 ∨ p = str2
theorem fine_case {x y : Str} (hx : fine x) (hy : fine y) : Txt.upper x = Txt.upper y ↔ Txt.lower x = Txt.lower y := by
  rcases hx with hx | rfl | rfl <;> rcases hy with hy | rfl | rfl
  · exact case_iff hx hy
  · rw [upp1, low1]; exact ⟨fun h => absurd h (asc_ne1 (upper_asc hx)), fun h => absurd h (asc_ne1 (lower_asc hx))⟩
  · rw [upp2, low2]; exact ⟨fun h => absurd h (asc_ne2 (upper_asc hx)), fun h => absurd h (asc_ne2 (lower_asc hx))⟩
  · rw [upp1, low1]; exact ⟨fun h => absurd h.symm (asc_ne1 (upper_asc hy)), fun h => absurd h.symm (asc_ne1 (lower_asc hy))⟩
  · exact ⟨fun _ => rfl, fun _ => rfl⟩
  · rw [upp1, upp2, low1, low2]
  · rw [upp2, low2]; exact ⟨fun h => absurd h.symm (asc_ne2 (upper_asc hy)), fun h => absurd h.symm (asc_ne2 (lower_asc hy))⟩
  · rw [upp1, upp2, low1, low2]
  · exact ⟨fun _ => rfl, fun _ => rfl⟩
theorem price_is {x y : Str} (hx : fine x) (hy : fine y) : priceU x y = subC x y := by
  have h := fine_case hx hy
  unfold priceU subC
  by_cases e : x = y
  · rw [if_pos e, beq_iff_eq.mpr e]
  · rw [if_neg e, beq_eq_false_iff_ne.mpr e]
    by_cases e2 : Txt.upper x = Txt.upper y
    · rw [if_pos e2, beq_iff_eq.mpr (h.mp e2)]
    · rw [if_neg e2, beq_eq_false_iff_ne.mpr fun q => e2 (h.mpr q)]
theorem mark_fine {k j : Nat} {z p : Str} (hz : z = str1 ∨ z = str2) (hp : asc p) : fine (mark k j z p) := by
  unfold mark
  split
  · exact .inl hp
  · exact .inr hz
end Mine
namespace Mine

theorem levR_maps {f g f' g' : Str → Str} {one two : List Str} (h : ∀ p ∈ one, ∀ q ∈ two, (f p = g q ↔ f' p = g' q) ∧ subC (f p) (g q) = subC (f' p) (g' q)) (m : Int) : levR (one.map f) (two.map g) m = levR (one.map f') (two.map g') m := by
  have := levR_alike (za := one.map fun p => (f p, f' p)) (zb := two.map fun q => (g q, g' q)) (fun a ha b hb => by
    obtain ⟨p, hp, rfl⟩ := List.mem_map.mp ha
    obtain ⟨q, hq, rfl⟩ := List.mem_map.mp hb
    exact h p hp q hq) m
  simpa only [List.map_map, Function.comp_def] using this
/-- the rows may as well be written -/
theorem rows_written {k : Nat} (hk : k ∈ kinds5) {one two : List Str} (h1 : ∀ p ∈ one, asc p) (h2 : ∀ p ∈ two, asc p) (m : Int) : levR (one.map (wr k)) (two.map (wr k)) m = levR one two m := by
  have := levR_maps (f := wr k) (g := wr k) (f' := id) (g' := id) (fun p hp q hq => one_hand hk (h1 p hp) (h2 q hq)) m
  simpa using this
theorem rows_strange {k j : Nat} (hk : k ∈ kinds5) (hj : j ∈ kinds5) {one two : List Str} (h1 : ∀ p ∈ one, asc p) (h2 : ∀ p ∈ two, asc p) (m : Int) :
    levR (one.map (wr k)) (two.map (wr j)) m = levR (one.map (mark k j str1)) (two.map (mark k j str2)) m :=
  levR_maps (fun p hp q hq => two_hands hk hj (h1 p hp) (h2 q hq)) m
theorem D_same_cost {α : Type} {c d : α → α → Nat} : ∀ (a b : List α), (∀ x ∈ a, ∀ y ∈ b, c x y = d x y) → D c a b = D d a b
  | [], b, _ => by rw [D_nil, D_nil]
  | x :: a, [], _ => by rw [D_nil', D_nil']
  | x :: a, y :: b, h => by
    rw [D_cons, D_cons, D_same_cost a b fun u hu v hv => h u (List.mem_cons_of_mem _ hu) v (List.mem_cons_of_mem _ hv),
      D_same_cost a (y :: b) fun u hu v hv => h u (List.mem_cons_of_mem _ hu) v hv, D_same_cost (x :: a) b fun u hu v hv => h u hu v (List.mem_cons_of_mem _ hv), h x List.mem_cons_self y List.mem_cons_self]
  termination_by a b => a.length + b.length
theorem cost_is {a b : List Str} (h1 : ∀ p ∈ a, fine p) (h2 : ∀ p ∈ b, fine p) : D priceU a b = D subC a b := D_same_cost a b fun x hx y hy => price_is (h1 x hx) (h2 y hy)

noncomputable def yyyy : Str := Str.ofString "yyyy"
noncomputable def zzzz : Str := Str.ofString "zzzz"
theorem yz_ne : yyyy ≠ zzzz := by decide +kernel
theorem yz_cost : subC yyyy zzzz = 2 := by decide +kernel
theorem lcp_ne {α : Type} [DecidableEq α] {x y : α} (h : x ≠ y) (a b : List α) : lcp (x :: a) (y :: b) = 0 := by simp [lcp, h]
theorem D_one_many : ∀ n, D subC [yyyy] (List.replicate (n + 1) zzzz) = 2 * (n + 1)
  | 0 => by
    show D subC [yyyy] [zzzz] = 2
    rw [D_cons, yz_cost, D_nil, D_nil, D_nil']
    rfl
  | n + 1 => by
    have ih := D_one_many n
    rw [List.replicate_succ, D_cons, yz_cost, ih, D_nil, D_nil]
    simp only [List.length_replicate, List.length_cons]
    exact (congrArg (min _) (Nat.min_eq_right (Nat.le_add_right (2 * (n + 1) + 2) 2))).trans (Nat.min_eq_left (Nat.le_refl _))
theorem strip_yz (n m : Nat) : strip (List.replicate (n + 1) yyyy) (List.replicate (m + 1) zzzz) = (List.replicate (n + 1) yyyy, List.replicate (m + 1) zzzz) := by
  have e1 : lcp (List.replicate (n + 1) yyyy) (List.replicate (m + 1) zzzz) = 0 := by
    rw [List.replicate_succ, List.replicate_succ]; exact lcp_ne yz_ne _ _
  unfold strip
  simp only [e1, List.drop_zero, List.reverse_replicate, Nat.sub_zero, List.take_length]
theorem levR_yz (n m : Nat) (b : Int) : levR (List.replicate (n + 1) yyyy) (List.replicate (m + 1) zzzz) b = lev9 subC (List.replicate (n + 1) yyyy) (List.replicate (m + 1) zzzz) b := by
  unfold levR
  rw [if_neg, strip_yz]
  intro e
  rw [List.replicate_succ, List.replicate_succ] at e
  exact yz_ne (List.cons.inj e).1
theorem lev_40 : levR (List.replicate 1 yyyy) (List.replicate 40 zzzz) 99 = 80 := by
  rw [levR_yz 0 39]
  have h := lev9_ok (A := List.replicate (0 + 1) yyyy) (B := List.replicate (39 + 1) zzzz) (m := 99) (by simp)
  have e : D subC (List.replicate (0 + 1) yyyy) (List.replicate (39 + 1) zzzz) = 80 := D_one_many 39
  rw [e] at h
  rcases h with h | ⟨h, _⟩
  · exact h
  · exact absurd h (by decide)
theorem lev_41 : levR (List.replicate 1 yyyy) (List.replicate 41 zzzz) 99 = 100 := by
  rw [levR_yz 0 40]
  unfold lev9
  rw [if_neg (by simp), if_pos (by simp)]
  rfl
theorem lev_14 : levR (List.replicate 41 yyyy) (List.replicate 1 zzzz) 99 = 100 := by
  rw [levR_yz 40 0]
  unfold lev9
  rw [if_neg (by simp), if_pos (by simp)]
  rfl
/-- with more than forty left over and something in the other, it is the bound and one -/
theorem levR_over {a b : List Str} (ha : ∀ p ∈ a, p ≠ yyyy) (hbz : ∀ p ∈ b, p ≠ zzzz) (hl : b.length ≤ 10) (ha5 : a.length ≤ 10) (m : Int) : levR (a ++ List.replicate 41 zzzz) (b ++ [yyyy]) m = m + 1 := by
  have hno : ∀ p ∈ a ++ List.replicate 41 zzzz, p ≠ yyyy := by
    intro p hp
    rcases List.mem_append.mp hp with h | h
    · exact ha p h
    · rw [List.eq_of_mem_replicate h]; exact Ne.symm yz_ne
  -- the common beginning ends ahead of the stranger
  have hlcp : ∀ (x y : List Str), (∀ p ∈ x, p ≠ yyyy) → lcp x (y ++ [yyyy]) ≤ y.length := by
    intro x
    induction x with
    | nil => intro y _; simp [lcp]
    | cons p x ih =>
      intro y hx
      cases y with
      | nil =>
        show lcp (p :: x) (yyyy :: []) ≤ 0
        rw [lcp_ne (hx p List.mem_cons_self)]
        exact Nat.le_refl 0
      | cons q y =>
        show lcp (p :: x) (q :: (y ++ [yyyy])) ≤ y.length + 1
        unfold lcp
        split
        · exact Nat.add_le_add_right (ih y fun r hr => hx r (List.mem_cons_of_mem _ hr)) 1
        · exact Nat.zero_le _
  have hlcp2 : ∀ (x y : List Str), (∀ p ∈ y, p ≠ zzzz) → lcp (x ++ List.replicate 41 zzzz) y ≤ x.length := by
    intro x
    induction x with
    | nil =>
      intro y hy
      cases y with
      | nil => simp [lcp]
      | cons q y =>
        show lcp (zzzz :: List.replicate 40 zzzz) (q :: y) ≤ 0
        rw [lcp_ne (Ne.symm (hy q List.mem_cons_self))]
        exact Nat.le_refl 0
    | cons p x ih =>
      intro y hy
      cases y with
      | nil => simp [lcp]
      | cons q y =>
        show lcp (p :: (x ++ List.replicate 41 zzzz)) (q :: y) ≤ x.length + 1
        unfold lcp
        split
        · exact Nat.add_le_add_right (ih y fun r hr => hy r (List.mem_cons_of_mem _ hr)) 1
        · exact Nat.zero_le _
  have h1 := hlcp _ b hno
  have h2 := hlcp2 a (b ++ [yyyy]) fun p hp => by
    rcases List.mem_append.mp hp with h | h
    · exact hbz p h
    · rw [List.mem_singleton.mp h]; exact yz_ne
  generalize hk : lcp (a ++ List.replicate 41 zzzz) (b ++ [yyyy]) = k at h1 h2
  have hb : (b ++ [yyyy]).drop k = b.drop k ++ [yyyy] := List.drop_append_of_le_length h1
  have hz : ∃ w, ((a ++ List.replicate 41 zzzz).drop k).reverse = zzzz :: w := by
    refine ⟨((a ++ List.replicate 40 zzzz).drop k).reverse, ?_⟩
    have : a ++ List.replicate 41 zzzz = (a ++ List.replicate 40 zzzz) ++ [zzzz] := by rw [List.append_assoc, ← List.replicate_succ']
    rw [this, List.drop_append_of_le_length (by simp; omega), List.reverse_append]
    rfl
  obtain ⟨w, hw⟩ := hz
  have hs : strip (a ++ List.replicate 41 zzzz) (b ++ [yyyy]) = ((a ++ List.replicate 41 zzzz).drop k, (b ++ [yyyy]).drop k) := by
    unfold strip
    have e : lcp ((a ++ List.replicate 41 zzzz).drop k).reverse ((b ++ [yyyy]).drop k).reverse = 0 := by
      rw [hw, hb, List.reverse_append]
      exact lcp_ne (Ne.symm yz_ne) _ _
    simp only [hk, e, Nat.sub_zero, List.take_length]
  unfold levR
  rw [if_neg, hs]
  · unfold lev9
    rw [if_neg, if_pos]
    · left
      simp only [List.length_drop, List.length_append, List.length_replicate]
      omega
    · simp only [hb, List.length_drop, List.length_append, List.length_replicate, List.length_cons, List.length_nil]
      omega
  · intro e
    have := hno yyyy (e ▸ List.mem_append_right _ List.mem_cons_self)
    exact this rfl
end Mine
namespace Mine

noncomputable def priceSpec : PSpec := fun ps K => as0 ps False fun p0 r0 => asS p0 fun a => as1 r0 fun p1 => asS p1 fun b => ((Txt.upper a).length ≤ sizeLine ∧ (Txt.upper b).length ≤ sizeLine) ∧ K (.int (priceU a b : Nat))
theorem price_ok {W : Wd} (h : Is W) : CallOK W 1 (Str.ofString "_law_price") priceSpec := by
  refine callOK (names := [Str.ofString "one", Str.ofString "two"]) (rec_mem h (i := 15) (x := Str.ofString "_law_price") (by rfl)) (by rfl) (by decide +kernel)
    (fun vs pm cd doc hl => ?_) (BW_ok (gok0 h 0) rfl 8 4 (mu := [])) fun ps K hs => ?_
  · obtain ⟨a, b, rfl⟩ := len2 hl
    rfl
  · rcases ps with _ | ⟨p0, r0⟩
    · exact False.elim hs
    obtain ⟨a, rfl, h1⟩ := asS.inv hs
    obtain ⟨p1, rfl, h2⟩ := as1.inv h1
    obtain ⟨b, rfl, ⟨h3, h4⟩, hk⟩ := asS.inv h2
    refine ⟨rfl, ?_⟩
    unfold priceU at hk
    conv => whnf
    refine Br.intro (fun e => ?_) (fun e => ?_)
    · rw [if_pos (beq_iff_eq.mp e)] at hk
      conv => whnf
      exact hk
    · rw [if_neg (beq_eq_false_iff_ne.mp e)] at hk
      conv => whnf
      refine Ob.intro h3 ?_
      conv => whnf
      refine Ob.intro h4 ?_
      conv => whnf
      refine Br.intro (fun e2 => ?_) (fun e2 => ?_)
      · rw [if_pos (beq_iff_eq.mp e2)] at hk
        conv => whnf
        exact hk
      · rw [if_neg (beq_eq_false_iff_ne.mp e2)] at hk
        conv => whnf
        exact hk

noncomputable def y4 : List Nat := [121, 121, 121, 121]
noncomputable def z4 : List Nat := [122, 122, 122, 122]
structure PieceOk (p : Str) : Prop where
  asc : asc p
  len : (cpl p).length ≤ 60
  noY : (cpl p).map lo1 ≠ y4
  noZ : (cpl p).map lo1 ≠ z4
noncomputable def menuL : List Str := ["&", "<", ">", "\"", "\r", "\n", "\t", "a", "A", "&lt;", "&LT;", "&amp;", "a&B", "A&b", "", "b<a"].map Str.ofString
noncomputable def goodL (l : List Nat) : Bool := l.all (fun c => decide (c < 128)) && Nat.ble l.length 10 && !(l.map lo1 == y4) && !(l.map lo1 == z4)
theorem good_ok {p : Str} (h : goodL (cpl p) = true) : PieceOk p := by
  unfold goodL at h
  simp only [Bool.and_eq_true, List.all_eq_true, decide_eq_true_eq, Bool.not_eq_true', beq_eq_false_iff_ne] at h
  exact ⟨h.1.1.1, by have := Nat.le_of_ble_eq_true h.1.1.2; omega, h.1.2, h.2⟩
theorem menu_good : ∀ a ∈ menuL, goodL (cpl a) = true := by decide +kernel
theorem menu_pairs : ∀ a ∈ menuL, ∀ b ∈ menuL, goodL (cpl a ++ cpl b) = true := by decide +kernel
theorem sign_good : ∀ c, c < 128 → goodL [c] = true := by decide +kernel
theorem menu_len : ∀ a ∈ menuL, a.length ≤ 5 := by decide +kernel
theorem menu_at {n : Int} : ∃ a, a ∈ menuL ∧ itemAt (menuL.map PV.str) (n.fmod 16) = some (.str a) := by
  have h0 : 0 ≤ n.fmod 16 := Int.fmod_nonneg_of_pos _ (by decide)
  have h1 : n.fmod 16 < 16 := Int.fmod_lt_of_pos _ (by decide)
  obtain ⟨k, hk⟩ : ∃ k : Nat, n.fmod 16 = (k : Int) := ⟨(n.fmod 16).toNat, by omega⟩
  have hkl : k < menuL.length := by show k < 16; omega
  exact ⟨menuL[k], List.getElem_mem hkl, by rw [hk]; exact at_map (List.getElem?_eq_getElem hkl)⟩
noncomputable def pieceSpec : PSpec := fun ps K => as1 ps fun p0 => asI p0 fun n => ∀ p, PieceOk p → K (.str p)
set_option maxHeartbeats 4000000 in
theorem piece_ok {W : Wd} (h : Is W) : CallOK W 1 (Str.ofString "_law_piece") pieceSpec := by
  refine callOK (names := [Str.ofString "number"]) (rec_mem h (i := 14) (x := Str.ofString "_law_piece") (by rfl)) (by rfl) (by decide +kernel)
    (fun vs pm cd doc hl => ?_) (BW_ok (gok0 h 0) rfl 10 5 (mu := [])) fun ps K hs => ?_
  · obtain ⟨a, rfl⟩ := len1 hl
    rfl
  · obtain ⟨p0, rfl, h1⟩ := as1.inv hs
    obtain ⟨n, rfl, hk⟩ := asI.inv h1
    refine ⟨rfl, ?_⟩
    have hsz := sizeLine_eq
    conv => whnf
    refine Ob.intro (by show 16 ≤ sizeLine; omega) ?_
    conv => whnf
    refine Ob.intro (by decide) ?_
    conv => whnf
    refine Br.intro (fun _ => ?_) (fun _ => ?_)
    · conv => whnf
      refine Ob.intro (by decide) ?_
      conv => whnf
      refine Ob.intro (by decide) ?_
      have g0 : 0 ≤ (n.fdiv 3).fmod 128 := Int.fmod_nonneg_of_pos _ (by decide)
      have g1 : (n.fdiv 3).fmod 128 < 128 := Int.fmod_lt_of_pos _ (by decide)
      conv => whnf
      refine Ob.intro ⟨g0, by omega⟩ ?_
      conv => whnf
      exact hk _ (good_ok (sign_good _ (by omega)))
    · conv => whnf
      refine Ob.intro (by decide) ?_
      conv => whnf
      refine Br.intro (fun _ => ?_) (fun _ => ?_)
      · conv => whnf
        refine Ob.intro (by decide) ?_
        conv => whnf
        refine Ob.intro (by decide) ?_
        conv => whnf
        obtain ⟨a, ha, hat⟩ := menu_at (n := n.fdiv 3)
        refine Ex.intro _ hat ?_
        conv => whnf
        exact hk a (good_ok (menu_good a ha))
      · conv => whnf
        refine Ob.intro (by decide) ?_
        conv => whnf
        refine Ob.intro (by decide) ?_
        conv => whnf
        obtain ⟨a, ha, hat⟩ := menu_at (n := n.fdiv 3)
        refine Ex.intro _ hat ?_
        conv => whnf
        refine Ob.intro (by decide) ?_
        conv => whnf
        refine Ob.intro (by decide) ?_
        conv => whnf
        obtain ⟨b, hb, hbt⟩ := menu_at (n := n.fdiv 48)
        refine Ex.intro _ hbt ?_
        have la := menu_len a ha
        have lb := menu_len b hb
        conv => whnf
        refine Ob.intro (by omega) ?_
        conv => whnf
        exact hk _ (good_ok (by rw [cpl_append]; exact menu_pairs a ha b hb))
end Mine
namespace Mine

noncomputable def prow (a b : List Str) (i n : Nat) : List PV := (List.range n).map fun j => PV.int (Pij priceU a b i j : Nat)
theorem prow_item {a b : List Str} {i n j : Nat} (h : j < n) : itemAt (prow a b i n) (j : Int) = some (.int (Pij priceU a b i j : Nat)) := item_nat (by
  unfold prow
  rw [List.getElem?_map, List.getElem?_range h]; rfl)
theorem prow_len (a b : List Str) (i n : Nat) : (prow a b i n).length = n := by simp [prow]
theorem prow_next (a b : List Str) (i n : Nat) : prow a b i (n + 1) = prow a b i n ++ [.int (Pij priceU a b i n : Nat)] := by
  unfold prow
  rw [List.range_succ, List.map_append]
  rfl
theorem min_cast3 (p s q r : Nat) : min ((p : Int) + (s : Nat)) (min ((q : Int) + 2) ((r : Int) + 2)) = ((min (p + s) (min (q + 2) (r + 2)) : Nat) : Int) := by
  exact (congrArg (min ((p : Int) + (s : Nat))) (min_nat (q + 2) (r + 2))).trans (min_nat (p + s) _)
noncomputable def k3 (a b : List Str) (row : List PV) (tl : Loc) : Loc := (Str.ofString "one", .val (tx a)) :: (Str.ofString "two", .val (tx b)) :: (Str.ofString "row", .val (.list row)) :: tl
noncomputable def k5 (a b : List Str) (row : List PV) (pc : Str) (nw : LV) (tl : Loc) : Loc := k3 a b row ((Str.ofString "piece", .val (.str pc)) :: (Str.ofString "new", nw) :: tl)
noncomputable def tlP (tl : Loc) : Prop := tl = [] ∨ ∃ pl, tl = [(Str.ofString "place", .val (.int pl))]
noncomputable def tlN (tl : Loc) : Prop := tl = [] ∨ ∃ pc nw r, tl = (Str.ofString "piece", .val (.str pc)) :: (Str.ofString "new", nw) :: r ∧ tlP r
theorem cutN {a b : List Str} {r0 row : List PV} {tl : Loc} (h : tlN tl) : keepN (k3 a b r0 []) (k3 a b row tl) = k3 a b row [] := by
  rcases h with rfl | ⟨_, _, _, rfl, rfl | ⟨_, rfl⟩⟩ <;> rfl
theorem cutP {a b : List Str} {r0 row : List PV} {p0 pc : Str} {n0 nw : LV} {tl : Loc} (h : tlP tl) : keepN (k5 a b r0 p0 n0 []) (k5 a b row pc nw tl) = k5 a b row pc nw [] := by
  rcases h with rfl | ⟨_, rfl⟩ <;> rfl
noncomputable def kI (a b : List Str) (i : Nat) (σ : Loc) : Prop := ∃ tl, tlN tl ∧ σ = k3 a b (prow a b i (b.length + 1)) tl
noncomputable def kJ (a b : List Str) (i : Nat) (pc : Str) (k : Nat) (σ : Loc) : Prop := ∃ tl, tlP tl ∧ σ = k5 a b (prow a b i (b.length + 1)) pc (.own (prow a b (i + 1) (k + 1))) tl
noncomputable def costSpec : PSpec := fun ps K => as0 ps False fun p0 r0 => asL p0 fun av => as1 r0 fun p1 => asL p1 fun bv => ∃ a b : List Str, (av = a.map PV.str ∧ bv = b.map PV.str ∧ a.length ≤ 1000 ∧ b.length ≤ 1000 ∧
  (∀ x ∈ a, (Txt.upper x).length ≤ sizeLine) ∧ ∀ x ∈ b, (Txt.upper x).length ≤ sizeLine) ∧ K (.int (D priceU a b : Nat))
noncomputable def G7 : GC := G0.with (Str.ofString "_law_price") priceSpec
theorem gok7 {W : Wd} (h : Is W) : GOk W 1 G7 := (gok0 h 1).with (price_ok h)

set_option maxHeartbeats 4000000 in
theorem cost_in (a b : List Str) (r0 : List PV) (n0 : LV) (hb : b.length ≤ 1000) (hua : ∀ x ∈ a, (Txt.upper x).length ≤ sizeLine) (hub : ∀ x ∈ b, (Txt.upper x).length ≤ sizeLine) (i : Nat) (pc : Str) (hpc : a[i]? = some pc)
    (j : Nat) (hjb : j < b.length) (σ : Loc) (hJ : kJ a b i pc j σ) (Y : FP → Loc → Prop) (hY : ∀ σ', kJ a b i pc (j + 1) σ' → Y .next σ') :
    targetW (drOf pr 16).scope.names (keepN (k5 a b r0 pc n0 []) σ) (fT (fB (drOf pr 16).body 1) 1) (.int j) fun σ' => BW G7 [Str.ofString "new"] 12 4 (drOf pr 16).scope.names (fB (fB (drOf pr 16).body 1) 1) σ' Y := by
  have hsz := sizeLine_eq
  obtain ⟨y, hy⟩ : ∃ y, b[j]? = some y := ⟨_, List.getElem?_eq_getElem hjb⟩
  have hval : min (((Pij priceU a b i j : Nat) : Int) + (priceU pc y : Nat)) (min (((Pij priceU a b i (j + 1) : Nat) : Int) + 2) (((Pij priceU a b (i + 1) j : Nat) : Int) + 2)) = ((Pij priceU a b (i + 1) (j + 1) : Nat) : Int) := by
    obtain ⟨h1, rfl⟩ := List.getElem?_eq_some_iff.mp hpc
    obtain ⟨h2, rfl⟩ := List.getElem?_eq_some_iff.mp hy
    rw [min_cast3, Pij_succ priceU a b h1 h2]
  have hj1 : ((j : Nat) : Int) + 1 = ((j + 1 : Nat) : Int) := rfl
  obtain ⟨tl, ht, rfl⟩ := hJ
  rw [cutP ht]
  conv => whnf
  refine Ex.intro _ (prow_item (Nat.lt_succ_of_lt hjb)) ?_
  conv => whnf
  refine Ex.intro _ (at_map hy) ?_
  conv => whnf
  refine ⟨⟨hua _ (List.mem_of_getElem? hpc), hub _ (List.mem_of_getElem? hy)⟩, ?_⟩
  conv => whnf
  rw [hj1]
  refine Ex.intro _ (prow_item (Nat.succ_lt_succ hjb)) ?_
  conv => whnf
  refine Ex.intro _ (prow_item (Nat.lt_succ_self j)) ?_
  conv => whnf
  refine Ob.intro (by rw [prow_len, hsz]; exact Nat.lt_of_le_of_lt (Nat.succ_le_of_lt (Nat.lt_of_lt_of_le hjb hb)) (by decide)) ?_
  rw [hval, ← prow_next]
  conv => whnf
  exact hY _ ⟨_, .inr ⟨_, rfl⟩, rfl⟩

set_option maxHeartbeats 4000000 in
theorem cost_turn (a b : List Str) (r0 : List PV) (hb : b.length ≤ 1000) (hua : ∀ x ∈ a, (Txt.upper x).length ≤ sizeLine) (hub : ∀ x ∈ b, (Txt.upper x).length ≤ sizeLine) (i : Nat) (pc : Str) (hpc : a[i]? = some pc)
    (σ : Loc) (hI : kI a b i σ) (Y : FP → Loc → Prop) (hY : ∀ σ', kI a b (i + 1) σ' → Y .next σ') :
    targetW (drOf pr 16).scope.names (keepN (k3 a b r0 []) σ) (fT (drOf pr 16).body 1) (.str pc) fun σ' => BW G7 [Str.ofString "new"] 12 5 (drOf pr 16).scope.names (fB (drOf pr 16).body 1) σ' Y := by
  have hia : i < a.length := (List.getElem?_eq_some_iff.mp hpc).1
  have hnew : [PV.int ((Pij priceU a b i 0 : Nat) + 2)] = prow a b (i + 1) 1 := by
    show _ = [PV.int (Pij priceU a b (i + 1) 0 : Nat)]
    rw [Pij_0' priceU a b (Nat.le_of_lt hia), Pij_0' priceU a b hia]
    rfl
  obtain ⟨tl, ht, rfl⟩ := hI
  rw [cutN ht]
  conv => whnf
  refine Ex.intro _ (prow_item (j := 0) (Nat.succ_pos _)) ?_
  conv => whnf
  refine Ob.intro (by show 1 ≤ sizeLine; rw [sizeLine_eq]; decide) ?_
  rw [hnew]
  conv => whnf
  rw [List.length_map]
  refine Ob.intro (count_ob (Nat.le_succ_of_le hb)) ?_
  rw [count_items]
  refine for_of (kJ a b i pc) ⟨[], .inl rfl, rfl⟩ (fun j pw σ hj hJ Z hZ => ?_) (fun σ hJ => ?_)
  · obtain ⟨hjb, rfl⟩ := turn_of hj
    exact cost_in a b _ _ hb hua hub i pc hpc j hjb σ hJ _ hZ
  · simp only [List.length_map, List.length_range] at hJ
    obtain ⟨tl1, ht1, rfl⟩ := hJ
    conv => whnf
    exact hY _ ⟨_, .inr ⟨pc, .val (.list (prow a b (i + 1) (b.length + 1))), tl1, rfl, ht1⟩, rfl⟩

set_option maxHeartbeats 4000000 in
theorem cost_body (a b : List Str) (K : PV → Prop) (ha : a.length ≤ 1000) (hb : b.length ≤ 1000) (hua : ∀ x ∈ a, (Txt.upper x).length ≤ sizeLine) (hub : ∀ x ∈ b, (Txt.upper x).length ≤ sizeLine) (hK : K (.int (D priceU a b : Nat))) :
    BW G7 [Str.ofString "new"] 12 6 (drOf pr 16).scope.names (drOf pr 16).body (startσ [Str.ofString "one", Str.ofString "two"] [tx a, tx b]) (retK K) := by
  conv => whnf
  rw [List.length_map, show ((b.length : Nat) : Int) + 1 = ((b.length + 1 : Nat) : Int) from rfl]
  refine Ob.intro (count_ob (Nat.succ_le_succ hb)) ?_
  rw [count_items]
  refine loop_map (fun p => match p with
    | .int j => .int (2 * j)
    | p => p) (fun p hp X hX => ?_) ?_
  · obtain ⟨j, hj, rfl⟩ := List.mem_map.mp hp
    conv => whnf
    refine Ob.intro (IntMulOk.of_left (by decide)) ?_
    conv => whnf
    exact hX
  have h0 : ([] : List PV) ++ List.map (fun p => match p with
    | .int j => PV.int (2 * j)
    | p => p) (List.map (fun i : Nat => PV.int i) (List.range (b.length + 1))) = prow a b 0 (b.length + 1) := by
    rw [List.nil_append, List.map_map]
    refine List.map_congr_left fun j hj => ?_
    have := List.mem_range.mp hj
    rw [Pij_0 priceU a b (Nat.le_of_lt_succ this)]
    rfl
  rw [h0]
  conv => whnf
  refine for_of (kI a b) ⟨[], .inl rfl, rfl⟩ (fun i pv σ hi hI X hX => ?_) (fun σ hI => ?_)
  · obtain ⟨pc, hpc, rfl⟩ : ∃ pc, a[i]? = some pc ∧ pv = .str pc := by
      rw [List.getElem?_map, Option.map_eq_some_iff] at hi
      obtain ⟨x, hx, rfl⟩ := hi
      exact ⟨x, hx, rfl⟩
    exact cost_turn a b _ hb hua hub i pc hpc σ hI _ hX
  · rw [List.length_map] at hI
    have hD : Pij priceU a b a.length b.length = D priceU a b := Pij_all priceU a b
    have hit := prow_item (a := a) (b := b) (i := a.length) (n := b.length + 1) (j := b.length) (Nat.lt_succ_self _)
    rw [hD] at hit
    obtain ⟨tl, _, rfl⟩ := hI
    conv => whnf
    rw [List.length_map]
    refine Ex.intro _ hit ?_
    conv => whnf
    exact hK
theorem cost_ok {W : Wd} (h : Is W) : CallOK W 2 (Str.ofString "_law_cost") costSpec := by
  refine callOK (names := [Str.ofString "one", Str.ofString "two"]) (rec_mem h (i := 16) (x := Str.ofString "_law_cost") (by rfl)) (by rfl) (by decide +kernel)
    (fun vs pm cd doc hl => ?_) (BW_ok (gok7 h) rfl 12 6 (mu := [Str.ofString "new"])) fun ps K hs => ?_
  · obtain ⟨a, b, rfl⟩ := len2 hl
    rfl
  · rcases ps with _ | ⟨p0, r0⟩
    · exact False.elim hs
    obtain ⟨av, rfl, h1⟩ := asL.inv hs
    obtain ⟨p1, rfl, h2⟩ := as1.inv h1
    obtain ⟨bv, rfl, a, b, ⟨rfl, rfl, h3, h4, h5, h6⟩, hk⟩ := asL.inv h2
    exact ⟨rfl, cost_body a b K h3 h4 h5 h6 hk⟩
end Mine
namespace Mine

noncomputable def entF (k : Nat) : PV → Str × PV
  | .str a => (a, .str (mk (escL k (cpl a))))
  | p => (⟨#[]⟩, p)
noncomputable def tableOf (k : Nat) : List (Str × PV) := (signsOf k).map fun c => entF k (.str ⟨#[c]⟩)
noncomputable def tableSpec : PSpec := fun ps K => as1 ps fun p0 => asI p0 fun k => (0 ≤ k ∧ k ≤ 4) ∧ K (.dict (tableOf k.toNat))
set_option maxHeartbeats 4000000 in
theorem table_ok {W : Wd} (h : Is W) : CallOK W 1 (Str.ofString "_law_table") tableSpec := by
  refine callOK (names := [Str.ofString "kind"]) (rec_mem h (i := 12) (x := Str.ofString "_law_table") (by rfl)) (by rfl) (by decide +kernel)
    (fun vs pm cd doc hl => ?_) (BW_ok (gok0 h 0) rfl 10 5 (mu := [Str.ofString "names"])) fun ps K hs => ?_
  · obtain ⟨a, rfl⟩ := len1 hl
    rfl
  · obtain ⟨p0, rfl, h1⟩ := as1.inv hs
    obtain ⟨k, rfl, ⟨h2, h3⟩, hk⟩ := asI.inv h1
    refine ⟨rfl, ?_⟩
    have hsz := sizeLine_eq
    rcases five h2 h3 with rfl | rfl | rfl | rfl | rfl
    · conv => whnf
      refine Br.ff ?_
      conv => whnf
      refine Ob.intro (by show 5 ≤ sizeLine; omega) ?_
      conv => whnf
      refine Ex.intro _ rfl ?_
      conv => whnf
      refine Br.tt ?_
      conv => whnf
      refine Ex.intro _ rfl ?_
      conv => whnf
      refine Br.tt ?_
      conv => whnf
      refine Ex.intro _ rfl ?_
      conv => whnf
      refine Br.tt ?_
      conv => whnf
      refine Ex.intro _ rfl ?_
      conv => whnf
      exact hk
    · conv => whnf
      refine Br.tt ?_
      conv => whnf
      refine Ob.intro (by decide) ?_
      conv => whnf
      refine Ob.intro (by show 5 ≤ sizeLine; omega) ?_
      conv => whnf
      refine Ex.intro _ rfl ?_
      conv => whnf
      refine Br.tt ?_
      conv => whnf
      refine Ex.intro _ rfl ?_
      conv => whnf
      refine Br.tt ?_
      conv => whnf
      refine Ex.intro _ rfl ?_
      conv => whnf
      refine Br.tt ?_
      conv => whnf
      refine Ex.intro _ rfl ?_
      conv => whnf
      refine Br.tt ?_
      conv => whnf
      refine Ex.intro _ rfl ?_
      conv => whnf
      refine Br.tt ?_
      conv => whnf
      refine Ex.intro _ rfl ?_
      conv => whnf
      refine Br.tt ?_
      conv => whnf
      refine Ex.intro _ rfl ?_
      conv => whnf
      refine Br.tt ?_
      conv => whnf
      refine Ex.intro _ rfl ?_
      conv => whnf
      exact hk
    · conv => whnf
      refine Br.ff ?_
      conv => whnf
      refine Ob.intro (by show 5 ≤ sizeLine; omega) ?_
      conv => whnf
      refine Ex.intro _ rfl ?_
      conv => whnf
      refine Br.tt ?_
      conv => whnf
      refine Ex.intro _ rfl ?_
      conv => whnf
      refine Br.tt ?_
      conv => whnf
      refine Ex.intro _ rfl ?_
      conv => whnf
      refine Br.tt ?_
      conv => whnf
      refine Ex.intro _ rfl ?_
      conv => whnf
      exact hk
    · conv => whnf
      refine Br.ff ?_
      conv => whnf
      refine Ob.intro (by show 5 ≤ sizeLine; omega) ?_
      conv => whnf
      refine Ex.intro _ rfl ?_
      conv => whnf
      refine Br.tt ?_
      conv => whnf
      refine Ex.intro _ rfl ?_
      conv => whnf
      refine Br.tt ?_
      conv => whnf
      refine Ex.intro _ rfl ?_
      conv => whnf
      refine Br.tt ?_
      conv => whnf
      refine Ex.intro _ rfl ?_
      conv => whnf
      refine Br.tt ?_
      conv => whnf
      refine Ex.intro _ rfl ?_
      conv => whnf
      exact hk
    · conv => whnf
      refine Br.ff ?_
      conv => whnf
      refine Ob.intro (by show 5 ≤ sizeLine; omega) ?_
      conv => whnf
      refine Ex.intro _ rfl ?_
      conv => whnf
      refine Br.tt ?_
      conv => whnf
      refine Ex.intro _ rfl ?_
      conv => whnf
      refine Br.tt ?_
      conv => whnf
      refine Ex.intro _ rfl ?_
      conv => whnf
      refine Br.tt ?_
      conv => whnf
      refine Ex.intro _ rfl ?_
      conv => whnf
      refine Br.tt ?_
      conv => whnf
      refine Ex.intro _ rfl ?_
      conv => whnf
      refine Br.tt ?_
      conv => whnf
      refine Ex.intro _ rfl ?_
      conv => whnf
      refine Br.tt ?_
      conv => whnf
      refine Ex.intro _ rfl ?_
      conv => whnf
      exact hk
end Mine
namespace Mine

noncomputable def charsOf (x : Str) : List PV := x.cps.toList.map fun c => PV.str ⟨#[c]⟩
noncomputable def each (f : Nat → List Nat) : PV → PV
  | .str s => .str (mk ((cpl s).flatMap f))
  | p => p
theorem each_chars (f : Nat → List Nat) (x : Str) : (charsOf x).map (each f) = (cpl x).map fun c => PV.str (mk (f c)) := by
  unfold charsOf
  rw [List.map_map]
  refine List.map_congr_left fun c _ => ?_
  simp [each, cpl]
theorem strs_each (g : Nat → Str) : ∀ l : List Nat, strs? (l.map fun c => PV.str (g c)) = some (l.map g)
  | [] => rfl
  | c :: l => by simp [strs?, strs_each g l]
theorem join_each (f : Nat → List Nat) (l : List Nat) : Txt.join (Str.ofString "") (l.map fun c => mk (f c)) = mk (l.flatMap f) := by
  refine cpl_inj ?_
  rw [show Str.ofString "" = ⟨#[]⟩ from rfl, join_cpl, cpl_mk, List.map_map]
  simp [List.flatMap_def, cpl_mk, Function.comp_def]
theorem joinOk_each {f : Nat → List Nat} (hf : ∀ d, (f d).length ≤ 6) {l : List Nat} (hl : l.length ≤ 100000) : JoinOk (Str.ofString "") (l.map fun c => mk (f c)) = true := by
  refine joinOk_of_weight ?_ (by decide +kernel)
  have : ∀ l : List Nat, ((l.map fun c => mk (f c)).map (·.length)).sum ≤ 6 * l.length := by
    intro l
    induction l with
    | nil => simp
    | cons d l ih =>
      have := hf d
      simp only [List.map_cons, List.sum_cons, List.length_cons, len_mk] at ih ⊢
      omega
  have := this l
  simp only [List.length_map]
  omega
theorem escT_len (k d : Nat) : (escT k d).length ≤ 6 := by
  unfold escT
  split
  · unfold nameOf
    simp only [List.length_append, List.length_cons, List.length_nil]
    repeat' split
    all_goals simp
  · simp

theorem lookS_table (k : Nat) : ∀ (l : List Nat) (c : Nat), lookS (l.map fun c => entF k (.str ⟨#[c]⟩)) ⟨#[c]⟩ = if c ∈ l then some (.str (mk (escL k [c]))) else none
  | [], c => by simp [lookS]
  | e :: l, c => by
    simp only [List.map_cons, entF, lookS]
    cases h : nmEq ⟨#[e]⟩ ⟨#[c]⟩ with
    | true =>
      have e1 := (nmEq_iff _ _).mp h
      have e2 : e = c := by simpa using e1
      subst e2
      simp [cpl]
    | false =>
      have hne : ¬ c = e := fun q => by subst q; rw [(nmEq_iff _ _).mpr rfl] at h; cases h
      have := lookS_table k l c
      simp only [entF] at this
      simp only [this, List.mem_cons, hne, false_or]
theorem getD_table (k c : Nat) : getD (tableOf k) ⟨#[c]⟩ (.str ⟨#[c]⟩) = .str (mk (escT k c)) := by
  unfold getD tableOf
  rw [lookS_table]
  by_cases h : c ∈ signsOf k
  · rw [if_pos h]; simp [escL]
  · rw [if_neg h]; simp [escT, h]; rfl
noncomputable def spellSpec : PSpec := fun ps K => as0 ps False fun p0 r0 => asS p0 fun x => as1 r0 fun p1 => asD p1 fun ds => ∃ k, ds = tableOf k ∧ (cpl x).length ≤ 1000 ∧ K (.str (mk (escL k (cpl x))))
set_option maxHeartbeats 4000000 in
theorem spell_ok {W : Wd} (h : Is W) : CallOK W 1 (Str.ofString "_law_spell") spellSpec := by
  refine callOK (names := [Str.ofString "piece", Str.ofString "table"]) (rec_mem h (i := 13) (x := Str.ofString "_law_spell") (by rfl)) (by rfl) (by decide +kernel)
    (fun vs pm cd doc hl => ?_) (BW_ok (gok0 h 0) rfl 10 5 (mu := [])) fun ps K hs => ?_
  · obtain ⟨a, b, rfl⟩ := len2 hl
    rfl
  · rcases ps with _ | ⟨p0, r0⟩
    · exact False.elim hs
    obtain ⟨x, rfl, h1⟩ := asS.inv hs
    obtain ⟨p1, rfl, h2⟩ := as1.inv h1
    obtain ⟨ds, rfl, h3⟩ := asD.inv h2
    obtain ⟨k, rfl, h4, hk⟩ := h3
    refine ⟨rfl, ?_⟩
    clear hs h1 h2
    generalize ht : tableOf k = tb
    conv => whnf
    refine loop_map (each (escT k)) (fun p hp X hX => ?_) ?_
    · obtain ⟨c, hc, rfl⟩ := List.mem_map.mp hp
      have e : each (escT k) (PV.str ⟨#[c]⟩) = .str (mk (escT k c)) := by simp [each, cpl]
      rw [e, ← getD_table, ht] at hX
      conv => whnf
      exact hX
    · rw [List.nil_append]
      rw [show List.map (fun c => PV.str ⟨#[c]⟩) x.cps.toList = charsOf x from rfl, each_chars]
      conv => whnf
      refine Ex.intro _ (strs_each _ _) ?_
      conv => whnf
      refine Ob.intro (joinOk_each (escT_len k) (by omega)) ?_
      conv => whnf
      rw [join_each]
      exact hk
end Mine
namespace Mine

noncomputable def sw1 (c : Nat) : Nat := if 65 ≤ c ∧ c ≤ 90 then c + 32 else if 97 ≤ c ∧ c ≤ 122 then c - 32 else c
theorem sw_up : ∀ c, c < 128 → Unicode.isUpper c = true → lo1 c = sw1 c := by decide +kernel
theorem sw_lo : ∀ c, c < 128 → Unicode.isUpper c = false → Unicode.isLower c = true → up1 c = sw1 c := by decide +kernel
theorem sw_no : ∀ c, c < 128 → Unicode.isUpper c = false → Unicode.isLower c = false → c = sw1 c := by decide +kernel
theorem sw_lt : ∀ c, c < 128 → sw1 c < 128 ∧ lo1 (sw1 c) = lo1 c := by decide +kernel
theorem swap_ascii {x : Str} (hA : ∀ c ∈ x.cps.toList, c < 128) : Txt.swapcase x = ⟨x.cps.map sw1⟩ := by
  unfold Txt.swapcase
  rw [placed_single x _ sw1 fun i c hc => by
    have hc' : x.cps[i]? = some c := by simpa using hc
    have hlt := hA c (List.mem_of_getElem? hc)
    cases hu : Unicode.isUpper c with
    | true =>
      simp only [if_true]
      unfold Unicode.lowerAt
      rw [hc']
      have hne : (c == 0x3A3) = false := by rw [beq_eq_false_iff_ne]; omega
      simp only [hne, Bool.false_and, Bool.false_eq_true, if_false]
      rw [lowerOf_ascii c hlt, sw_up c hlt hu]
    | false =>
      simp only [Bool.false_eq_true, if_false]
      cases hl : Unicode.isLower c with
      | true => simp only [if_true]; rw [upperOf_ascii c hlt, sw_lo c hlt hu hl]
      | false =>
        have := sw_no c hlt hu hl
        simp only [Bool.false_eq_true, if_false]
        rw [← this]]
theorem swap_cpl {x : Str} (h : asc x) : cpl (Txt.swapcase x) = (cpl x).map sw1 := by
  rw [swap_ascii h]
  simp [cpl]

/-- what is known of an entry of a row -/
structure RowP (p : Str) : Prop where
  asc : asc p
  len : (cpl p).length ≤ 400
  noY : p ≠ yyyy
  noZ : p ≠ zzzz
theorem y4_is : cpl yyyy = y4 := by decide +kernel
theorem z4_is : cpl zzzz = z4 := by decide +kernel
theorem low_y : y4.map lo1 = y4 ∧ z4.map lo1 = z4 := by decide +kernel
theorem escL_le (k : Nat) : ∀ l : List Nat, (escL k l).length ≤ 6 * l.length
  | [] => Nat.le_refl _
  | c :: l => by
    have := escL_le k l
    have h := escT_len k c
    unfold escL at this ⊢
    rw [List.flatMap_cons, List.length_append, List.length_cons]
    omega
theorem wr_plain {k : Nat} {p z : Str} (hz : 38 ∉ cpl z) (h : wr k p = z) : p = z := by
  have e := congrArg cpl h
  rw [wr, cpl_mk] at e
  have key : ∀ l : List Nat, 38 ∉ escL k l → escL k l = l := by
    intro l
    induction l with
    | nil => intro _; rfl
    | cons c l ih =>
      intro hn
      unfold escL at hn ih ⊢
      rw [List.flatMap_cons] at hn ⊢
      rw [List.mem_append, not_or] at hn
      rw [ih hn.2]
      by_cases hc : c ∈ signsOf k
      · rw [esc_in hc] at hn; exact absurd List.mem_cons_self hn.1
      · rw [esc_out hc]; rfl
  rw [key _ (e ▸ hz)] at e
  exact cpl_inj e
theorem RowP.of_piece {p : Str} (h : PieceOk p) : RowP p := by
  refine ⟨h.asc, Nat.le_trans h.len (by decide), ?_, ?_⟩
  · rintro rfl
    exact h.noY (by rw [y4_is]; exact low_y.1)
  · rintro rfl
    exact h.noZ (by rw [z4_is]; exact low_y.2)
theorem RowP.of_swap {p : Str} (h : PieceOk p) : RowP (Txt.swapcase p) := by
  have e := swap_cpl h.asc
  have hl : ((cpl p).map sw1).map lo1 = (cpl p).map lo1 := by
    rw [List.map_map]
    exact List.map_congr_left fun c hc => (sw_lt c (h.asc c hc)).2
  refine ⟨fun c hc => ?_, by rw [e, List.length_map]; exact Nat.le_trans h.len (by decide), ?_, ?_⟩
  · rw [e] at hc
    obtain ⟨d, hd, rfl⟩ := List.mem_map.mp hc
    exact (sw_lt d (h.asc d hd)).1
  · intro q
    rw [q, y4_is] at e
    exact h.noY (by rw [← hl, ← e]; exact low_y.1)
  · intro q
    rw [q, z4_is] at e
    exact h.noZ (by rw [← hl, ← e]; exact low_y.2)
theorem RowP.of_wr {p : Str} {k : Nat} (hk : k ∈ kinds5) (h : PieceOk p) : RowP (wr k p) := by
  have r := RowP.of_piece h
  refine ⟨wr_asc hk h.asc, ?_, fun q => r.noY (wr_plain (by rw [y4_is]; decide) q), fun q => r.noZ (wr_plain (by rw [z4_is]; decide) q)⟩
  have := escL_le k (cpl p)
  have := h.len
  rw [wr, cpl_mk]
  omega
theorem kd5 {k : Nat} (h : k < 5) : k ∈ kinds5 := by
  match k, h with
  | 0, _ | 1, _ | 2, _ | 3, _ | 4, _ => decide
theorem strOk_fine {x : Str} (h : fine x) : PyData.strOk x = true := by
  unfold PyData.strOk
  rcases h with h | rfl | rfl
  · rw [← Array.all_toList, List.all_eq_true]
    exact fun c hc => decide_eq_true (Nat.lt_trans (h c hc) (by decide))
  · decide +kernel
  · decide +kernel
theorem row_ok {a : List Str} (ha : a.length ≤ 1000) (h : ∀ p ∈ a, fine p ∧ (cpl p).length ≤ 3000) : RowOk a := by
  refine ⟨ha, fun x hx => strOk_fine (h x hx).1, fun x hx => ?_⟩
  have h1 := (h x hx).2
  have h2 := len_lower x
  have hsz := sizeLine_eq
  have h3 := len_cpl x
  omega
end Mine
namespace Mine

/-- an exception has just been made -/
structure MadeX (cls : String) (h h' : Heap) (e : Addr) : Prop where
  keeps : ∀ b o, h.get? b = some o → h'.get? b = some o
  new : h.get? e = none
  there : ∃ ob vs a0, h'.get? e = some ob ∧ ob.cls = .type cls ∧ ob.data = .fields vs ∧ vs[0]? = some a0 ∧ vs[1]? = some .none ∧ vs[2]? = some .none
theorem MadeX.of {cls : String} {h h' : Heap} {e : Addr} (x : Heap.NewExc h h' e cls) : MadeX cls h h' e :=
  ⟨x.keeps, x.new, let ⟨ob, t, h1, h2, h3⟩ := x.there; ⟨ob, _, t, h1, h2, h3, rfl, rfl, rfl⟩⟩
theorem MadeX.after {cls : String} {h₀ h h' : Heap} {e : Addr} (x : MadeX cls h h' e) (k : ∀ b o, h₀.get? b = some o → h.get? b = some o) : MadeX cls h₀ h' e := by
  refine ⟨fun b o q => x.keeps b o (k b o q), ?_, x.there⟩
  cases q : h₀.get? e with
  | none => rfl
  | some o => have := k e o q; rw [x.new] at this; cases this

noncomputable def RaisesX (cls : String) (E : Value → Shared → Prop) (s : Shared) : Prop := ∀ h' tk e, MadeX cls s.heap h' e → E (.ref e) { s with heap := h', toks := tk }

section
variable {prog : Program} {w : World} {A : Around} {E : Value → Shared → Prop} {s : Shared} {X : Excl} {Q : Value → Shared → Prop}

theorem none_contains : typeLookup (.type "NoneType") "__contains__" = pure none := by rw [typeLookup_type, builtinLookup_eq_fast]; kernel_rfl
theorem none_iter : typeLookup (.type "NoneType") "__iter__" = pure none := by rw [typeLookup_type, builtinLookup_eq_fast]; kernel_rfl
theorem none_getitem : typeLookup (.type "NoneType") "__getitem__" = pure none := by rw [typeLookup_type, builtinLookup_eq_fast]; kernel_rfl
theorem int_contains : typeLookup (.type "int") "__contains__" = pure none := by rw [typeLookup_type, builtinLookup_eq_fast]; kernel_rfl
theorem int_iter : typeLookup (.type "int") "__iter__" = pure none := by rw [typeLookup_type, builtinLookup_eq_fast]; kernel_rfl
theorem int_getitem : typeLookup (.type "int") "__getitem__" = pure none := by rw [typeLookup_type, builtinLookup_eq_fast]; kernel_rfl
theorem te_sub : isSubtype (.type "TypeError") (.type "TypeError") = pure true := by rw [isSubtype_type]; kernel_rfl

theorem in_raises {v a : Value} {T : String} (hv : ∀ s' : Shared, s'.TypeIs v T) (hns : stdlibNamesSay? v a = none) (h1 : typeLookup (.type T) "__contains__" = pure none) (h2 : typeLookup (.type T) "__iter__" = pure none) (h3 : typeLookup (.type T) "__getitem__" = pure none)
    (hb : (Value.type T == Value.type "builtin_function_or_method") = false) (hl : (shownName T).length ≤ 1000) (hh : A.handled = none)
    (h : RaisesX "TypeError" E s) : wpAny (model prog w) A (compareOp .In a v) Q E s := by
  unfold compareOp contains
  refine wpAny_bind (wpAny_holding ?_)
  rw [hns]
  refine wpAny_bind (wpAny_specialOf (hv s) h1 ?_)
  rw [if_neg (by decide)]
  refine wpAny_bind (wpAny_callSpecialUnlessNone?_none (hv s) h1 ?_)
  refine wpAny_bind (wpAny_rule ?_)
  refine wpAny_bind (wpAny_tryCatch ?_)
  unfold pyIter
  refine wpAny_bind (wpAny_specialOf (hv s) h2 ?_)
  refine wpAny_bind (wpAny_specialOf (hv s) h3 ?_)
  refine wpAny_bind (wpAny_rule ?_)
  refine wpAny_bind (wpAny_typeNameOf' (hv s) hb ?_)
  refine wpAny_raiseTypeError hh (fun h₁ tk₁ e₁ x₁ => ?_) ?_
  · obtain ⟨ob, t, g1, g2, g3⟩ := x₁.there
    refine wpAny_bind (wpAny_isInstance (T := "TypeError") (b := true) ⟨ob, g1, g2⟩ te_sub ?_)
    rw [if_pos rfl]
    refine wpAny_bind (wpAny_typeNameOf' (hv _) hb ?_)
    refine wpAny_raiseTypeError hh (fun h₂ tk₂ e₂ x₂ => ?_) ?_
    · exact h h₂ tk₂ e₂ ((MadeX.of x₂).after x₁.keeps)
    · show (Str.ofString _).length ≤ sizeLine
      rw [PySem.ofString_length, sizeLine_eq]
      simp only [String.length_append, toString]
      have e1 : "argument of type '".length ≤ 100 := by decide
      have e2 : "' is not iterable".length ≤ 100 := by decide
      omega
  · show (Str.ofString _).length ≤ sizeLine
    rw [PySem.ofString_length, sizeLine_eq]
    simp only [String.length_append, toString]
    have e1 : "'".length ≤ 100 := by decide
    have e2 : "' object is not iterable".length ≤ 100 := by decide
    omega

theorem in_none {a : Value} (hh : A.handled = none) (h : RaisesX "TypeError" E s) : wpAny (model prog w) A (compareOp .In a .none) Q E s :=
  in_raises (T := "NoneType") (fun _ => rfl) (by cases a <;> rfl) none_contains none_iter none_getitem (by decide) (by decide +kernel) hh h
theorem in_int {a : Value} {i : Int} {t : Tok} (hh : A.handled = none) (h : RaisesX "TypeError" E s) : wpAny (model prog w) A (compareOp .In a (.int i t)) Q E s :=
  in_raises (T := "int") (fun s' => typeIs_int s' _ _) (by cases a <;> rfl) int_contains int_iter int_getitem (by decide) (by decide +kernel) hh h

theorem look_buffer_bytes : typeLookup (.type "bytes") "__buffer__" = pure (some (.builtin "bytes.__buffer__")) := by rw [typeLookup_type, builtinLookup_eq_fast]; kernel_rfl
theorem look_release_bytes : typeLookup (.type "bytes") "__release_buffer__" = pure none := by rw [typeLookup_type, builtinLookup_eq_fast]; kernel_rfl
theorem look_buffer_str : typeLookup (.type "str") "__buffer__" = pure none := by rw [typeLookup_type, builtinLookup_eq_fast]; kernel_rfl
theorem look_index_str : typeLookup (.type "str") "__index__" = pure none := by rw [typeLookup_type, builtinLookup_eq_fast]; kernel_rfl
theorem bytes_special {b : Array UInt8} {t : Tok} {name : PySem.Str} {r : Option Value} (h : typeLookup (.type "bytes") name = pure r) : specialOf (.bytes b t) name = pure r := h
theorem bytes_own {b : Array UInt8} {t : Tok} : Builtin.Bytes.slotIsOwn (.bytes b t) "__buffer__" = pure true := by
  have key : ∀ x : String, x = "bytes" → isInstance (.bytes b t) (.type x) = pure true := fun x hx => by
    rw [hx]
    show isSubtype (.type "bytes") (.type "bytes") = _
    rw [isSubtype_type]; kernel_rfl
  unfold Builtin.Bytes.slotIsOwn
  rw [bytes_special look_buffer_bytes]
  simp only [pure_bind]
  split
  · rename_i hx
    exact absurd hx (by decide +kernel)
  · exact key _ (by decide +kernel)
theorem bytes_buffer {b : Array UInt8} {t : Tok} {id : String} : Builtin.Bytes.buffer? id (.bytes b t) = pure (some b) := by
  have e : Builtin.Bytes.ownRelease (.bytes b t) = pure false := by
    unfold Builtin.Bytes.ownRelease Builtin.Bytes.slotIsOwn
    rw [bytes_special look_release_bytes]
    rfl
  unfold Builtin.Bytes.buffer?
  rw [bytes_special look_buffer_bytes, bytes_own, e]
  kernel_rfl
theorem str_buffer {x : Str} {t : Tok} {id : String} : Builtin.Bytes.buffer? id (.str x t) = pure none := by
  have e : specialOf (.str x t) "__buffer__" = pure none := look_buffer_str
  unfold Builtin.Bytes.buffer?
  rw [e]
  rfl

theorem in_bytes {x : Str} {t u : Tok} {b : Array UInt8} (hh : A.handled = none) (h : RaisesX "TypeError" E s) : wpAny (model prog w) A (compareOp .In (.str x t) (.bytes b u)) Q E s := by
  show wpAny _ _ (do return .bool (← contains (.bytes b u) (.str x t))) Q E s
  refine wpAny_bind (wpAny_contains_slot (T := "bytes") rfl FB.slot_bytes_contains ?_)
  refine wpAny_call_entry FB.slot_bytes_contains rfl FB.entry_bytes_contains ?_ (FB.args_bytes_contains_2 _ _)
  unfold Builtin.«bytes.__contains__»
  refine wpAny_bind (m := slotArgs _ _ _) (wpAny_pure ?_)
  show wpAny _ _ (Builtin.Bytes.containsIn _ _ _ >>= _) _ _ _
  refine wpAny_bind ?_
  unfold Builtin.Bytes.containsIn
  refine wpAny_bind (wpAny_attempt ?_)
  unfold asIndex
  refine wpAny_bind (m := asInt? (.str x t)) (wpAny_pure ?_)
  refine wpAny_bind (wpAny_callSpecial?_none (typeIs_str _ _ _) look_index_str ?_)
  have hcut : ∀ {α : Type} {k : String → Sem α} {Qk : α → Shared → Prop} {Ek : Value → Shared → Prop} {A' : Around} {s' : Shared}, wpAny (model prog w) A' (k "str") Qk Ek s' → wpAny (model prog w) A' (typeNameOfCut 200 (.str x t) >>= k) Qk Ek s' := by
    intro α k Qk Ek A' s' hk
    unfold typeNameOfCut shownTypeOf
    refine wpAny_bind (wpAny_bind (wpAny_bind (wpAny_typeOf (T := "str") rfl ?_)))
    rw [if_neg (by decide)]
    refine wpAny_pure ?_
    have e : typeNameCut 200 (.type "str") = pure "str" := by kernel_rfl
    exact wpAny_of_eq e hk
  refine hcut (wpAny_raiseTypeError hh (fun h₁ tk₁ e₁ x₁ => ?_) ?_)
  · rw [bytes_buffer]
    refine wpAny_bind (wpAny_pure ?_)
    dsimp only
    rw [str_buffer]
    refine wpAny_bind (wpAny_pure ?_)
    refine wpAny_bind (wpAny_rule ?_)
    refine wpAny_bind (wpAny_typeNameOf' (T := "str") rfl (by decide) ?_)
    refine wpAny_raiseTypeError hh (fun h₂ tk₂ e₂ x₂ => ?_) ?_
    · exact h h₂ tk₂ e₂ ((MadeX.of x₂).after x₁.keeps)
    · show (Str.ofString _).length ≤ sizeLine
      rw [PySem.ofString_length, sizeLine_eq]
      decide +kernel
  · show (Str.ofString _).length ≤ sizeLine
    rw [PySem.ofString_length, sizeLine_eq]
    decide +kernel
theorem miss_replace : typeLookup (.type "list") (Str.ofString "replace") = pure none := am_miss_of_fast (by kernel_rfl)
set_option maxHeartbeats 4000000 in
theorem list_replace {a : Addr} {us : List Value} {n : Nat} {pl : Sem Bool} {Qm : Value × List Value → Shared → Prop} (hg : s.heap.get? a = some (lstObj us n)) (hh : A.handled = none) (h : RaisesX "AttributeError" E s) :
    wpAny (model prog w) A (getMethod (.ref a) (Str.ofString "replace") pl) Qm E s := by
  obtain ⟨hp, g, d, tk, os⟩ := s
  change hp.get? a = some { cls := .type "list", data := .seq us.toArray n } at hg
  have hT : ∀ tk', (⟨hp, g, d, tk', os⟩ : Shared).TypeIs (.ref a) "list" := fun _ => ⟨_, hg, rfl⟩
  obtain ⟨ga, hga, hcan⟩ := PySem.F.plainAttrs_list.ga
  unfold getMethod
  refine wpAny_bind (wpAny_specialOf (hT _) hga ?_)
  show wpAny _ A (if (Manifest.canonical ga != "object.__getattribute__") = true then _ else _) Qm E _
  rw [hcan, if_neg Bool.false_ne_true]
  refine wpAny_bind (wpAny_specialOf (hT _) PySem.F.plainAttrs_list.noGetattr ?_)
  refine wpAny_bind (wpAny_specialOf (hT _) miss_replace ?_)
  refine wpAny_bind ?_
  have f1 := sub_AttributeError
  have f3 := PySem.F.slot_list_getattribute.lookup
  have f4 := PySem.F.slot_list_getattribute.bind (.ref a)
  have f5 := am_list_getattr_none
  unfold getAttr getAttrBy
  repeat (any_goals (first | assumption | exact hT _ | ((with_reducible show wpAny _ _ (call (Value.builtin "list.__getattribute__") _ _) _ _ _); refine call_meets PySem.F.slot_list_getattribute (hT _) am_entry_list_getattribute (PySem.F.args_list_getattribute_2 _ _) (meets_getattribute_miss_list a _ _ _ (Str.ofString "replace") _ miss_replace (by decide +kernel) (by decide +kernel)) ⟨hg, hh, fun h' tk' e hx' => ?_⟩) | wp_step))
  obtain ⟨t', u', he⟩ := hx'.there
  show wpAny _ _ (getattributeRaised _ _ _ _ _ _ _) _ _ _
  unfold getattributeRaised
  repeat (any_goals (first | assumption | wp_step))
  exact h h' tk' e ⟨hx'.keeps, hx'.new, _, _, t', he, rfl, rfl, rfl, rfl, rfl⟩
end
end Mine
namespace Mine
/-- what the refusal says -/
noncomputable def msgOf (r T : Str) : Str := Str.ofString "cannot serialize " ++ r ++ Str.ofString " (type " ++ T ++ Str.ofString ")"
theorem msg_len (r T : Str) : (msgOf r T).length = r.length + T.length + 25 := by
  have e1 : (Str.ofString "cannot serialize ").length = 17 := by decide +kernel
  have e2 : (Str.ofString " (type ").length = 7 := by decide +kernel
  have e3 : (Str.ofString ")").length = 1 := by decide +kernel
  unfold msgOf
  rw [Str.length_append, Str.length_append, Str.length_append, Str.length_append, e1, e2, e3]
  omega
end Mine
namespace Mine

theorem repr34 : ∀ c, c < 128 → ∀ d ∈ Builtin.Str.reprChar 34 c, d < 128 := by decide +kernel
theorem repr39 : ∀ c, c < 128 → ∀ d ∈ Builtin.Str.reprChar 39 c, d < 128 := by decide +kernel
theorem fold_asc {q : Nat} (hq : ∀ c, c < 128 → ∀ d ∈ Builtin.Str.reprChar q c, d < 128) : ∀ (l : List Nat) (acc : Array Nat), (∀ c ∈ l, c < 128) → (∀ d ∈ acc.toList, d < 128) → ∀ d ∈ (l.foldl (fun out c => out ++ (Builtin.Str.reprChar q c).toArray) acc).toList, d < 128
  | [], acc, _, ha => ha
  | c :: l, acc, h, ha => by
    refine fold_asc hq l _ (fun d hd => h d (List.mem_cons_of_mem _ hd)) fun d hd => ?_
    rw [Array.toList_append, List.toList_toArray, List.mem_append] at hd
    exact hd.elim (ha d) (hq c (h c List.mem_cons_self) d)
theorem asc_append {x y : Str} (hx : asc x) (hy : asc y) : asc (x ++ y) := by
  intro c hc
  rw [cpl_append, List.mem_append] at hc
  exact hc.elim (hx c) (hy c)
theorem reprText_asc {x : Str} (h : asc x) : asc (reprText x) := by
  have key : ∀ q, q < 128 → (∀ c, c < 128 → ∀ d ∈ Builtin.Str.reprChar q c, d < 128) → ∀ c ∈ ((x.cps.foldl (fun out c => out ++ (Builtin.Str.reprChar q c).toArray) #[q]).push q).toList, c < 128 := by
    intro q hq hr c hc
    rw [Array.toList_push, List.mem_append, ← Array.foldl_toList] at hc
    rcases hc with hc | hc
    · exact fold_asc hr x.cps.toList #[q] h (fun d hd => by rw [List.mem_singleton.mp hd]; exact hq) c hc
    · rw [List.mem_singleton.mp hc]; exact hq
  intro c hc
  unfold cpl reprText reprQuote at hc
  split at hc
  · exact key 34 (by decide) repr34 c hc
  · exact key 39 (by decide) repr39 c hc
theorem textFrom_asc : ∀ (ts : List Str) (k : Nat) (acc : Str), asc acc → (∀ t ∈ ts, asc t) → asc (textFrom k acc ts)
  | [], _, acc, ha, _ => ha
  | t :: ts, k, acc, ha, h => by
    refine textFrom_asc ts (k + 1) _ (asc_append (asc_append ha ?_) (h t List.mem_cons_self)) fun u hu => h u (List.mem_cons_of_mem _ hu)
    split
    · unfold asc; decide
    · unfold asc; decide
theorem shownAll_asc : ∀ {a : List Str}, (∀ p ∈ a, asc p) → ∀ t ∈ PyData.shownAll (a.map PyData.str), asc t
  | [], _, t, ht => by simp [PyData.shownAll] at ht
  | x :: a, h, t, ht => by
    simp only [List.map_cons, PyData.shownAll, PyData.shown, List.mem_cons] at ht
    rcases ht with rfl | ht
    · exact reprText_asc (h x List.mem_cons_self)
    · exact shownAll_asc (fun p hp => h p (List.mem_cons_of_mem _ hp)) t ht
theorem shown_asc {a : List Str} (h : ∀ p ∈ a, asc p) : asc (PyData.list (a.map PyData.str)).shown := by
  simp only [PyData.shown]
  unfold listText
  exact asc_append (textFrom_asc _ _ _ (by unfold asc; decide) (shownAll_asc h)) (by unfold asc; decide)
theorem msg_eq (r : Str) : msgOf r (Str.ofString "list") = Str.ofString "cannot serialize " ++ r ++ Str.ofString " (type list)" := by
  refine cpl_inj ?_
  unfold msgOf
  simp only [cpl_append, List.append_assoc]
  congr 2
theorem msg_asc {r : Str} (h : asc r) : asc (Str.ofString "cannot serialize " ++ r ++ Str.ofString " (type list)") :=
  asc_append (asc_append (by unfold asc; decide +kernel) h) (by unfold asc; decide +kernel)

theorem short_rows : ∀ {a : List Str}, (∀ p ∈ a, RowP p) → PyData.leavesShortAll 8 (a.map PyData.str) = true
  | [], _ => by simp [PyData.leavesShortAll]
  | x :: a, h => by
    simp only [List.map_cons, PyData.leavesShortAll, short_rows fun p hp => h p (List.mem_cons_of_mem _ hp), Bool.and_true, PyData.leavesShort, List.all_eq_true, decide_eq_true_eq]
    exact fun c hc => Nat.lt_trans ((h x List.mem_cons_self).asc c hc) (by decide)
theorem weight_rows : ∀ {a : List Str}, (∀ p ∈ a, RowP p) → PyData.weightAll (a.map PyData.str) ≤ 401 * a.length
  | [], _ => by simp [PyData.weightAll]
  | x :: a, h => by
    have ih := weight_rows fun p hp => h p (List.mem_cons_of_mem _ hp)
    have hx := (h x List.mem_cons_self).len
    have e : x.cps.size = (cpl x).length := by simp [cpl]
    simp only [List.map_cons, PyData.weightAll, PyData.weight, List.length_cons]
    omega
theorem rows_shown {a : List Str} (hl : a.length ≤ 5) (h : ∀ p ∈ a, RowP p) : (PyData.list (a.map PyData.str)).shown.length ≤ 100000 := by
  have h1 := PyData.shown_le 8 (by decide) (.list (a.map PyData.str)) (by simp only [PyData.leavesShort]; exact short_rows h)
  have h2 := weight_rows h
  simp only [PyData.weight] at h1
  omega
theorem showable_strs : ∀ (a : List Str), PyData.showableAll (a.map PyData.str) = true ∧ PyData.hasDictAll (a.map PyData.str) = false
  | [] => by simp [PyData.showableAll, PyData.hasDictAll]
  | x :: a => by simp [PyData.showableAll, PyData.hasDictAll, PyData.showable, PyData.hasDict, showable_strs a]
end Mine
namespace Mine

noncomputable def six6 : List Nat := [60, 62, 34, 13, 10, 9]
noncomputable def unL (f g : Nat) : List Nat := six6.filter fun c => !(escT f c == escT g c)
theorem signs_in6 : ∀ k ∈ kinds5, ∀ c ∈ signsOf k, c = 38 ∨ c ∈ six6 := by decide
theorem amp_same : ∀ f ∈ kinds5, ∀ g ∈ kinds5, escT f 38 = escT g 38 := by decide
theorem esc_out6 {f g c : Nat} (hf : f ∈ kinds5) (hg : g ∈ kinds5) (h : c ∉ six6) : escT f c = escT g c := by
  by_cases hc : c = 38
  · rw [hc]; exact amp_same f hf g hg
  · rw [esc_out fun q => (signs_in6 f hf c q).elim hc h, esc_out fun q => (signs_in6 g hg c q).elim hc h]
theorem un_iff {f g c : Nat} (hf : f ∈ kinds5) (hg : g ∈ kinds5) : c ∈ unL f g ↔ escT f c ≠ escT g c := by
  unfold unL
  rw [List.mem_filter]
  simp only [Bool.not_eq_true', beq_eq_false_iff_ne]
  exact ⟨fun h => h.2, fun h => ⟨Classical.byContradiction fun q => h (esc_out6 hf hg q), h⟩⟩
theorem same_iff {f g : Nat} (hf : f ∈ kinds5) (hg : g ∈ kinds5) (p : Str) : ((cpl p).filter fun c => decide (c ∈ unL f g)) = [] ↔ sameBy f g p := by
  rw [List.filter_eq_nil_iff]
  unfold sameBy
  constructor
  · intro h c hc
    exact Classical.byContradiction fun q => h c hc (decide_eq_true ((un_iff hf hg).mpr q))
  · intro h c hc e
    exact (un_iff hf hg).mp (of_decide_eq_true e) (h c hc)
noncomputable def chP (c : Nat) : PV := .str ⟨#[c]⟩
noncomputable def inF (u : List Nat) : PV → Option PV
  | .str x => if (cpl x).all (fun c => decide (c ∈ u)) = true then some (.str x) else none
  | _ => none
theorem inF_one (u : List Nat) (c : Nat) : inF u (chP c) = if c ∈ u then some (chP c) else none := by
  have e : cpl ⟨#[c]⟩ = [c] := by simp [cpl]
  simp only [inF, chP, e, List.all_cons, List.all_nil, Bool.and_true, decide_eq_true_eq]
theorem inF_map (u : List Nat) : ∀ l : List Nat, (l.map chP).filterMap (inF u) = (l.filter fun c => decide (c ∈ u)).map chP
  | [] => rfl
  | c :: l => by
    rw [List.map_cons, List.filterMap_cons, inF_one, List.filter_cons, inF_map u l]
    by_cases h : c ∈ u <;> simp [h]
noncomputable def unF (f g : Nat) : PV → Option PV
  | .str x => if mk ((cpl x).flatMap (escT f)) = mk ((cpl x).flatMap (escT g)) then none else some (.str x)
  | _ => none
theorem unF_one (f g c : Nat) : unF f g (chP c) = if mk (escT f c) = mk (escT g c) then none else some (chP c) := by
  have e : cpl ⟨#[c]⟩ = [c] := by simp [cpl]
  simp only [unF, chP, e, List.flatMap_cons, List.flatMap_nil, List.append_nil]
theorem mk_inj {a b : List Nat} : mk a = mk b ↔ a = b := ⟨fun h => by have := congrArg cpl h; rwa [cpl_mk, cpl_mk] at this, fun h => by rw [h]⟩
theorem unF_map (f g : Nat) : ∀ l : List Nat, (l.map chP).filterMap (unF f g) = (l.filter fun c => !(escT f c == escT g c)).map chP
  | [] => rfl
  | c :: l => by
    rw [List.map_cons, List.filterMap_cons, unF_one, List.filter_cons, unF_map f g l]
    by_cases h : escT f c = escT g c <;> simp [h, mk_inj]
noncomputable def markF (f g : Nat) (z : Str) : PV → PV
  | .str p => .str (mark f g z p)
  | p => p
theorem markF_map (f g : Nat) (z : Str) (l : List Str) : (l.map PV.str).map (markF f g z) = (l.map (mark f g z)).map PV.str := by
  rw [List.map_map, List.map_map]; rfl
theorem mark_len {f g : Nat} {z p : Str} (hz : z = str1 ∨ z = str2) (hp : (cpl p).length ≤ 400) : (cpl (mark f g z p)).length ≤ 400 := by
  unfold mark
  split
  · exact hp
  · rcases hz with rfl | rfl <;> decide
theorem mark_row {f g : Nat} {z : Str} {a : List Str} (hz : z = str1 ∨ z = str2) (hl : a.length ≤ 5) (h : ∀ p ∈ a, RowP p) : ∀ q ∈ a.map (mark f g z), fine q ∧ (cpl q).length ≤ 3000 := by
  intro q hq
  obtain ⟨p, hp, rfl⟩ := List.mem_map.mp hq
  exact ⟨mark_fine hz (h p hp).asc, Nat.le_trans (mark_len hz (h p hp).len) (by decide)⟩
end Mine
namespace Mine
noncomputable def sg (c : Nat) : Str := ⟨#[c]⟩
theorem strs_chP (l : List Nat) : l.map chP = (l.map sg).map PV.str := by
  rw [List.map_map]; rfl
theorem any_one (u : List Nat) (c : Nat) : (u.map sg).any (· == ⟨#[c]⟩) = decide (c ∈ u) := by
  rw [Bool.eq_iff_iff, List.any_eq_true, decide_eq_true_eq]
  constructor
  · rintro ⟨x, hx, e⟩
    obtain ⟨d, hd, rfl⟩ := List.mem_map.mp hx
    have := beq_iff_eq.mp e
    simp only [sg, Str.mk.injEq] at this
    have : d = c := by simpa using this
    exact this ▸ hd
  · exact fun h => ⟨sg c, List.mem_map_of_mem h, beq_self_eq_true _⟩
theorem eqv_nil (L : List Str) : PyData.eqv (.list (L.map PyData.str)) (.list []) = decide (L = []) := by
  have := eqv_strs L []
  simp only [PyData.eqv]
  rwa [show ([] : List PyData) = List.map PyData.str [] from rfl]
theorem nil_fit {L : List Str} (h : ∀ x ∈ L, PyData.strOk x = true) : (PyData.list (L.map PyData.str)).canLay0 = true ∧ (PyData.list []).canLay0 = true ∧ (PyData.list (L.map PyData.str)).depth ≤ 16 :=
  ⟨by simp only [PyData.canLay0]; exact can_strs h, by decide, by simp only [PyData.depth, depth_strs]; decide⟩
theorem sg_ok {l : List Nat} (h : ∀ c ∈ l, c < 128) : ∀ x ∈ l.map sg, PyData.strOk x = true := by
  intro x hx
  obtain ⟨c, hc, rfl⟩ := List.mem_map.mp hx
  refine strOk_fine (.inl fun d hd => ?_)
  have : d = c := by simpa [sg, cpl] using hd
  rw [this]; exact h c hc
end Mine
namespace Mine

theorem tga_slot : Slot "type" "__getattribute__" "type.__getattribute__" :=
  .of (owner := "type") (n := "__getattribute__") (by rw [typeLookup_type, builtinLookup_eq_fast]; kernel_rfl) (by decide +kernel) (by decide +kernel) (by decide +kernel)
    (by first | exact .inl (by decide +kernel) | exact .inr (by decide +kernel)) (by rw [isSubtype_type]; kernel_rfl)
theorem tga_entry : entryFor table "type.__getattribute__" = some Builtin.«type.__getattribute__» := entryFor_of_tree (by kernel_rfl)
theorem tga_args (a b : Value) : argsOk "type.__getattribute__" ⟨[a, b], []⟩ := by unfold argsOk; kernel_rfl
theorem gsg_slot : Slot "getset_descriptor" "__get__" "getset_descriptor.__get__" :=
  .of (owner := "getset_descriptor") (n := "__get__") (by rw [typeLookup_type, builtinLookup_eq_fast]; kernel_rfl) (by decide +kernel) (by decide +kernel) (by decide +kernel)
    (by first | exact .inl (by decide +kernel) | exact .inr (by decide +kernel)) (by rw [isSubtype_type]; kernel_rfl)
theorem gsg_entry : entryFor table "getset_descriptor.__get__" = some Builtin.«getset_descriptor.__get__» := entryFor_of_tree (by kernel_rfl)
theorem gsg_args (a b c : Value) : argsOk "getset_descriptor.__get__" ⟨[a, b, c], []⟩ := by unfold argsOk; kernel_rfl
theorem gs_set : typeLookup (.type "getset_descriptor") "__set__" = pure (some (.builtin "getset_descriptor.__set__")) := by rw [typeLookup_type, builtinLookup_eq_fast]; kernel_rfl
theorem tn_entry : entryFor table "type.__name__" = some Builtin.«type.__name__» := entryFor_of_tree (by kernel_rfl)
theorem tn_type : typeOf (.builtin "type.__name__") = pure (.type "getset_descriptor") := by show builtinType _ = _; rw [builtinType_eq_fast]; kernel_rfl
theorem tn_look : typeLookup (.type "type") "__name__" = pure (some (.builtin "type.__name__")) := by rw [typeLookup_type, builtinLookup_eq_fast]; kernel_rfl
theorem tn_owner : Builtin.Getset_descriptor.descrOwnerAndName "type.__name__" = ("type", "__name__") := by decide +kernel
section
variable {prog : Program} {w : World} {A : Around} {E : Value → Shared → Prop} {s : Shared}
theorem name_of_type {T : String} {Q : Value → Shared → Prop} (ht : typeOf (.type T) = pure (.type "type")) (hs : Manifest.isStub T = false) (hq : builtinQualname T = T) (hz : (Str.ofString T).length ≤ sizeLine)
    (h : ∀ u k, Q (.str (Str.ofString T) u) { s with toks := k }) : wpAny (model prog w) A (getAttr (.type T) "__name__" true) Q E s := by
  have hop : opaqueClassAbove (.type T) = pure none := by unfold opaqueClassAbove; dsimp only; rw [hs]; rfl
  unfold getAttr
  refine wpAny_bind (wpAny_mkText ?_)
  unfold getAttrBy
  refine wpAny_holding (wpAny_bind (wpAny_of_eq ht ?_))
  refine wpAny_bind (wpAny_of_eq tga_slot.lookup ?_)
  dsimp only
  rw [if_neg (by decide +kernel)]
  unfold getAttrByItsOwn
  refine wpAny_bind (wpAny_of_eq (a := none) rfl ?_)
  refine wpAny_bind (wpAny_attempt (wpAny_holding ?_))
  unfold callGetattribute
  rw [if_neg (by decide +kernel)]
  unfold boundAndCalled
  rw [tga_slot.bind]
  refine wpAny_bind (wpAny_pure ?_)
  have hTy : ∀ s' : Shared, s'.TypeIs (.type T) "type" := fun s' => ht
  refine wpAny_call_entry (s := { s with toks := s.toks + 1 }) tga_slot (hTy _) tga_entry ?_ (tga_args _ _)
  unfold Builtin.«type.__getattribute__»
  refine wpAny_bind (m := asStr? (.str "__name__" s.toks)) (wpAny_pure ?_)
  refine wpAny_bind (wpAny_of_eq hop ?_)
  refine wpAny_bind (wpAny_of_eq ht ?_)
  refine wpAny_bind (wpAny_of_eq tn_look ?_)
  have g1 : specialOf (.builtin "type.__name__") "__get__" = pure (some (.builtin "getset_descriptor.__get__")) := by
    unfold specialOf; rw [tn_type]; exact gsg_slot.lookup
  have g2 : specialOf (.builtin "type.__name__") "__set__" = pure (some (.builtin "getset_descriptor.__set__")) := by
    unfold specialOf; rw [tn_type]; exact gs_set
  dsimp only
  refine wpAny_bind (wpAny_of_eq g1 ?_)
  dsimp only
  refine wpAny_bind (wpAny_of_eq g2 ?_)
  dsimp only [Option.isSome]
  rw [if_pos rfl]
  refine wpAny_bind (wpAny_pure ?_)
  rw [if_pos rfl]
  refine wpAny_bind (wpAny_holding ?_)
  refine wpAny_call ?_
  have gTy : ∀ s' : Shared, s'.TypeIs (.builtin "type.__name__") "getset_descriptor" := fun s' => tn_type
  refine codeAny_call_builtin gsg_slot.plain gsg_entry (gsg_slot.check _ _ _ _ _ _ _ _ (gTy _) (gsg_args _ _ _) ?_)
  unfold Builtin.«getset_descriptor.__get__» Builtin.Getset_descriptor.descrGet
  have hgiven : ∀ x : Value, (x == Value.none) = false → Builtin.Getset_descriptor.descrGetArgs ⟨[.builtin "type.__name__", .type T, .type "type"], []⟩ = pure (.builtin "type.__name__", some (.type T), some (.type "type")) := by
    intro x _
    unfold Builtin.Getset_descriptor.descrGetArgs
    have e1 : (Value.type T == Value.none) = false := by simp
    have e2 : (Value.type "type" == Value.none) = false := by simp
    simp [e1, e2]
  rw [hgiven (.type T) (by simp)]
  refine wpAny_bind (wpAny_pure ?_)
  unfold Builtin.Getset_descriptor.descrGetter
  dsimp only
  unfold Builtin.Getset_descriptor.descrCheckInstance Builtin.Getset_descriptor.descrNameAndClass
  simp only [tn_owner]
  refine wpAny_bind (wpAny_bind (wpAny_pure ?_))
  refine wpAny_bind (wpAny_isInstance (hTy _) (b := true) (by rw [isSubtype_type]; kernel_rfl) ?_)
  rw [if_neg (by decide)]
  refine wpAny_pure (wpAny_pure ⟨Code.quiet_builtin _ (by decide +kernel), codeAny_builtin tn_entry ?_⟩)
  unfold Builtin.«type.__name__»
  dsimp only
  rw [hq]
  unfold retStr
  refine wpAny_bind (wpAny_mkStr (wpAny_pure ?_) hz)
  exact wpAny_pure ⟨_, rfl, wpAny_pure (h _ _)⟩

/-- how a thing is shown -/
theorem show_none {Q : Value → Shared → Prop} (hq : ∀ u k, Q (.str (Str.ofString "None") u) { s with toks := k }) : wpAny (model prog w) A (pyReprObj .none) Q E s :=
  wpAny_pyReprObj_gives (T := "NoneType") rfl PySem.F.slot_NoneType_repr PySem.F.entry_NoneType_repr (PySem.F.args_NoneType_repr_1 _) gives_none_repr (hq _ _) (hx := by decide +kernel)
theorem show_seven {t : Tok} {Q : Value → Shared → Prop} (hq : ∀ u k, Q (.str (Str.ofString "7") u) { s with toks := k }) : wpAny (model prog w) A (pyReprObj (.int 7 t)) Q E s :=
  wpAny_pyReprObj_gives (T := "int") (typeIs_int _ _ _) PySem.F.slot_int_repr PySem.F.entry_int_repr (PySem.F.args_int_repr_1 _) (gives_int_repr 7 t (by decide +kernel)) (hq _ _) (hx := by decide +kernel)
theorem bytes_repr_slot : Slot "bytes" "__repr__" "bytes.__repr__" :=
  .of (owner := "bytes") (n := "__repr__") (by rw [typeLookup_type, builtinLookup_eq_fast]; kernel_rfl) (by decide +kernel) (by decide +kernel) (by decide +kernel)
    (by first | exact .inl (by decide +kernel) | exact .inr (by decide +kernel)) (by rw [isSubtype_type]; kernel_rfl)
theorem bytes_repr_entry : entryFor table "bytes.__repr__" = some Builtin.«bytes.__repr__» := entryFor_of_tree (by kernel_rfl)
theorem bytes_repr_args (a : Value) : argsOk "bytes.__repr__" ⟨[a], []⟩ := by unfold argsOk; kernel_rfl
theorem gives_amp (t : Tok) : Gives (Builtin.«bytes.__repr__» ⟨[.bytes #[38] t], []⟩) (.str (Str.ofString "b'&'")) := .of_eq (by kernel_rfl)
theorem show_amp {t : Tok} {Q : Value → Shared → Prop} (hq : ∀ u k, Q (.str (Str.ofString "b'&'") u) { s with toks := k }) : wpAny (model prog w) A (pyReprObj (.bytes #[38] t)) Q E s :=
  wpAny_pyReprObj_gives (T := "bytes") rfl bytes_repr_slot bytes_repr_entry (bytes_repr_args _) (gives_amp t) (hq _ _) (hx := by decide +kernel)
end
end Mine
namespace Mine

/-- a heap without some of its objects -/
noncomputable def hide (h : Heap) : List Addr → Heap
  | [] => h
  | a :: r => (hide h r).update a fun o => { o with data := .freed }
theorem hide_ne {h : Heap} {b : Addr} : ∀ {fs : List Addr}, b ∉ fs → (hide h fs).get? b = h.get? b
  | [], _ => rfl
  | a :: r, hb => by
    simp only [List.mem_cons, not_or] at hb
    exact (Heap.get?_update_other _ _ (Ne.symm hb.1)).trans (hide_ne hb.2)
theorem freed_none {h : Heap} {a : Addr} : (h.update a fun o => { o with data := .freed }).get? a = none := by
  unfold Heap.get? Heap.update
  obtain ⟨objs, l⟩ := h
  simp only [Array.getElem?_modify]
  cases e : objs[a]? with
  | none => simp
  | some o => simp
theorem hide_mem {h : Heap} {b : Addr} : ∀ {fs : List Addr}, b ∈ fs → (hide h fs).get? b = none
  | [], hb => by cases hb
  | a :: r, hb => by
    by_cases e : b = a
    · subst e; exact freed_none
    · rcases List.mem_cons.mp hb with q | q
      · exact absurd q e
      · exact (Heap.get?_update_other _ _ (Ne.symm e)).trans (hide_mem q)
theorem hide_stays {h h' : Heap} {fs : List Addr} (k : ∀ b o, h.get? b = some o → b ∉ fs → h'.get? b = some o) : (hide h fs).StaysIn h' := by
  intro b o e
  by_cases hb : b ∈ fs
  · rw [hide_mem hb] at e; cases e
  · rw [hide_ne hb] at e; exact k b o e hb

theorem unchain_entry : entryFor table "proto.unchain" = some Builtin.«proto.unchain» := entryFor_of_tree (by kernel_rfl)

section
variable {prog : Program} {w : World} {A : Around} {E : Value → Shared → Prop} {s : Shared} {env : Env}

theorem unchain_ok {v : Value} {e1 : Addr} {o1 : Obj} {vs1 : Array Value} {Q : Value → Shared → Prop} (h1 : s.heap.get? e1 = some o1) (hd : o1.data = .fields vs1) (h2 : vs1[2]? = some .none) (hq : Q .none s) :
    wpAny (model prog w) A (runValue (.builtin "proto.unchain" ⟨[v, .ref e1, .ref e1, .bool false], []⟩)) Q E s := by
  refine wpAny_runValue (codeAny_builtin unchain_entry ?_)
  unfold Builtin.«proto.unchain»
  dsimp only
  refine wpAny_bind (wpAny_field h1 hd h2 ?_)
  rw [if_pos (by decide)]
  exact wpAny_pure hq

set_option maxHeartbeats 4000000 in
theorem raise_handled {cls : String} (F : ExcRaiseFacts cls) {x : Expr} {pos : Pos} {e1 : Addr} {Q : Flow → Shared → Prop} (hh : A.handled = some (.ref e1))
    (h : wpAny (model prog w) A (eval x env) (fun v s₁ => ∃ e t o1 vs1, v = .ref e ∧ s₁.heap.get? e = some { cls := .type cls, data := .fields #[.ref t, .none, .none, .none, .bool false, .none] } ∧ s₁.heap.get? e1 = some o1 ∧ o1.data = .fields vs1 ∧ vs1[2]? = some .none ∧ e1 ≠ e ∧
      E (.ref e) { s₁ with heap := s₁.heap.update e (Obj.mapFields (·.setIfInBounds 2 (.ref e1))) }) E s) :
    wpAny (model prog w) A (exec (.Raise (some x) none pos) env) Q E s := by
  rw [arm_exec_Raise]
  refine wpAny_bind (wpAny_standAt ?_)
  show wpAny _ A (raiseStmt env (some (do let v ← eval x env; standAt pos; pure v)) none) Q E s
  unfold raiseStmt
  refine wpAny_bind (wpAny_bind (wpAny_mono h (fun v s₁ h₁ => wpAny_bind (wpAny_standAt (wpAny_pure ?_))) fun _ _ y => y))
  obtain ⟨e, t, o1, vs1, rfl, he, he1, hd1, h2, hne, hE⟩ := h₁
  obtain ⟨hp, g, d, tk, os⟩ := s₁
  have hsub := F.isExc
  have hmeta := F.plainMeta
  repeat (first | refine wpAny_loadPart he ?_ | wp_step)
  unfold raiseNew
  refine wpAny_bind (wpAny_handled ?_)
  rw [hh]
  dsimp only
  have hb : (Value.ref e1 != Value.ref e) = true := by simp [hne]
  rw [if_pos hb]
  refine wpAny_bind (wpAny_holding (unchain_ok (s := ⟨hp, g, d, tk, os⟩) he1 hd1 h2 ?_))
  unfold updateField
  refine wpAny_bind (wpAny_bind (wpAny_load he ?_))
  dsimp only
  rw [if_pos (by simp)]
  refine wpAny_update he ?_
  exact wpAny_throw hE

/-- an exception made of a text, thrown while another is handled -/
noncomputable def Thrown (cls : String) (e1 : Addr) (args : List Value) (h h' : Heap) (e : Addr) : Prop :=
  (∀ b o, h.get? b = some o → h'.get? b = some o) ∧ h.get? e = none ∧ ∃ oe vs t, h'.get? e = some oe ∧ oe.cls = .type cls ∧ oe.data = .fields vs ∧ vs[0]? = some (.ref t) ∧ vs[1]? = some .none ∧ h.get? t = none ∧ h'.TupAt t args
theorem raise_call {x : Str} {np cpos pos : Pos} {e₀ : Expr} {e1 : Addr} {Q : Flow → Shared → Prop} (hh : A.handled = some (.ref e1)) (hns : noStar e₀ = true)
    (h : wpAny (model prog w) A (eval (.Name x np) env) (fun f s₁ => f = .type "TypeError" ∧ wpAny (model prog w) A (eval e₀ env)
      (fun v s₂ => (∃ o1 vs1, s₂.heap.get? e1 = some o1 ∧ o1.data = .fields vs1 ∧ vs1[2]? = some .none) ∧ ∀ h' e, Thrown "TypeError" e1 [v] s₂.heap h' e → E (.ref e) { s₂ with heap := h' }) E s₁) E s) :
    wpAny (model prog w) A (exec (.Raise (some (.Call (.Name x np) [e₀] [] cpos)) none pos) env) Q E s := by
  refine raise_handled PySem.F.excRaise_TypeError hh (wpAny_Call_ofName (wpAny_mono h (fun f s₁ h₁ => ?_) fun _ _ y => y))
  obtain ⟨rfl, h₁⟩ := h₁
  rw [starEach_plain hns]
  refine callWith_excType rfl (Calls.evalArgs_plain (Calls.spliced_cons (wpAny_mono h₁ (fun v s₂ h₂ => Calls.spliced_nil ?_) fun _ _ y => y)))
  obtain ⟨⟨o1, vs1, he1, hd1, h2⟩, hE⟩ := h₂
  obtain ⟨hp, g, d, tk, os⟩ := s₂
  refine wpAny_call_exc PySem.F.excCall_TypeError (fun h' e hm => ?_) (by show 1 ≤ sizeLine; have := sizeLine_eq; omega)
  obtain ⟨t, ht, htn, htt⟩ := hm.there
  have hne : e1 ≠ e := by
    rintro rfl
    have := hm.new
    rw [he1] at this; cases this
  have hte : t ≠ e := by
    rintro rfl
    have q := congrArg (Option.map Obj.cls) (ht.symm.trans htt)
    simp at q
  refine ⟨e, t, o1, vs1, rfl, ht, hm.keeps _ _ he1, hd1, h2, hne, ?_⟩
  refine hE _ e ⟨fun b o hb => ?_, hm.new, _, _, t, Heap.get?_update_self _ ht rfl, rfl, rfl, rfl, rfl, htn, ?_⟩
  · have hbe : b ≠ e := by rintro rfl; rw [hm.new] at hb; cases hb
    exact (Heap.get?_update_other _ _ (Ne.symm hbe)).trans (hm.keeps b o hb)
  · exact ⟨_, _, (Heap.get?_update_other _ _ (Ne.symm hte)).trans htt, rfl, rfl⟩
end
end Mine
namespace Mine

/-- an exception that was caught in its first frame -/
structure Caught1 (fs : List Addr) (cls : String) (h h' : Heap) (e : Addr) : Prop where
  keep : ∀ b o, h.get? b = some o → b ∉ fs → h'.get? b = some o
  slots : ∀ b o, h.get? b = some o → ∃ sl, h'.get? b = some { o with slots := sl }
  new : h.get? e = none
  there : ∃ oe vs T oT ts, h'.get? e = some oe ∧ oe.cls = .type cls ∧ oe.data = .fields vs ∧ vs[1]? = some (.ref T) ∧ vs[2]? = some .none ∧ h'.get? T = some oT ∧ oT.data = .fields ts ∧ 3 < ts.size ∧ T ≠ e ∧ h.get? T = none
theorem Caught1.keeps {fs : List Addr} {cls : String} {h h' h'' : Heap} {e : Addr} (x : Caught1 fs cls h h' e) (k : ∀ b o, h'.get? b = some o → h''.get? b = some o) : Caught1 fs cls h h'' e := by
  obtain ⟨oe, vs, T, oT, ts, g1, g2, g3, g4, g5, g6, g7, g8, g9, g10⟩ := x.there
  exact ⟨fun b o q n => k b o (x.keep b o q n), fun b o q => let ⟨sl, z⟩ := x.slots b o q; ⟨sl, k _ _ z⟩, x.new, oe, vs, T, oT, ts, k _ _ g1, g2, g3, g4, g5, k _ _ g6, g7, g8, g9, g10⟩

section
variable {M : Model} {A : Around} {E : Value → Shared → Prop} {s : Shared}

theorem flight1 {fs : List Addr} {cls : String} {h : Heap} {e : Addr} {Q : Unit → Shared → Prop} (x : Caught1 fs cls h s.heap e) (hq : ∀ h', Caught1 fs cls h h' e → Q () { s with heap := h' }) : wpAny M A (setFlight (.ref e) none) Q E s := by
  obtain ⟨oe, vs, T, oT, ts, g1, g2, g3, g4, g5, g6, g7, g8, g9, g10⟩ := x.there
  unfold setFlight
  refine wpAny_bind (wpAny_field g1 g3 g4 ?_)
  rw [if_pos (show (Value.ref T != Value.none) = true from by simp)]
  refine wpAny_setField g6 g7 g8 (hq _ ?_)
  have other : ∀ b, b ≠ T → (s.heap.update T (Obj.mapFields (·.setIfInBounds 3 ((none : Option Addr).elim Value.none fun f => rawInt f)))).get? b = s.heap.get? b := fun b hb => Heap.get?_update_other _ _ (Ne.symm hb)
  have nT : ∀ b o, h.get? b = some o → b ≠ T := by rintro b o q rfl; rw [g10] at q; cases q
  refine ⟨fun b o q n => (other b (nT b o q)).trans (x.keep b o q n), fun b o q => let ⟨sl, z⟩ := x.slots b o q; ⟨sl, (other b (nT b o q)).trans z⟩, x.new, oe, vs, T, _, _, (other e (Ne.symm g9)).trans g1, g2, g3, g4, g5, Heap.get?_update_self _ g6 (Obj.isFreed_of_fields (Obj.data_mapFields g7 _)), Obj.data_mapFields g7 _, by simpa using g8, g9, g10⟩

theorem catch1 {base h : Heap} {cls : String} {env : Env} {outer : List Env} {L e : Addr} {Q : Unit → Shared → Prop} (hfr : A.frames = some (env :: outer)) (hl : s.heap.FunFrames base (env :: outer)) (hf : env.frame = some L) (hm : MadeX cls h s.heap e)
    (hq : ∀ h', Caught1 ((env :: outer).filterMap (·.frame)) cls h h' e → Q () { s with heap := h' }) : wpAny M A (noteFrame (.ref e) env) (fun _ s2 => wpAny M A (setFlight (.ref e) none) Q E s2) E s := by
  obtain ⟨oe, vs, a0, he, hc, hd, h0, h1, h2⟩ := hm.there
  have hene : e ∉ (env :: outer).filterMap (·.frame) := fun hm' => by
    obtain ⟨_, o, ho, hnf⟩ := hl.mem hm'
    rw [he] at ho; injection ho with ho; subst ho; exact hnf vs hd
  have hsz : 1 < vs.size := (Array.getElem?_eq_some_iff.mp h1).1
  unfold noteFrame
  simp only [hf]
  refine wpAny_bind (wpAny_field he hd h1 ?_)
  rw [if_neg (by decide)]
  refine wpAny_bind (wpAny_frameOf_fun hfr hl hf fun h₁ hs₁ => ?_)
  refine wpAny_bind (wpAny_entryPlaceOf fun pl hpl => ?_)
  unfold EntryCells.newEntry newFields
  refine wpAny_bind (wpAny_newObj_type ?_ (hpl.sizeOk5 _ _ _ _ _))
  have he₁ : h₁.get? e = some oe := (hs₁.2.1 e hene).trans he
  have he₂ := Heap.get?_push_of_some (h := h₁) { cls := .type "traceback", dict := none, data := .fields ([Value.none, .ref L, .none, rawInt L, .none] ++ (if pl.isEmpty then List.replicate 6 Value.none else pl)).toArray } he₁
  refine wpAny_setField he₂ hd hsz ?_
  have hTe : h₁.objs.size ≠ e := Nat.ne_of_gt (Heap.lt_size he₁)
  have hd₃ := Obj.data_mapFields hd (·.setIfInBounds 1 (Value.ref h₁.objs.size))
  have he₃ := Heap.get?_update_self (Obj.mapFields (·.setIfInBounds 1 (Value.ref h₁.objs.size))) he₂ (Obj.isFreed_of_fields hd₃)
  have hT₃ := (Heap.get?_update_other (h₁.push { cls := .type "traceback", dict := none, data := .fields ([Value.none, .ref L, .none, rawInt L, .none] ++ (if pl.isEmpty then List.replicate 6 Value.none else pl)).toArray })
    (Obj.mapFields (·.setIfInBounds 1 (Value.ref h₁.objs.size))) (Ne.symm hTe)).trans (Heap.get?_push_size h₁ rfl)
  have hTn : h.get? h₁.objs.size = none := by
    cases q : h.get? h₁.objs.size with
    | none => rfl
    | some o =>
      have z := hm.keeps _ o q
      obtain ⟨sl, z2⟩ := hs₁.2.2 _ o z
      exact absurd (Heap.lt_size z2) (Nat.lt_irrefl _)
  have keep : ∀ b o, b ≠ e → h₁.get? b = some o →
      ((h₁.push { cls := .type "traceback", dict := none, data := .fields ([Value.none, .ref L, .none, rawInt L, .none] ++ (if pl.isEmpty then List.replicate 6 Value.none else pl)).toArray }).update e (Obj.mapFields (·.setIfInBounds 1 (Value.ref h₁.objs.size)))).get? b = some o := fun b o hbe hb => by
    rw [Heap.get?_update_other _ _ (Ne.symm hbe)]
    exact Heap.get?_push_of_some _ hb
  have ne_e : ∀ b o, h.get? b = some o → b ≠ e := by rintro b o q rfl; rw [hm.new] at q; cases q
  refine flight1 (h := h) (cls := cls) (fs := (env :: outer).filterMap (·.frame)) ⟨fun b o q n => ?_, fun b o q => ?_, hm.new, _, _, h₁.objs.size, _, _, he₃, (Obj.cls_mapFields _ _).trans hc, hd₃, by simp [hsz], ?_, hT₃, rfl, ?_, hTe, hTn⟩ hq
  · exact keep b o (ne_e b o q) ((hs₁.2.1 b n).trans (hm.keeps b o q))
  · obtain ⟨sl, z⟩ := hs₁.2.2 b o (hm.keeps b o q)
    exact ⟨sl, keep b _ (ne_e b o q) z⟩
  · rw [Array.getElem?_setIfInBounds_ne (by decide)]; exact h2
  · first | (simp; done) | (rcases hpl with rfl | ⟨_, _, _, _, _, _, _, rfl⟩ <;> simp)
end
end Mine
namespace Mine

/-- a frame and what stands under it -/
structure Wk (B : Heap) (L : Addr) (m : Str → Option Value) (h : Heap) : Prop where
  base : B.StaysIn h
  ns : h.Ns L m
  new : B.get? L = none
theorem Wk.keeps {B : Heap} {L : Addr} {m : Str → Option Value} {h h' : Heap} (F : Wk B L m h) (k : ∀ b o, h.get? b = some o → h'.get? b = some o) : Wk B L m h' := ⟨fun b o e => k b o (F.base b o e), F.ns.keeps k, F.new⟩

structure Lv (W : Wd) (d : Nat) (A : Around) (B : Heap) (outer : List Env) : Prop where
  depth : A.depth + d ≤ 900
  units : A.units + 64 * d ≤ 9000
  guards : A.guards = some []
  stack : A.frames = some outer
  top : W.top.StaysIn B

theorem enter_lv {W : Wd} {dr : DefRec} (hd : dr ∈ recsOf W.p) (hco : dr.scope.isCoroutine = false) (hge : dr.scope.isGenerator = false) (hk : dr.scope.kind = .function) (hcell : ∀ x ∈ dr.scope.names, x.2 ≠ .cell) :
    ∃ a cd, W.mg dr.name = some (.ref a) ∧ (∃ o fd, W.top.get? a = some o ∧ o.data = .func fd) ∧ ∀ {d : Nat} {A : Around} {B : Heap} {outer : List Env} {s : Shared} {vs : List Value} {names : List Str} {Q : Value → Shared → Prop} {E : Value → Shared → Prop}, Lv W (d + 1) A B outer → B.StaysIn s.heap → s.heap.FunFrames B outer →
      (∀ pm doc, bindArgs (Calls.docDef dr.name dr.params dr.body dr.scope pm cd doc) ⟨vs, []⟩ = pure (names.zip vs)) → (∀ x ∈ names.zip vs, dr.scope.names.lookup x.1 = some .local) →
      (∀ h₁, Lv W d (A.deeper (envOf dr.name dr.scope s.heap.objs.size a cd)) B (envOf dr.name dr.scope s.heap.objs.size a cd :: outer) → (∀ b o, s.heap.get? b = some o → h₁.get? b = some o) → h₁.FunFrames B (envOf dr.name dr.scope s.heap.objs.size a cd :: outer) →
        Wk B s.heap.objs.size (fun x => (names.zip vs).reverse.lookup x) h₁ →
        wpAny W.M (A.deeper (envOf dr.name dr.scope s.heap.objs.size a cd)) (execs dr.body (envOf dr.name dr.scope s.heap.objs.size a cd)) (fun f s' => Q (match f with | .ret v => v | _ => .none) s')
          (fun e s' => wpAny W.M (A.deeper (envOf dr.name dr.scope s.heap.objs.size a cd)) (leaving (envOf dr.name dr.scope s.heap.objs.size a cd) e) (fun _ s'' => E e s'') (fun e' s'' => E e' s'') s') { s with heap := h₁, toks := s.toks + (names.zip vs).length }) →
      wpAny W.M A (call (.ref a) vs) Q E s := by
  obtain ⟨a, o, pm, code, doc, hmg, ho, hdata, hcode⟩ := W.T.fn dr hd
  refine ⟨a, code, hmg, ⟨o, _, ho, hdata⟩, ?_⟩
  intro d A B outer s vs names Q E hl hB hfr hbind hloc h
  have htop : ∀ b o, W.top.get? b = some o → s.heap.get? b = some o := fun b o e => hB b o (hl.top b o e)
  have hnew : B.get? s.heap.objs.size = none := Heap.StaysIn.fresh hB
  refine wpAny_call (call_plain (by have := hl.depth; show A.depth < 1000; omega) (htop a o ho) hdata (W.T.nolimit.keeps htop) (hcode.keeps htop) (hbind pm doc) hloc (fun h₁ F => ?_) hco hge hk hcell)
  refine h h₁ ⟨?_, ?_, hl.guards, Around.frames_deeper hl.stack, hl.top⟩ F.keep ?_ ⟨fun b o e => F.keep b o (hB b o e), F.ns, hnew⟩
  · have := hl.depth
    show A.depth + 1 + d ≤ 900
    omega
  · have := hl.units
    show A.units + 3 + 64 * d ≤ 9000
    omega
  · exact .cons (by show dr.scope.kind ≠ .module; rw [hk]; decide) rfl F.ns hnew (hfr.of_keeps fun b o e _ => ⟨o, F.keep b o e, rfl⟩)

section
variable {W : Wd} {A : Around} {E : Value → Shared → Prop} {s : Shared} {B : Heap} {L a : Addr} {m : Str → Option Value} {name : Str} {scope : Scope} {cd : Value}
theorem ldW {x : Str} {pos : Pos} {v : Value} {Q : Value → Shared → Prop} (F : Wk B L m s.heap) (hk : scope.kind = .function) (hl : scope.names.lookup x = some .local) (hd : (x == ("__debug__" : Str)) = false) (hv : m x = some v) (h : Q v s) :
    wpAny W.M A (eval (.Name x pos) (envOf name scope L a cd)) Q E s := wpAny_Name (wpAny_loadName_local hk hl F.ns hv h) hd
theorem lgW {x : Str} {pos : Pos} {v : Value} {Q : Value → Shared → Prop} (F : Wk B L m s.heap) (htop : W.top.StaysIn B) (hk : scope.kind = .function) (hl : scope.names.lookup x = some .globalImplicit) (hd : (x == ("__debug__" : Str)) = false) (hv : W.mg x = some v) (h : Q v s) :
    wpAny W.M A (eval (.Name x pos) (envOf name scope L a cd)) Q E s :=
  Calls.Name_function_global hk hl (Calls.loadGlobal_global (W.T.g.keeps fun b o e => F.base b o (htop b o e)) hv h) hd
theorem lbW {x : Str} {pos : Pos} {v : Value} {Q : Value → Shared → Prop} (F : Wk B L m s.heap) (htop : W.top.StaysIn B) (hk : scope.kind = .function) (hl : scope.names.lookup x = some .globalImplicit) (hd : (x == ("__debug__" : Str)) = false) (hn : W.mg x = none) (hv : W.mb x = some v) (h : Q v s) :
    wpAny W.M A (eval (.Name x pos) (envOf name scope L a cd)) Q E s :=
  Calls.Name_function_global hk hl (Calls.loadGlobal_builtin (W.T.g.keeps fun b o e => F.base b o (htop b o e)) hn (W.T.b.keeps fun b o e => F.base b o (htop b o e)) hv h) hd
end

noncomputable def Flies (B : Heap) (outer : List Env) (msg : Str) (E : Value → Shared → Prop) (s : Shared) : Prop :=
  ∀ h' tk e t u, Heap.FlyingW B outer e (.type "TypeError") (.ref t) h' → h'.TupAt t [.str msg u] → s.heap.UpToSlots h' → E (.ref e) { s with heap := h', toks := tk }

/-- a thing that is refused, and how it is shown -/
inductive Thing (h : Heap) : Value → String → Str → Prop
  | none : Thing h .none "NoneType" (Str.ofString "None")
  | seven (t) : Thing h (.int 7 t) "int" (Str.ofString "7")
  | amp (t) : Thing h (.bytes #[38] t) "bytes" (Str.ofString "b'&'")
  | list {a : Addr} {n : Nat} {x : Str × Tok} {l : List (Str × Tok)} (hg : h.get? a = some (lstObj (strValues (x :: l)) n)) (hz : (PyData.list ((x :: l).map fun q => PyData.str q.1)).shown.length ≤ 100000) : Thing h (.ref a) "list" (PyData.list ((x :: l).map fun q => PyData.str q.1)).shown

theorem reads_strs {h : Heap} : ∀ l : List (Str × Tok), ∃ as, ReadsAll h (strValues l) (l.map fun q => PyData.str q.1) as
  | [] => ⟨_, .nil⟩
  | x :: l => let ⟨as, r⟩ := reads_strs l; ⟨_, .cons (.str x.1 x.2) r⟩
theorem strs_show : ∀ l : List (Str × Tok), PyData.showableAll (l.map fun q => PyData.str q.1) = true ∧ PyData.hasDictAll (l.map fun q => PyData.str q.1) = false ∧ PyData.depthAll (l.map fun q => PyData.str q.1) ≤ 1
  | [] => by simp [PyData.showableAll, PyData.hasDictAll, PyData.depthAll]
  | x :: l => by
    have := strs_show l
    simp [PyData.showableAll, PyData.hasDictAll, PyData.depthAll, PyData.showable, PyData.hasDict, PyData.depth, this]
theorem Thing.ty {h : Heap} {v : Value} {T : String} {r : Str} (x : Thing h v T r) {s : Shared} (k : h.StaysIn s.heap) : s.TypeIs v T := by
  cases x with
  | none => rfl
  | seven t => exact typeIs_int _ _ _
  | amp t => rfl
  | list hg hz => exact ⟨_, k _ _ hg, rfl⟩
theorem Thing.shows {prog : Program} {w : World} {h : Heap} {v : Value} {T : String} {r : Str} (x : Thing h v T r) {A : Around} {E : Value → Shared → Prop} {s : Shared} (k : h.StaysIn s.heap) (hg : A.guards = some []) (hu : A.units + 64 < cLine) {Q : Value → Shared → Prop}
    (hq : ∀ h' u tk, (∀ b o, s.heap.get? b = some o → h'.get? b = some o) → Q (.str r u) { s with heap := h', toks := tk }) : wpAny (model prog w) A (pyReprObj v) Q E s := by
  cases x with
  | none => exact show_none fun u k => hq s.heap u k fun _ _ e => e
  | seven t => exact show_seven fun u k => hq s.heap u k fun _ _ e => e
  | amp t => exact show_amp fun u k => hq s.heap u k fun _ _ e => e
  | @list a n x l hg' hz =>
    obtain ⟨as, rd⟩ := reads_strs (h := s.heap) (x :: l)
    obtain ⟨h1, h2, h3⟩ := strs_show (x :: l)
    have r : Reads s.heap (.ref a) (.list ((x :: l).map fun q => PyData.str q.1)) (a :: as) := .list (k _ _ hg') rfl rfl rd
    exact pyReprObj_of_reads r (by simpa [PyData.showable] using h1) (fun hx => by simp only [PyData.hasDict] at hx; rw [h2] at hx; cases hx) hg (by simp only [PyData.depth]; omega) (fun _ _ e => e) hq (hsz := by have := sizeLine_eq; omega)
theorem Thing.len {h : Heap} {v : Value} {T : String} {r : Str} (x : Thing h v T r) : r.length ≤ 100000 ∧ r.length ≠ 0 ∧ (Str.ofString T).length ≤ 1000 ∧ (Str.ofString T).length ≠ 0 ∧ typeOf (.type T) = pure (.type "type") ∧ Manifest.isStub T = false ∧ builtinQualname T = T := by
  cases x with
  | none => exact ⟨by decide +kernel, by decide +kernel, by decide +kernel, by decide +kernel, by kernel_rfl, by decide +kernel, by kernel_rfl⟩
  | seven t => exact ⟨by decide +kernel, by decide +kernel, by decide +kernel, by decide +kernel, by kernel_rfl, by decide +kernel, by kernel_rfl⟩
  | amp t => exact ⟨by decide +kernel, by decide +kernel, by decide +kernel, by decide +kernel, by kernel_rfl, by decide +kernel, by kernel_rfl⟩
  | list hg hz =>
    refine ⟨hz, ?_, by decide +kernel, by decide +kernel, by kernel_rfl, by decide +kernel, by kernel_rfl⟩
    simp only [PyData.shown, listText]
    rw [Str.length_append]
    have : (Str.ofString "]").length = 1 := by decide +kernel
    omega

theorem rse_body {W : Wd} (h : Is W) : ∃ a, W.mg (Str.ofString "_raise_serialization_error") = some (.ref a) ∧ (∃ o fd, W.top.get? a = some o ∧ o.data = .func fd) ∧ ∀ {d : Nat} {A : Around} {B : Heap} {outer : List Env} {s : Shared} {v : Value} {T : String} {r : Str} {e1 : Addr} {E : Value → Shared → Prop}, Lv W (d + 1) A B outer → B.StaysIn s.heap →
    s.heap.FunFrames B outer → A.handled = some (.ref e1) → (∃ o1 vs1, s.heap.get? e1 = some o1 ∧ o1.data = .fields vs1 ∧ vs1[2]? = some .none) → Thing B v T r → Flies B outer (msgOf r (Str.ofString T)) E s → wpAny W.M A (call (.ref a) [v]) (fun _ _ => False) E s := by
  obtain ⟨a, cd, hmg, hfo, hc⟩ := enter_lv (W := W) (dr := drOf pr 5) (rec_mem h (i := 5) (x := Str.ofString "_raise_serialization_error") (by rfl)) (by rfl) (by rfl) (by rfl) (by decide +kernel)
  refine ⟨a, hmg, hfo, ?_⟩
  intro d A B outer s v T r e1 E hl hB hfr hh he1 Th hE
  refine hc (names := [Str.ofString "text"]) hl hB hfr (fun pm doc => rfl) (by
    intro x hx
    simp at hx
    subst hx
    rfl) ?_
  intro h₁ hl1 hk1 hf1 F1
  generalize hL : s.heap.objs.size = L at *
  refine wpAny_execs_cons ?_
  have htop := hl.top
  have hkind : (drOf pr 5).scope.kind = .function := by rfl
  have hmT := bi_free h (x := Str.ofString "TypeError") (v := .type "TypeError") (by decide +kernel) (by decide +kernel) (by decide +kernel) (by decide +kernel) (by decide +kernel) (by decide +kernel) (by rfl)
  have hmt := bi_free h (x := Str.ofString "type") (v := .type "type") (by decide +kernel) (by decide +kernel) (by decide +kernel) (by decide +kernel) (by decide +kernel) (by decide +kernel) (by rfl)
  obtain ⟨l1, l2, l3, l4, l5, l6, l7⟩ := Th.len
  refine raise_call (e1 := e1) (by exact hh) (by rfl) ?_
  refine lbW F1 htop hkind (by rfl) (by decide +kernel) hmT.1 hmT.2 ⟨rfl, ?_⟩
  refine wpAny_JoinedStr ?_
  have hlen := msg_len r (Str.ofString T)
  have hsz := sizeLine_eq
  have cut : ∀ x y : Str, x.length ≤ (x ++ y).length := fun x y => by rw [Str.length_append]; omega
  have e0 : Str.empty ++ Str.ofString "cannot serialize " = Str.ofString "cannot serialize " := Str.empty_append _
  have le4 : (msgOf r (Str.ofString T)).length ≤ sizeLine := by omega
  have le3 : (Str.ofString "cannot serialize " ++ r ++ Str.ofString " (type " ++ Str.ofString T).length ≤ sizeLine := Nat.le_trans (cut _ _) le4
  have le2 : (Str.ofString "cannot serialize " ++ r ++ Str.ofString " (type ").length ≤ sizeLine := Nat.le_trans (cut _ _) le3
  have le1 : (Str.ofString "cannot serialize " ++ r).length ≤ sizeLine := Nat.le_trans (cut _ _) le2
  refine Joins_cons ?_
  rw [arm_eval_Constant]
  refine wpAny_mkText ⟨_, _, rfl, by rw [e0]; exact Nat.le_trans (cut _ _) le1, ?_⟩
  rw [e0]
  refine Joins_cons ?_
  refine wpAny_FormattedValue_repr ?_
  refine ldW (v := v) F1 hkind (by rfl) (by decide +kernel) (by rfl) ?_
  refine Th.shows F1.base hl1.guards (by have := hl1.units; show _ < 9900; omega) fun h₂ u₂ tk₂ hk2 => ?_
  have F2 := F1.keeps hk2
  refine SB.field_str (fun t' k => ⟨_, _, rfl, le1, ?_⟩) (by omega)
  refine Joins_cons ?_
  rw [arm_eval_Constant]
  refine wpAny_mkText ⟨_, _, rfl, le2, ?_⟩
  refine Joins_cons ?_
  refine wpAny_FormattedValue_s ?_
  rw [arm_eval_Attribute]
  refine wpAny_bind ?_
  show wpAny _ _ (eval (.Call _ _ _ _) _) _ _ _
  refine Call_name1 (by rfl) ?_
  refine lbW F2 htop hkind (by rfl) (by decide +kernel) hmt.1 hmt.2 ?_
  refine callWith_type1 ?_
  refine ldW (v := v) F2 hkind (by rfl) (by decide +kernel) (by rfl) ?_
  refine call_type_of (Tx := T) (Th.ty F2.base) (by cases Th <;> decide) ?_
  refine wpAny_bind (wpAny_standAt ?_)
  refine wpAny_bind (wpAny_holding (name_of_type l5 l6 l7 (by omega) fun u₃ k₃ => ?_))
  refine wpAny_bind (wpAny_pure (wpAny_pure ?_))
  refine SB.convS_str (fun t' k => ?_) (by omega)
  refine SB.field_str (fun t' k => ⟨_, _, rfl, le3, ?_⟩) (by omega)
  refine Joins_cons ?_
  rw [arm_eval_Constant]
  refine wpAny_mkText ⟨_, _, rfl, le4, ?_⟩
  refine Joins_nil ⟨le4, ?_, ?_⟩
  · obtain ⟨o1, vs1, g1, g2, g3⟩ := he1
    exact ⟨o1, vs1, hk2 _ _ (hk1 _ _ g1), g2, g3⟩
  · intro h₅ e hth
    obtain ⟨kk, hnew, oe, vs, t, ge, gc, gd, g0, g1, gt, gtup⟩ := hth
    have hfr5 : h₅.FunFrames B (envOf (drOf pr 5).name (drOf pr 5).scope L a cd :: outer) := hf1.of_keeps fun b o q _ => ⟨o, kk _ _ (hk2 _ _ q), rfl⟩
    have B5 : B.StaysIn h₅ := fun b o q => kk _ _ (F2.base b o q)
    have hen : B.get? e = none := by
      cases q : B.get? e with
      | none => rfl
      | some o => have := F2.base e o q; rw [hnew] at this; cases this
    refine wpAny_leaving_firstW (base := B) (a0 := .ref t) hl1.stack hfr5 rfl ge B5 hen gd g1 g0 fun h' hL' => ?_
    obtain ⟨x1, ⟨_, _, x2⟩, x3, x4⟩ := hL'
    rw [gc] at x3
    refine hE h' _ e t _ ⟨x1, hen, x2, x3⟩ (Heap.TupAt.of_slots gtup x4) ?_
    refine Heap.UpToSlots.trans (Heap.UpToSlots.of_keeps fun b o q => kk _ _ (hk2 _ _ (hk1 _ _ q))) x4
end Mine
namespace Mine

noncomputable def nmT : Str := Str.ofString "text"
/-- the rows that an escape tries, and the signs it looks for -/
inductive EscB : List Stmt → List Str → Prop
  | nil {np pos : Pos} : EscB [.Return (some (.Name nmT np)) pos] []
  | cons {c c2 c3 : Str} {k k2 k3 : Nat} {p1 p2 p3 p4 p5 p6 p7 p8 p9 ap cp : Pos} {rest : List Stmt} {cs : List Str} (h : EscB rest cs) :
      EscB (.If (.Compare (.Constant (.str c) k p1) [.In] [.Name nmT p2] p3) [.Assign [.Name nmT p4] (.Call (.Attribute (.Name nmT p5) (Str.ofString "replace") ap) [.Constant (.str c2) k2 p6, .Constant (.str c3) k3 p7] [] cp) p8] [] p9 :: rest) (c :: cs)

section
variable {W : Wd} {A : Around} {E : Value → Shared → Prop} {s : Shared} {B : Heap} {L a : Addr} {m : Str → Option Value} {name : Str} {scope : Scope} {cd : Value}

theorem replace_raises {p5 ap cp : Pos} {args : List Expr} {b : Addr} {us : List Value} {n : Nat} {Q : Value → Shared → Prop} (F : Wk B L m s.heap) (hk : scope.kind = .function) (hl : scope.names.lookup nmT = some .local) (hv : m nmT = some (.ref b)) (hg : s.heap.get? b = some (lstObj us n)) (hh : A.handled = none)
    (hf : methodCallForm (args.length + ([] : List Keyword).length) (backTo cp (starEach args (envOf name scope L a cd))) (backToKw cp (keywordEach [] (envOf name scope L a cd))) = true) (h : RaisesX "AttributeError" E s) :
    wpAny W.M A (eval (.Call (.Attribute (.Name nmT p5) (Str.ofString "replace") ap) args [] cp) (envOf name scope L a cd)) Q E s := by
  rw [arm_eval_Call]
  have e1 : attributeBase (.Name nmT p5) (Str.ofString "replace") (envOf name scope L a cd) (eval (.Name nmT p5) (envOf name scope L a cd)) = eval (.Name nmT p5) (envOf name scope L a cd) := rfl
  rw [e1]
  refine wpAny_bind (ldW F hk hl (by decide +kernel) hv ?_)
  refine wpAny_bind (wpAny_standAt ?_)
  unfold methodCall calleeOf
  rw [hf, if_pos rfl]
  exact wpAny_bind (wpAny_holding (list_replace hg hh h))

theorem test_list {c : Str} {k : Nat} {p1 p2 p3 : Pos} {b : Addr} {l : List (Str × Tok)} {n : Nat} {whole : Sem Bool → Sem Value} {Qb : Bool → Shared → Prop} (F : Wk B L m s.heap) (hk : scope.kind = .function) (hl : scope.names.lookup nmT = some .local) (hv : m nmT = some (.ref b)) (hg : s.heap.get? b = some (lstObj (strValues l) n))
    (h : ∀ tk, Qb ((l.map (·.1)).any (· == c)) { s with toks := tk }) :
    wpAny W.M A (isTrue (.Compare (.Constant (.str c) k p1) [.In] [.Name nmT p2] p3) (envOf name scope L a cd) (eval (.Compare (.Constant (.str c) k p1) [.In] [.Name nmT p2] p3) (envOf name scope L a cd))) Qb E s := by
  refine wpAny_isTrue_Compare1 ?_ rfl
  rw [arm_eval_Constant]
  refine wpAny_mkText ?_
  refine ldW F hk hl (by decide +kernel) hv ?_
  refine SeqAt.in_listAt (isStr c) (lst_isList hg) (str_item _) ?_
  rw [any_str]
  exact wpAny_truthy_bool (h _)

theorem body_list_raise {b : Addr} {l : List (Str × Tok)} {n : Nat} {Q : Flow → Shared → Prop} (hk : scope.kind = .function) (hl : scope.names.lookup nmT = some .local) (hv : m nmT = some (.ref b)) (hh : A.handled = none) {body : List Stmt} {cs : List Str} (hb : EscB body cs) :
    ∀ {s : Shared}, Wk B L m s.heap → s.heap.get? b = some (lstObj (strValues l) n) → (∃ c ∈ cs, (l.map (·.1)).any (· == c) = true) → RaisesX "AttributeError" E s → wpAny W.M A (execs body (envOf name scope L a cd)) Q E s := by
  induction hb with
  | nil => intro s F hg hc h; obtain ⟨c, hm, _⟩ := hc; cases hm
  | @cons c c2 c3 k k2 k3 p1 p2 p3 p4 p5 p6 p7 p8 p9 ap cp rest cs hb ih =>
    intro s F hg hc h
    refine wpAny_execs_cons (wpAny_If (test_list (whole := fun _ => pure .none) F hk hl hv hg fun tk => ?_))
    cases hcc : (l.map (·.1)).any (· == c) with
    | true =>
      rw [if_pos rfl]
      refine wpAny_execs_cons (wpAny_Assign_Name (replace_raises (s := { s with toks := tk }) F hk hl hv hg hh rfl h) rfl)
    | false =>
      rw [if_neg (by simp)]
      refine wpAny_execs_nil (ih (s := { s with toks := tk }) F hg ?_ h)
      obtain ⟨c', hm, hc'⟩ := hc
      rcases List.mem_cons.mp hm with e | hm
      · rw [e, hcc] at hc'; cases hc'
      · exact ⟨c', hm, hc'⟩

theorem body_list_same {b : Addr} {l : List (Str × Tok)} {n : Nat} {Q : Flow → Shared → Prop} (hk : scope.kind = .function) (hl : scope.names.lookup nmT = some .local) (hv : m nmT = some (.ref b)) {body : List Stmt} {cs : List Str} (hb : EscB body cs) :
    ∀ {s : Shared}, Wk B L m s.heap → s.heap.get? b = some (lstObj (strValues l) n) → (∀ c ∈ cs, (l.map (·.1)).any (· == c) = false) → (∀ tk, Q (.ret (.ref b)) { s with toks := tk }) → wpAny W.M A (execs body (envOf name scope L a cd)) Q E s := by
  induction hb with
  | nil =>
    intro s F hg hc h
    refine wpAny_execs_cons (wpAny_Return_some (ldW F hk hl (by decide +kernel) hv ?_))
    exact h _
  | @cons c c2 c3 k k2 k3 p1 p2 p3 p4 p5 p6 p7 p8 p9 ap cp rest cs hb ih =>
    intro s F hg hc h
    refine wpAny_execs_cons (wpAny_If (test_list (whole := fun _ => pure .none) F hk hl hv hg fun tk => ?_))
    rw [hc c List.mem_cons_self, if_neg (by simp)]
    exact wpAny_execs_nil (ih (s := { s with toks := tk }) F hg (fun c' hm => hc c' (List.mem_cons_of_mem _ hm)) fun tk' => h tk')

/-- a thing in which no sign can be sought -/
inductive Bad : Value → Prop
  | none : Bad .none
  | int (i t) : Bad (.int i t)
  | bytes (b t) : Bad (.bytes b t)
theorem body_bad {v : Value} {Q : Flow → Shared → Prop} (hbad : Bad v) (hk : scope.kind = .function) (hl : scope.names.lookup nmT = some .local) (hv : m nmT = some v) (hh : A.handled = none) {body : List Stmt} {c : Str} {cs : List Str} (hb : EscB body (c :: cs)) (F : Wk B L m s.heap)
    (h : RaisesX "TypeError" E s) : wpAny W.M A (execs body (envOf name scope L a cd)) Q E s := by
  cases hb with
  | cons hb =>
    refine wpAny_execs_cons (wpAny_If (wpAny_isTrue_Compare1 ?_ rfl))
    rw [arm_eval_Constant]
    refine wpAny_mkText ?_
    refine ldW (s := { s with toks := s.toks + 1 }) F hk hl (by decide +kernel) hv ?_
    cases hbad with
    | none => exact in_none hh h
    | int i t => exact in_int hh h
    | bytes b t => exact in_bytes hh h
end
end Mine
namespace Mine

section
variable {M : Model} {A : Around} {E : Value → Shared → Prop} {s : Shared}
theorem held_again {base : Heap} {l : List Env} {e L : Addr} {cls a0 : Value} {Q : Unit → Shared → Prop} (R : Heap.HeldW base l e cls a0 L s.heap)
    (h : ∀ h', Heap.HeldW base l e cls a0 L h' → s.heap.UpToSlots h' → Q () { s with heap := h' }) : wpAny M A (setFlight (.ref e) (some L)) Q E s := by
  obtain ⟨hkb, hen, hl, oe, vs, T, oT, ts, he, hcls, hd, h1, hnT, hTe, hT, hdT, h3⟩ := R
  have hsz3 : 3 < ts.size := (Array.getElem?_eq_some_iff.mp h3).1
  have other : ∀ b, b ≠ T → (s.heap.update T (Obj.mapFields (·.setIfInBounds 3 ((some L).elim Value.none fun f => rawInt f)))).get? b = s.heap.get? b := fun b hb => Heap.get?_update_other _ _ (Ne.symm hb)
  have nT : ∀ b o, s.heap.get? b = some o → (∀ vs, o.data ≠ .fields vs) → b ≠ T := fun b o hb hnf q => by
    rw [q, hT] at hb; injection hb with hb; subst hb; exact hnf ts hdT
  unfold setFlight
  refine wpAny_bind (wpAny_field he hd h1 ?_)
  rw [if_pos (show (Value.ref T != Value.none) = true from by simp)]
  refine wpAny_setField hT hdT hsz3 (h _ ⟨fun b o q => (other b fun z => by rw [z, hnT] at q; cases q).trans (hkb b o q), hen, hl.of_keeps fun b o q hnf => ⟨o, (other b (nT b o q hnf)).trans q, rfl⟩, ?_⟩ fun b o q hnf => ⟨o.slots, (other b (nT b o q hnf)).trans q⟩)
  exact ⟨oe, vs, T, _, _, (other e (Ne.symm hTe)).trans he, hcls, hd, h1, hnT, hTe, Heap.get?_update_self _ hT (Obj.isFreed_of_fields (Obj.data_mapFields hdT _)), Obj.data_mapFields hdT _, by simp [hsz3]⟩
/-- an exception of a callee leaves a handler's suite, then its frame -/
theorem through_handler {base : Heap} {env : Env} {outer : List Env} {L e : Addr} {cls a0 : Value} {A' : Around} {E1 : Value → Shared → Prop} (hfr' : A'.frames = some (env :: outer)) (hfr : A.frames = some (env :: outer)) (hf : env.frame = some L) (hfl : Heap.FlyingW base (env :: outer) e cls a0 s.heap)
    (hE1 : ∀ h', Heap.HeldW base (env :: outer) e cls a0 L h' → s.heap.UpToSlots h' → E1 (.ref e) { s with heap := h' }) : notedBy M A' env (cameBackBy M A env E1) (.ref e) s := by
  unfold notedBy
  refine wpAny_looks_onW hfr' hf hfl fun h1 hh1 k1 => ?_
  unfold cameBackBy
  obtain ⟨_, _, _, oe, vs, T, oT, ts, he, hcls, hd, h1', _⟩ := id hh1
  refine wpAny_bind (wpAny_field he hd h1' ?_)
  rw [if_neg (show ¬ ((Value.ref T == Value.none) = true) from by simp)]
  first
    | (refine wpAny_bind (wpAny_pure ?_); rw [hf]; exact held_again hh1 fun h2 hh2 k2 => hE1 h2 hh2 (k1.trans k2))
    | (rw [hf]; exact held_again hh1 fun h2 hh2 k2 => hE1 h2 hh2 (k1.trans k2))
theorem leaves_held {base : Heap} {env : Env} {outer : List Env} {L e : Addr} {cls a0 : Value} {Q : Unit → Shared → Prop} (hf : env.frame = some L) (hh : Heap.HeldW base (env :: outer) e cls a0 L s.heap)
    (hQ : ∀ h', Heap.FlyingW base outer e cls a0 h' → s.heap.UpToSlots h' → Q () { s with heap := h' }) : wpAny M A (leaving env (.ref e)) Q E s := by
  unfold leaving
  refine wpAny_bind (wpAny_noteFrame_againW hf hh.2.2.2 ?_)
  refine wpAny_landsW hh fun h' hfl hs => ?_
  obtain ⟨k1, k2, ⟨_, _, k3⟩, k4⟩ := hfl
  exact hQ h' ⟨k1, k2, k3, k4⟩ hs
end

theorem sub_ae_te : isSubtype (.type "AttributeError") (.type "TypeError") = pure false := by rw [isSubtype_type]; kernel_rfl
theorem sub_te_ae : isSubtype (.type "TypeError") (.type "AttributeError") = pure false := by rw [isSubtype_type]; kernel_rfl
theorem sub_ae_base : isSubtype (.type "AttributeError") (.type "BaseException") = pure true := by rw [isSubtype_type]; kernel_rfl
theorem ae_notTuple : isSubtype (.type ((Manifest.find? "AttributeError").elim "type" fun x => x.metatype)) (.type "tuple") = pure false := by
  have e : (Manifest.find? "AttributeError").elim "type" (fun x => x.metatype) = "type" := by decide +kernel
  rw [e, isSubtype_type]; kernel_rfl
theorem te_notTuple : isSubtype (.type ((Manifest.find? "TypeError").elim "type" fun x => x.metatype)) (.type "tuple") = pure false := by
  have e : (Manifest.find? "TypeError").elim "type" (fun x => x.metatype) = "type" := by decide +kernel
  rw [e, isSubtype_type]; kernel_rfl
theorem te_base : isSubtype (.type "TypeError") (.type "BaseException") = pure true := by rw [isSubtype_type]; kernel_rfl

inductive EscD : List Stmt → List Str → Prop
  | mk {body : List Stmt} {cs : List Str} {p1 p2 tp p3 p4 p5 p6 p7 p8 : Pos} {kk : Nat} (hb : EscB body cs) :
    EscD [.Try body [.ExceptHandler (some (.Tuple [.Name (Str.ofString "TypeError") p1, .Name (Str.ofString "AttributeError") p2] kk tp)) none [.Expr (.Call (.Name (Str.ofString "_raise_serialization_error") p3) [.Name nmT p4] [] p5) p6] p7] [] [] p8] cs

/-- a value and why it is refused where these signs are looked for -/
noncomputable def Refused (h : Heap) (cs : List Str) (v : Value) : Prop :=
  (Bad v ∧ cs ≠ []) ∨ ∃ b l n, v = .ref b ∧ h.get? b = some (lstObj (strValues l) n) ∧ ∃ c ∈ cs, (l.map (·.1)).any (· == c) = true

structure EscF (dr : DefRec) (cs : List Str) : Prop where
  co : dr.scope.isCoroutine = false
  ge : dr.scope.isGenerator = false
  kind : dr.scope.kind = .function
  cell : ∀ x ∈ dr.scope.names, x.2 ≠ .cell
  text : dr.scope.names.lookup nmT = some .local
  te : dr.scope.names.lookup (Str.ofString "TypeError") = some .globalImplicit
  ae : dr.scope.names.lookup (Str.ofString "AttributeError") = some .globalImplicit
  rse : dr.scope.names.lookup (Str.ofString "_raise_serialization_error") = some .globalImplicit
  bind : ∀ v pm cd doc, bindArgs (Calls.docDef dr.name dr.params dr.body dr.scope pm cd doc) ⟨[v], []⟩ = pure ([nmT].zip [v])
  body : EscD dr.body cs

theorem esc_refuses {W : Wd} (h : Is W) {dr : DefRec} {cs : List Str} (hd : dr ∈ recsOf W.p) (F : EscF dr cs) : ∃ a, W.mg dr.name = some (.ref a) ∧ (∃ o fd, W.top.get? a = some o ∧ o.data = .func fd) ∧ ∀ {d : Nat} {A : Around} {B : Heap} {outer : List Env} {s : Shared} {v : Value} {T : String} {r : Str} {E : Value → Shared → Prop},
    Lv W (d + 2) A B outer → B.StaysIn s.heap → s.heap.FunFrames B outer → A.handled = none → Thing B v T r → Refused B cs v → Flies B outer (msgOf r (Str.ofString T)) E s → wpAny W.M A (call (.ref a) [v]) (fun _ _ => False) E s := by
  obtain ⟨a, cd, hmg, hfo, hc⟩ := enter_lv (W := W) hd F.co F.ge F.kind F.cell
  refine ⟨a, hmg, hfo, ?_⟩
  intro d A B outer s v T r E hl hB hfr hh Th hR hE
  refine hc (d := d + 1) (names := [nmT]) hl hB hfr (fun pm doc => F.bind v pm cd doc) (by
    intro x hx
    simp at hx
    subst hx
    exact F.text) ?_
  intro h₁ hl1 hk1 hf1 F1
  generalize hL : s.heap.objs.size = L at *
  have htop := hl.top
  have hv : (fun x => List.lookup x ([nmT].zip [v]).reverse) nmT = some v := by simp
  have hD := F.body
  generalize hm0 : (fun x => List.lookup x ([nmT].zip [v]).reverse) = m at *
  generalize hq0 : (fun (f : Flow) (s' : Shared) => (fun (_ : Value) (_ : Shared) => False) (match f with | .ret v => v | _ => .none) s') = Q0 at *
  generalize hs1 : ({ s with heap := h₁, toks := s.toks + ([nmT].zip [v]).length } : Shared) = s1
  have es1 : s1.heap = h₁ := by rw [← hs1]
  have er1 : ∀ h' tk, ({ s1 with heap := h', toks := tk } : Shared) = { s with heap := h', toks := tk } := fun h' tk => by rw [← hs1]
  obtain ⟨aR, hmgR, ⟨oR, fdR, hoR, hodR⟩, hcR⟩ := rse_body h
  have hmT := bi_free h (x := Str.ofString "TypeError") (v := .type "TypeError") (by decide +kernel) (by decide +kernel) (by decide +kernel) (by decide +kernel) (by decide +kernel) (by decide +kernel) (by rfl)
  have hmA := bi_free h (x := Str.ofString "AttributeError") (v := .type "AttributeError") (by decide +kernel) (by decide +kernel) (by decide +kernel) (by decide +kernel) (by decide +kernel) (by decide +kernel) (by rfl)
  generalize dr.body = body0 at *
  cases hD with
  | @mk body cs p1 p2 tp p3 p4 p5 p6 p7 p8 kk hb =>
  refine wpAny_execs_cons (wpAny_Try_except ?_)
  have after : ∀ (cls : String) (b1 b2 : Bool) (Qa : Flow → Shared → Prop), isSubtype (.type cls) (.type "TypeError") = pure b1 → isSubtype (.type cls) (.type "AttributeError") = pure b2 → (b1 || b2) = true →
      RaisesX cls (fun e s₁ => wpAny W.M (A.deeper (envOf dr.name dr.scope L a cd)) (noteFrame e (envOf dr.name dr.scope L a cd)) (fun _ s₂ => wpAny W.M (A.deeper (envOf dr.name dr.scope L a cd)) (setFlight e none) (fun _ s₃ => wpAny W.M (A.deeper (envOf dr.name dr.scope L a cd))
        (handleBy e (envOf dr.name dr.scope L a cd) (.ExceptHandler (some (.Tuple [.Name (Str.ofString "TypeError") p1, .Name (Str.ofString "AttributeError") p2] kk tp)) none [.Expr (.Call (.Name (Str.ofString "_raise_serialization_error") p3) [.Name nmT p4] [] p5) p6] p7 :: [])) Qa
        (fun e s' => wpAny W.M (A.deeper (envOf dr.name dr.scope L a cd)) (leaving (envOf dr.name dr.scope L a cd) e) (fun _ s'' => E e s'') (fun e' s'' => E e' s'') s') s₃)
        (fun e s' => wpAny W.M (A.deeper (envOf dr.name dr.scope L a cd)) (leaving (envOf dr.name dr.scope L a cd) e) (fun _ s'' => E e s'') (fun e' s'' => E e' s'') s') s₂)
        (fun e s' => wpAny W.M (A.deeper (envOf dr.name dr.scope L a cd)) (leaving (envOf dr.name dr.scope L a cd) e) (fun _ s'' => E e s'') (fun e' s'' => E e' s'') s') s₁) s1 := by
    intro cls b1 b2 Qa hs1 hs2 hb12 h' tk e hm
    rw [es1] at hm
    rw [er1]
    have hf' : h'.FunFrames B (envOf dr.name dr.scope L a cd :: outer) := hf1.of_keeps fun b o q _ => ⟨o, hm.keeps b o q, rfl⟩
    refine catch1 (base := B) hl1.stack hf' rfl hm fun h2 c2 => ?_
    have nB : ∀ b o, B.get? b = some o → b ∉ (envOf dr.name dr.scope L a cd :: outer).filterMap (·.frame) := fun b o q hb => by
      rw [(hf1.mem hb).1] at q; cases q
    have stB : ∀ {g}, Caught1 ((envOf dr.name dr.scope L a cd :: outer).filterMap (·.frame)) cls h₁ g e → Wk B L m g ∧ g.FunFrames B (envOf dr.name dr.scope L a cd :: outer) ∧ h₁.UpToSlots g := fun {g} c =>
      have up : h₁.UpToSlots g := fun b o q _ => c.slots b o q
      ⟨⟨fun b o q => c.keep b o (F1.base b o q) (nB b o q), up.ns F1.ns, F1.new⟩, hf1.of_keeps fun b o q _ => (let ⟨sl, z⟩ := c.slots b o q; ⟨_, z, rfl⟩), up⟩
    obtain ⟨F2, hf2, up2⟩ := stB c2
    refine wpAny_handleBy_tup2 (X := cls) (T1 := "TypeError") (T2 := "AttributeError") te_base te_notTuple sub_ae_base ae_notTuple hs1 hs2 ?_
    refine Tuple_ (Calls.spliced_cons (lbW F2 htop F.kind F.te (by decide +kernel) hmT.1 hmT.2 (Calls.spliced_cons (lbW F2 htop F.kind F.ae (by decide +kernel) hmA.1 hmA.2 (Calls.spliced_nil ?_)))))
    refine wpAny_newObj_type ?_ (by show 2 ≤ sizeLine; have := sizeLine_eq; omega)
    have c3 := c2.keeps (h'' := h2.push { cls := .type "tuple", data := .seq #[.type "TypeError", .type "AttributeError"] }) (fun b o q => Heap.get?_push_of_some _ q)
    refine ⟨_, rfl, tup_isTup (us := [.type "TypeError", .type "AttributeError"]) (n := 0) (Heap.get?_push_size _ rfl), ?_, ?_⟩
    · obtain ⟨oe, _, _, _, _, g1, g2, _⟩ := c3.there
      exact ⟨oe, g1, g2⟩
    rw [if_pos hb12]
    refine flight1 c3 fun h4 c4 => ?_
    obtain ⟨F4, hf4, up4⟩ := stB c4
    refine wpAny_execs_cons (wpAny_Expr_any ?_ ?_ ?_)
    · refine Call_name1 rfl (lgW F4 htop F.kind F.rse (by decide +kernel) hmgR ?_)
      refine Calls.callWith_function (o := oR) (fd := fdR) (Calls.evalArgs_plain (Calls.spliced_cons (ldW F4 F.kind F.text (by decide +kernel) hv (Calls.spliced_nil ⟨⟨F4.base _ _ (htop _ _ hoR), hodR⟩, ?_⟩))))
      refine wpAny_mono (hcR (d := d) (A := (A.deeper (envOf dr.name dr.scope L a cd)).mark (some (.ref e))) (B := B) (outer := envOf dr.name dr.scope L a cd :: outer) (T := T) (r := r) (e1 := e) ⟨hl1.depth, hl1.units, hl1.guards, hl1.stack, hl1.top⟩ F4.base hf4 rfl ?_ Th ?_) (fun _ _ f => f.elim) (fun _ _ e => e)
      · obtain ⟨oe, vs, _, _, _, g1, g2, g3, _, g5, _⟩ := c4.there
        exact ⟨oe, vs, g1, g3, g5⟩
      · intro h5 tk5 e2 t u hfl htup hup
        refine through_handler (base := B) (A' := (A.deeper (envOf dr.name dr.scope L a cd)).mark (some (.ref e))) (A := A.deeper (envOf dr.name dr.scope L a cd)) hl1.stack hl1.stack rfl hfl fun h6 hh6 k6 => ?_
        refine leaves_held rfl hh6 fun h7 hfl7 k7 => ?_
        exact hE h7 _ e2 t u hfl7 ((htup.of_slots k6).of_slots k7) ((((Heap.UpToSlots.of_keeps hk1).trans up4).trans hup).trans (k6.trans k7))
    · unfold interactive
      show (dr.scope.kind == .module && _) = false
      rw [F.kind]
      rfl
    · rfl
  rcases hR with ⟨hbad, hne⟩ | ⟨b, l, n, rfl, hg, hc⟩
  · obtain ⟨c, cs', rfl⟩ : ∃ c cs', cs = c :: cs' := by
      cases cs with
      | nil => exact absurd rfl hne
      | cons c cs' => exact ⟨c, cs', rfl⟩
    exact body_bad (A := A.deeper (envOf dr.name dr.scope L a cd)) (s := s1) hbad F.kind F.text hv hh hb (by rw [es1]; exact F1) (after "TypeError" true false _ te_sub sub_te_ae rfl)
  · exact body_list_raise (A := A.deeper (envOf dr.name dr.scope L a cd)) (s := s1) F.kind F.text hv hh hb (by rw [es1]; exact F1) (by rw [es1]; exact F1.base _ _ hg) hc (after "AttributeError" false true _ sub_ae_te sub_AttributeError rfl)

/-- a list without these signs is handed back -/
theorem esc_same {W : Wd} (h : Is W) {dr : DefRec} {cs : List Str} (hd : dr ∈ recsOf W.p) (F : EscF dr cs) : ∃ a, W.mg dr.name = some (.ref a) ∧ (∃ o fd, W.top.get? a = some o ∧ o.data = .func fd) ∧ ∀ {d : Nat} {A : Around} {B : Heap} {outer : List Env} {s : Shared} {b : Addr} {l : List (Str × Tok)} {n : Nat} {Q : Value → Shared → Prop} {E : Value → Shared → Prop},
    Lv W (d + 1) A B outer → B.StaysIn s.heap → s.heap.FunFrames B outer → s.heap.get? b = some (lstObj (strValues l) n) → (∀ c ∈ cs, (l.map (·.1)).any (· == c) = false) → (∀ h' tk, (∀ b o, s.heap.get? b = some o → h'.get? b = some o) → Q (.ref b) { s with heap := h', toks := tk }) → wpAny W.M A (call (.ref a) [.ref b]) Q E s := by
  obtain ⟨a, cd, hmg, hfo, hc⟩ := enter_lv (W := W) hd F.co F.ge F.kind F.cell
  refine ⟨a, hmg, hfo, ?_⟩
  intro d A B outer s b l n Q E hl hB hfr hg hn hq
  refine hc (d := d) (names := [nmT]) hl hB hfr (fun pm doc => F.bind _ pm cd doc) (by
    intro x hx
    simp at hx
    subst hx
    exact F.text) ?_
  intro h₁ hl1 hk1 hf1 F1
  have hv : (fun x => List.lookup x ([nmT].zip [Value.ref b]).reverse) nmT = some (.ref b) := by simp
  have hD := F.body
  generalize dr.body = body0 at *
  cases hD with
  | @mk body cs p1 p2 tp p3 p4 p5 p6 p7 p8 kk hb =>
  refine wpAny_execs_cons (wpAny_Try_except ?_)
  refine body_list_same F.kind F.text hv hb F1 (hk1 _ _ hg) hn fun tk => ?_
  exact hq h₁ tk hk1

theorem escF0 : EscF (drOf pr 6) [⟨#[38]⟩, ⟨#[60]⟩, ⟨#[62]⟩] where
  co := by rfl
  ge := by rfl
  kind := by rfl
  cell := by decide +kernel
  text := by rfl
  te := by rfl
  ae := by rfl
  rse := by rfl
  bind := fun v pm cd doc => rfl
  body := .mk (.cons (.cons (.cons .nil)))
end Mine
namespace Mine

theorem escF1 : EscF (drOf pr 7) [⟨#[38]⟩, ⟨#[60]⟩, ⟨#[62]⟩, ⟨#[34]⟩, ⟨#[13]⟩, ⟨#[10]⟩, ⟨#[9]⟩] where
  co := by rfl
  ge := by rfl
  kind := by rfl
  cell := by decide +kernel
  text := by rfl
  te := by rfl
  ae := by rfl
  rse := by rfl
  bind := fun v pm cd doc => rfl
  body := .mk (.cons (.cons (.cons (.cons (.cons (.cons (.cons .nil)))))))
theorem escF2 : EscF (drOf pr 8) [⟨#[38]⟩, ⟨#[62]⟩, ⟨#[34]⟩] where
  co := by rfl
  ge := by rfl
  kind := by rfl
  cell := by decide +kernel
  text := by rfl
  te := by rfl
  ae := by rfl
  rse := by rfl
  bind := fun v pm cd doc => rfl
  body := .mk (.cons (.cons (.cons .nil)))
theorem escF3 : EscF (drOf pr 9) [⟨#[38]⟩, ⟨#[60]⟩, ⟨#[62]⟩, ⟨#[13]⟩] where
  co := by rfl
  ge := by rfl
  kind := by rfl
  cell := by decide +kernel
  text := by rfl
  te := by rfl
  ae := by rfl
  rse := by rfl
  bind := fun v pm cd doc => rfl
  body := .mk (.cons (.cons (.cons (.cons .nil))))
theorem escF4 : EscF (drOf pr 10) [⟨#[38]⟩, ⟨#[60]⟩, ⟨#[34]⟩, ⟨#[9]⟩, ⟨#[10]⟩, ⟨#[13]⟩] where
  co := by rfl
  ge := by rfl
  kind := by rfl
  cell := by decide +kernel
  text := by rfl
  te := by rfl
  ae := by rfl
  rse := by rfl
  bind := fun v pm cd doc => rfl
  body := .mk (.cons (.cons (.cons (.cons (.cons (.cons .nil))))))

/-- the signs of a hand, each as a text -/
noncomputable def signTs (k : Nat) : List Str := (signsOf k).map fun c => ⟨#[c]⟩
noncomputable def escNames : List Str := [Str.ofString "_escape_cdata", Str.ofString "_escape_attrib", Str.ofString "_escape_attrib_html", Str.ofString "_escape_cdata_c14n", Str.ofString "_escape_attrib_c14n"]

/-- what a call of a def does with a value that is no text: refused or handed back -/
structure TakesV (W : Wd) (d : Nat) (f : Str) (xs : List Value) (cs : List Str) : Prop where
  get : ∃ a, W.mg f = some (.ref a) ∧ (∃ o fd, W.top.get? a = some o ∧ o.data = .func fd) ∧
    (∀ {A : Around} {B : Heap} {outer : List Env} {s : Shared} {v : Value} {T : String} {r : Str} {E : Value → Shared → Prop}, Lv W d A B outer → B.StaysIn s.heap → s.heap.FunFrames B outer → A.handled = none → Thing B v T r → Refused B cs v → Flies B outer (msgOf r (Str.ofString T)) E s →
      wpAny W.M A (call (.ref a) (v :: xs)) (fun _ _ => False) E s) ∧
    (∀ {A : Around} {B : Heap} {outer : List Env} {s : Shared} {b : Addr} {l : List (Str × Tok)} {n : Nat} {Q : Value → Shared → Prop} {E : Value → Shared → Prop}, Lv W d A B outer → B.StaysIn s.heap → s.heap.FunFrames B outer → s.heap.get? b = some (lstObj (strValues l) n) → (∀ c ∈ cs, (l.map (·.1)).any (· == c) = false) →
      (∀ h' tk, (∀ b o, s.heap.get? b = some o → h'.get? b = some o) → Q (.ref b) { s with heap := h', toks := tk }) → wpAny W.M A (call (.ref a) (.ref b :: xs)) Q E s)
theorem Refused.perm {h : Heap} {cs cs' : List Str} {v : Value} (x : Refused h cs v) (k : ∀ c, c ∈ cs → c ∈ cs') : Refused h cs' v := by
  rcases x with ⟨h1, h2⟩ | ⟨b, l, n, e, hg, c, hc, h1⟩
  · refine .inl ⟨h1, fun q => ?_⟩
    subst q
    cases cs with
    | nil => exact h2 rfl
    | cons c r => exact absurd (k c List.mem_cons_self) (by simp)
  · exact .inr ⟨b, l, n, e, hg, c, k c hc, h1⟩
theorem esc_takes {W : Wd} (h : Is W) {dr : DefRec} {cs cs' : List Str} (hd : dr ∈ recsOf W.p) (F : EscF dr cs) (hc : ∀ c, c ∈ cs ↔ c ∈ cs') {f : Str} (hf : dr.name = f) : TakesV W 2 f [] cs' where
  get := by
    subst hf
    obtain ⟨a, hmg, hfo, h1⟩ := esc_refuses h hd F
    obtain ⟨a', hmg', _, h2⟩ := esc_same h hd F
    have e : a' = a := by
      rw [hmg] at hmg'
      cases hmg'; rfl
    subst e
    refine ⟨a', hmg, hfo, ?_, ?_⟩
    · intro A B outer s v T r E hl hB hfr hh Th hR hE
      exact h1 (d := 0) hl hB hfr hh Th (hR.perm fun c q => (hc c).mpr q) hE
    · intro A B outer s b l n Q E hl hB hfr hg hn hq
      exact h2 (d := 1) hl hB hfr hg (fun c q => hn c ((hc c).mp q)) hq
theorem esc_takes_all {W : Wd} (h : Is W) : ∀ k f, escNames[k]? = some f → TakesV W 2 f [] (signTs k) := by
  intro k f hf
  have hk : k < 5 := (List.getElem?_eq_some_iff.mp hf).1
  match k, hk with
  | 0, _ => cases hf; exact esc_takes h (rec_mem h (i := 6) (x := Str.ofString "_escape_cdata") (by rfl)) escF0 (fun c => by simp [signTs, signsOf]) rfl
  | 1, _ => cases hf; exact esc_takes h (rec_mem h (i := 7) (x := Str.ofString "_escape_attrib") (by rfl)) escF1 (fun c => by simp [signTs, signsOf]) rfl
  | 2, _ => cases hf; exact esc_takes h (rec_mem h (i := 8) (x := Str.ofString "_escape_attrib_html") (by rfl)) escF2 (fun c => by simp [signTs, signsOf]) rfl
  | 3, _ => cases hf; exact esc_takes h (rec_mem h (i := 9) (x := Str.ofString "_escape_cdata_c14n") (by rfl)) escF3 (fun c => by simp [signTs, signsOf]) rfl
  | 4, _ =>
    cases hf
    refine esc_takes h (rec_mem h (i := 10) (x := Str.ofString "_escape_attrib_c14n") (by rfl)) escF4 (fun c => ?_) rfl
    simp [signTs, signsOf]
    constructor <;> (intro h; rcases h with h | h | h | h | h | h <;> simp [h])

noncomputable def nmK : Str := Str.ofString "kind"
inductive WrB : Nat → List Stmt → List Str → Prop
  | last {j : Nat} {f : Str} {p1 p2 p3 p4 : Pos} : WrB j [.Return (some (.Call (.Name f p1) [.Name nmT p2] [] p3)) p4] [f]
  | cons {j : Nat} {f : Str} {p1 p2 p3 p4 p5 p6 p7 p8 : Pos} {k : Nat} {rest : List Stmt} {fs : List Str} (h : WrB (j + 1) rest fs) :
      WrB j (.If (.Compare (.Name nmK p5) [.Eq] [.Constant (.int (j : Nat)) k p6] p7) [.Return (some (.Call (.Name f p1) [.Name nmT p2] [] p3)) p4] [] p8 :: rest) (f :: fs)
theorem wrB : WrB 0 (drOf pr 11).body escNames := .cons (.cons (.cons (.cons .last)))
end Mine
namespace Mine

section
variable {W : Wd} {A : Around} {E : Value → Shared → Prop} {B : Heap} {L a : Addr} {m : Str → Option Value} {name : Str} {scope : Scope} {cd : Value}
theorem ret_call {s : Shared} {f : Str} {af : Addr} {o : Obj} {fd : FuncData} {v : Value} {p1 p2 p3 p4 : Pos} {rest : List Stmt} {Q : Flow → Shared → Prop} (F : Wk B L m s.heap) (htop : W.top.StaysIn B) (hk : scope.kind = .function) (hl : scope.names.lookup nmT = some .local) (hv : m nmT = some v)
    (hf : scope.names.lookup f = some .globalImplicit) (hfd : (f == ("__debug__" : Str)) = false) (hmg : W.mg f = some (.ref af)) (ho : W.top.get? af = some o) (hod : o.data = .func fd) (h : wpAny W.M A (call (.ref af) [v]) (fun u s' => Q (.ret u) s') E s) :
    wpAny W.M A (execs (.Return (some (.Call (.Name f p1) [.Name nmT p2] [] p3)) p4 :: rest) (envOf name scope L a cd)) Q E s := by
  refine wpAny_execs_cons (wpAny_Return_some (Call_name1 rfl (lgW F htop hk hf hfd hmg ?_)))
  refine Calls.callWith_function (o := o) (fd := fd) (Calls.evalArgs_plain (Calls.spliced_cons (ldW F hk hl (by decide +kernel) hv (Calls.spliced_nil ⟨⟨F.base _ _ (htop _ _ ho), hod⟩, ?_⟩))))
  exact h
theorem wrB_walk {v : Value} {t : Tok} {Q : Flow → Shared → Prop} (htop : W.top.StaysIn B) (hk : scope.kind = .function) (hl : scope.names.lookup nmT = some .local) (hlk : scope.names.lookup nmK = some .local) (hv : m nmT = some v) {j : Nat} {body : List Stmt} {fs : List Str} (hb : WrB j body fs) :
    ∀ {i : Nat} {f : Str} {s : Shared} {af : Addr} {o : Obj} {fd : FuncData}, fs[i]? = some f → (∀ f ∈ fs, scope.names.lookup f = some .globalImplicit ∧ (f == ("__debug__" : Str)) = false) → Wk B L m s.heap → m nmK = some (.int ((j + i : Nat) : Int) t) → W.mg f = some (.ref af) → W.top.get? af = some o → o.data = .func fd →
    (∀ tk, wpAny W.M A (call (.ref af) [v]) (fun u s' => Q (.ret u) s') E { s with toks := tk }) → wpAny W.M A (execs body (envOf name scope L a cd)) Q E s := by
  induction hb with
  | @last j f' p1 p2 p3 p4 =>
    intro i f s af o fd hi hg F hkv hmg ho hod h
    match i, hi with
    | 0, hi =>
      cases hi
      exact ret_call F htop hk hl hv (hg f' (by simp)).1 (hg f' (by simp)).2 hmg ho hod (h s.toks)
  | @cons j f' p1 p2 p3 p4 p5 p6 p7 p8 k rest fs hb ih =>
    intro i f s af o fd hi hg F hkv hmg ho hod h
    refine wpAny_execs_cons (wpAny_If (wpAny_isTrue_Compare1 ?_ rfl))
    refine ldW F hk hlk (by decide +kernel) hkv ?_
    rw [arm_eval_Constant]
    refine wpAny_mkInt ?_
    refine PyProof.Rows.eq_int ?_
    refine wpAny_truthy_bool ?_
    match i, hi with
    | 0, hi =>
      cases hi
      rw [if_pos (by simp)]
      exact ret_call (s := { s with toks := s.toks + 1 }) F htop hk hl hv (hg f' (by simp)).1 (hg f' (by simp)).2 hmg ho hod (h _)
    | i + 1, hi =>
      rw [if_neg (by simp; omega)]
      refine wpAny_execs_nil ?_
      refine ih (i := i) (s := { s with toks := s.toks + 1 }) (by simpa using hi) (fun f hm => hg f (List.mem_cons_of_mem _ hm)) F ?_ hmg ho hod fun tk => h tk
      rw [hkv]
      congr 2
      omega
end

theorem write_takes {W : Wd} (h : Is W) {k : Nat} (hk : k < 5) (t : Tok) : TakesV W 3 (Str.ofString "_law_write") [.int (k : Int) t] (signTs k) where
  get := by
    have hd := rec_mem h (i := 11) (x := Str.ofString "_law_write") (by rfl)
    obtain ⟨a, cd, hmg, hfo, hc⟩ := enter_lv (W := W) (dr := drOf pr 11) hd (by rfl) (by rfl) (by rfl) (by decide +kernel)
    obtain ⟨f, hf⟩ : ∃ f, escNames[k]? = some f := ⟨escNames[k], List.getElem?_eq_getElem hk⟩
    obtain ⟨af, hmf, ⟨o, fd, ho, hod⟩, h1, h2⟩ := (esc_takes_all h k f hf).get
    have hkind : (drOf pr 11).scope.kind = .function := by rfl
    have hg : ∀ f ∈ escNames, (drOf pr 11).scope.names.lookup f = some .globalImplicit ∧ (f == ("__debug__" : Str)) = false := by decide +kernel
    have hloc : ∀ v : Value, ∀ x ∈ [nmT, nmK].zip [v, .int (k : Int) t], (drOf pr 11).scope.names.lookup x.1 = some .local := by
      intro v x hx
      simp at hx
      rcases hx with rfl | rfl <;> rfl
    have hvT : ∀ v : Value, (fun x => List.lookup x ([nmT, nmK].zip [v, .int (k : Int) t]).reverse) nmT = some v := fun v => by
      have e : (nmT == nmK) = false := by decide +kernel
      simp [List.lookup_cons, e]
    have hvK : ∀ v : Value, (fun x => List.lookup x ([nmT, nmK].zip [v, .int (k : Int) t]).reverse) nmK = some (.int ((0 + k : Nat) : Int) t) := fun v => by
      simp [List.lookup_cons]
    refine ⟨a, hmg, hfo, ?_, ?_⟩
    · intro A B outer s v T r E hl hB hfr hh Th hR hE
      refine hc (d := 2) (names := [nmT, nmK]) hl hB hfr (fun pm doc => rfl) (hloc v) ?_
      intro h₁ hl1 hk1 hf1 F1
      refine wrB_walk (s := { s with heap := h₁, toks := _ }) hl.top hkind (by rfl) (by rfl) (hvT v) wrB hf hg F1 (hvK v) hmf ho hod fun tk => ?_
      refine wpAny_mono (h1 (s := { s with heap := h₁, toks := tk }) hl1 F1.base hf1 hh Th hR ?_) (fun _ _ f => f.elim) (fun _ _ e => e)
      intro h5 tk5 e2 t' u hfl htup hup
      refine wpAny_leaves_onW hl1.stack rfl hfl fun h7 hfl7 k7 => ?_
      exact hE h7 _ e2 t' u hfl7 (htup.of_slots k7) (((Heap.UpToSlots.of_keeps hk1).trans hup).trans k7)
    · intro A B outer s b l n Q E hl hB hfr hg' hn hq
      refine hc (d := 2) (names := [nmT, nmK]) hl hB hfr (fun pm doc => rfl) (hloc _) ?_
      intro h₁ hl1 hk1 hf1 F1
      refine wrB_walk (s := { s with heap := h₁, toks := _ }) hl.top hkind (by rfl) (by rfl) (hvT _) wrB hf hg F1 (hvK _) hmf ho hod fun tk => ?_
      exact h2 (s := { s with heap := h₁, toks := tk }) hl1 F1.base hf1 (hk1 _ _ hg') hn fun h' tk' hk' => hq h' tk' fun b o q => hk' b o (hk1 b o q)
end Mine
namespace Mine

theorem str_exc {prog : Program} {w : World} {A : Around} {E : Value → Shared → Prop} {s : Shared} {e t0 : Addr} {m : Str} {tk : Tok} {Q : Value → Shared → Prop} (x : s.heap.ExcAt e "TypeError" (.ref t0)) (ht : s.heap.TupAt t0 [.str m tk]) (hu : A.units + 3 < cLine) (hq : Q (.str m tk) s) :
    wpAny (model prog w) A (call (.type "str") [.ref e]) Q E s :=
  callType_new PySem.F.called_str (by decide) (PySem.F.typeCall_str_1 _) (PySem.F.newCall_str_1 _) (fun obj => PySem.F.args_object_init_2 obj _) PySem.F.entry_str_new
    (meets_str_new (S := fun A' R s' => A'.units + 1 < cLine ∧ s'.heap.ExcAt e "TypeError" (.ref t0) ∧ s'.heap.TupAt t0 [.str m tk] ∧ R (.ok (.ret (.str m tk))) s')
      fun prog' w' A' R s' h => strOf_exc_one PySem.F.excStr_TypeError (by show A'.units + 1 < cLine; exact h.1) h.2.1 h.2.2.1 h.2.2.2)
    ⟨by show A.units + 1 + 1 < cLine; omega, x, ht, typeIs_str _ _ _, hq⟩

noncomputable def nmTh : Str := Str.ofString "thing"
noncomputable def nmF : Str := Str.ofString "fault"
inductive HdB : List Stmt → Prop
  | mk {p1 p2 p3 p4 p5 p6 p7 p8 p9 p10 p11 p12 p13 : Pos} {kk : Nat} :
    HdB [.Try [.Return (some (.Call (.Name (Str.ofString "_law_write") p1) [.Name nmTh p2, .Name nmK p3] [] p4)) p5] [.ExceptHandler (some (.Name (Str.ofString "TypeError") p6)) (some nmF) [.Return (some (.Tuple [.Call (.Name (Str.ofString "str") p7) [.Name nmF p8] [] p9] kk p10)) p11] p12] [] [] p13]

section
variable {W : Wd} {A : Around} {E : Value → Shared → Prop} {B : Heap} {L a : Addr} {m : Str → Option Value} {name : Str} {scope : Scope} {cd : Value}
/-- the fault is caught, told, forgotten -/
theorem caught_told {s : Shared} {outer : List Env} {e t : Addr} {msg : Str} {u : Tok} {p6 p7 p8 p9 p10 p11 p12 : Pos} {kk : Nat} {Q : Flow → Shared → Prop} (hm1 : W.mg (Str.ofString "TypeError") = none ∧ W.mb (Str.ofString "TypeError") = some (.type "TypeError"))
    (hm2 : W.mg (Str.ofString "str") = none ∧ W.mb (Str.ofString "str") = some (.type "str")) (hfr : A.frames = some (envOf name scope L a cd :: outer)) (hu : A.units + 64 < cLine) (htop : W.top.StaysIn B) (hk : scope.kind = .function) (hls : scope.names.lookup (Str.ofString "str") = some .globalImplicit)
    (hlt : scope.names.lookup (Str.ofString "TypeError") = some .globalImplicit) (hlf : scope.names.lookup nmF = some .local) (hns : s.heap.Ns L m) (hfl : Heap.FlyingW B (envOf name scope L a cd :: outer) e (.type "TypeError") (.ref t) s.heap) (htup : s.heap.TupAt t [.str msg u])
    (hq : ∀ h' tk b n, B.StaysIn h' → (∀ c o, c ≠ L → s.heap.get? c = some o → (∀ vs, o.data ≠ .fields vs) → ∃ sl, h'.get? c = some { o with slots := sl }) → B.get? b = none → h'.get? b = some (tupObj [.str msg u] n) → Q (.ret (.ref b)) { s with heap := h', toks := tk }) :
    wpAny W.M A (noteFrame (.ref e) (envOf name scope L a cd)) (fun _ s₂ => wpAny W.M A (setFlight (.ref e) none) (fun _ s₃ => wpAny W.M A (handleBy (.ref e) (envOf name scope L a cd)
      (.ExceptHandler (some (.Name (Str.ofString "TypeError") p6)) (some nmF) [.Return (some (.Tuple [.Call (.Name (Str.ofString "str") p7) [.Name nmF p8] [] p9] kk p10)) p11] p12 :: [])) Q E s₃) E s₂) E s := by
  have hLB : B.get? L = none := by
    obtain ⟨_, ⟨L', _, hf, hn', _⟩, _⟩ := hfl.2.2.1
    obtain rfl : L = L' := Option.some.inj hf
    exact hn'
  refine wpAny_looks_onW hfr rfl hfl fun h1 hh1 k1 => ?_
  refine wpAny_landsW hh1 fun h2 hfl2 k2 => ?_
  have F2 : Wk B L m h2 := ⟨hfl2.1, (k1.trans k2).ns hns, hLB⟩
  obtain ⟨ob, hob, hobc⟩ := hfl2.there
  refine wpAny_handleBy_builtin_as (X := "TypeError") (T := "TypeError") (b := true) te_base te_notTuple te_sub ?_
  refine lbW (s := { s with heap := h2 }) F2 htop hk hlt (by decide +kernel) hm1.1 hm1.2 ⟨rfl, ⟨ob, hob, hobc⟩, ?_⟩
  rw [if_pos rfl]
  refine lands_againW (s := { s with heap := h2 }) hfl2 fun h3 hfl3 k3 => ?_
  have ns3 := k3.ns F2.ns
  have hpl : ((envOf name scope L a cd).scope.kind == .class || ((envOf name scope L a cd).scope.kind == .module && (envOf name scope L a cd).locals != (envOf name scope L a cd).globals)) = false := by
    show (scope.kind == .class || (scope.kind == .module && L != mainGlobals)) = false
    rw [hk]; rfl
  refine wpAny_storeName_local hlf ns3 (fun h4 hn4 hs4 => ?_) hpl
  have k03 := (k1.trans k2).trans k3
  obtain ⟨oe, ws, hoe, hoec, hoed, hoe0⟩ := hfl3.first
  obtain ⟨ot, nt, hot, hotc, hotd⟩ := htup.of_slots k03
  obtain ⟨oL, esL, epL, hoL, hdL, _⟩ := id ns3
  have hoL' : h3.get? L = some oL := hoL
  have neL : ∀ c o, h3.get? c = some o → (∀ es n, o.data ≠ .dict es n) → c ≠ L := by
    rintro c o q hd rfl
    rw [hoL'] at q
    cases q
    exact hd _ _ hdL
  have heL := neL e oe hoe (fun es n q => by rw [hoed] at q; cases q)
  have htL := neL t ot hot (fun es n q => by rw [hotd] at q; cases q)
  have keep4 : ∀ c o, c ≠ L → h3.get? c = some o → h4.get? c = some o := fun c o hc q => (hs4.2 c hc).trans q
  have B4 : B.StaysIn h4 := fun c o q => keep4 c o (by rintro rfl; rw [hLB] at q; cases q) (hfl3.1 c o q)
  have F4 : Wk B L _ h4 := ⟨B4, hn4, hLB⟩
  have x4 : h4.ExcAt e "TypeError" (.ref t) := ⟨oe, ws, keep4 _ _ heL hoe, hoec, hoed, hoe0⟩
  have t4 : h4.TupAt t [.str msg u] := ⟨ot, nt, keep4 _ _ htL hot, hotc, hotd⟩
  refine wpAny_execs_cons (wpAny_Return_some (Tuple_ (Calls.spliced_cons ?_)))
  refine Call_name1 rfl (lbW (s := { s with heap := h4, toks := _ }) F4 htop hk hls (by decide +kernel) hm2.1 hm2.2 ?_)
  refine callWith_type1 (ldW (v := .ref e) (s := { s with heap := h4, toks := _ }) F4 hk hlf (by decide +kernel) (by exact if_pos rfl) ?_)
  refine str_exc (s := { s with heap := h4, toks := _ }) x4 t4 (by show A.units + 3 < cLine; omega) ?_
  refine Calls.spliced_nil ?_
  refine wpAny_newObj_type ?_ (by show 1 ≤ sizeLine; have := sizeLine_eq; omega)
  have hLlt : L < h4.objs.size := hn4.lt
  refine wpAny_nameGoes (m := _) hlf (hn4.keeps fun c o q => Heap.get?_push_of_some _ q) hpl fun h6 m6 hn6 hs6 => ?_
  refine hq h6 _ _ 0 (fun c o q => ?_) (fun c o hc q hnf => ?_) ?_ ?_
  · have hcL : c ≠ L := by rintro rfl; rw [hLB] at q; cases q
    exact (hs6.2 c hcL).trans (Heap.get?_push_of_some _ (B4 c o q))
  · obtain ⟨sl, z⟩ := k03 c o q hnf
    exact ⟨sl, (hs6.2 c hc).trans (Heap.get?_push_of_some _ (keep4 _ _ hc z))⟩
  · exact Heap.StaysIn.fresh B4
  · exact (hs6.2 _ (Nat.ne_of_gt hLlt)).trans (Heap.get?_push_size _ rfl)
end
end Mine
namespace Mine

/-- `_law_handed`: the refusal told, or the very thing -/
structure Handed (W : Wd) (d k : Nat) : Prop where
  get : ∃ a, W.mg (Str.ofString "_law_handed") = some (.ref a) ∧ (∃ o fd, W.top.get? a = some o ∧ o.data = .func fd) ∧
    (∀ {A : Around} {B : Heap} {outer : List Env} {s : Shared} {v : Value} {T : String} {r : Str} {t : Tok} {Q : Value → Shared → Prop} {E : Value → Shared → Prop}, Lv W d A B outer → B.StaysIn s.heap → s.heap.FunFrames B outer → A.handled = none → Thing B v T r → Refused B (signTs k) v →
      (∀ h' tk b n u, B.StaysIn h' → s.heap.UpToSlots h' → B.get? b = none → h'.get? b = some (tupObj [.str (msgOf r (Str.ofString T)) u] n) → Q (.ref b) { s with heap := h', toks := tk }) → wpAny W.M A (call (.ref a) [v, .int (k : Int) t]) Q E s) ∧
    (∀ {A : Around} {B : Heap} {outer : List Env} {s : Shared} {b : Addr} {l : List (Str × Tok)} {n : Nat} {t : Tok} {Q : Value → Shared → Prop} {E : Value → Shared → Prop}, Lv W d A B outer → B.StaysIn s.heap → s.heap.FunFrames B outer → s.heap.get? b = some (lstObj (strValues l) n) → (∀ c ∈ signTs k, (l.map (·.1)).any (· == c) = false) →
      (∀ h' tk, (∀ b o, s.heap.get? b = some o → h'.get? b = some o) → Q (.ref b) { s with heap := h', toks := tk }) → wpAny W.M A (call (.ref a) [.ref b, .int (k : Int) t]) Q E s)

theorem handed_ok {W : Wd} (h : Is W) {k : Nat} (hk : k < 5) : Handed W 4 k where
  get := by
    have hd := rec_mem h (i := 17) (x := Str.ofString "_law_handed") (by rfl)
    obtain ⟨a, cd, hmg, hfo, hc⟩ := enter_lv (W := W) (dr := drOf pr 17) hd (by rfl) (by rfl) (by rfl) (by decide +kernel)
    have hkind : (drOf pr 17).scope.kind = .function := by rfl
    have hB : HdB (drOf pr 17).body := .mk
    have hm1 := bi_free h (x := Str.ofString "TypeError") (v := .type "TypeError") (by decide +kernel) (by decide +kernel) (by decide +kernel) (by decide +kernel) (by decide +kernel) (by decide +kernel) (by rfl)
    have hm2 := bi_free h (x := Str.ofString "str") (v := .type "str") (by decide +kernel) (by decide +kernel) (by decide +kernel) (by decide +kernel) (by decide +kernel) (by decide +kernel) (by rfl)
    have hlw : (drOf pr 17).scope.names.lookup (Str.ofString "_law_write") = some .globalImplicit := by rfl
    have hlth : (drOf pr 17).scope.names.lookup nmTh = some .local := by rfl
    have hlk : (drOf pr 17).scope.names.lookup nmK = some .local := by rfl
    have hls : (drOf pr 17).scope.names.lookup (Str.ofString "str") = some .globalImplicit := by rfl
    have hlt : (drOf pr 17).scope.names.lookup (Str.ofString "TypeError") = some .globalImplicit := by rfl
    have hlf : (drOf pr 17).scope.names.lookup nmF = some .local := by rfl
    have hloc : ∀ (v : Value) (t : Tok), ∀ x ∈ [nmTh, nmK].zip [v, .int (k : Int) t], (drOf pr 17).scope.names.lookup x.1 = some .local := by
      intro v t x hx
      simp at hx
      rcases hx with rfl | rfl <;> assumption
    have hvT : ∀ (v : Value) (t : Tok), (fun x => List.lookup x ([nmTh, nmK].zip [v, .int (k : Int) t]).reverse) nmTh = some v := fun v t => by
      have e : (nmTh == nmK) = false := by decide +kernel
      simp [List.lookup_cons, e]
    have hvK : ∀ (v : Value) (t : Tok), (fun x => List.lookup x ([nmTh, nmK].zip [v, .int (k : Int) t]).reverse) nmK = some (.int (k : Int) t) := fun v t => by simp
    have hbind : ∀ (v : Value) (t : Tok) pm doc, bindArgs (Calls.docDef (drOf pr 17).name (drOf pr 17).params (drOf pr 17).body (drOf pr 17).scope pm cd doc) ⟨[v, .int (k : Int) t], []⟩ = pure ([nmTh, nmK].zip [v, .int (k : Int) t]) := fun v t pm doc => rfl
    refine ⟨a, hmg, hfo, ?_, ?_⟩
    · intro A B outer s v T r t Q E hl hBs hfr hh Th hR hq
      refine hc (d := 3) (names := [nmTh, nmK]) hl hBs hfr (fun pm doc => hbind v t pm doc) (hloc v t) ?_
      intro h₁ hl1 hk1 hf1 F1
      obtain ⟨aw, hmw, ⟨o, fd, ho, hod⟩, h1, _⟩ := (write_takes h hk t).get
      have hv1 := hvT v t
      have hv2 := hvK v t
      generalize hL : s.heap.objs.size = L at *
      generalize (fun x => List.lookup x ([nmTh, nmK].zip [v, .int (k : Int) t]).reverse) = m at *
      generalize (drOf pr 17).body = body at *
      cases hB with
      | mk =>
      refine wpAny_execs_cons (wpAny_Try_except ?_)
      refine wpAny_execs_cons (wpAny_Return_some ?_)
      refine wpAny_Call_Name_kw (lgW (s := { s with heap := h₁, toks := _ }) F1 hl.top hkind hlw (by decide +kernel) hmw ?_)
      refine Calls.callWith_function (o := o) (fd := fd) (Calls.evalArgs_plain (Calls.spliced_cons ?_))
      refine ldW (s := { s with heap := h₁, toks := _ }) F1 hkind hlth (by decide +kernel) hv1 ?_
      refine Calls.spliced_cons ?_
      refine ldW (s := { s with heap := h₁, toks := _ }) F1 hkind hlk (by decide +kernel) hv2 ?_
      refine Calls.spliced_nil ⟨⟨F1.base _ _ (hl.top _ _ ho), hod⟩, ?_⟩
      refine wpAny_mono (h1 (s := { s with heap := h₁, toks := _ }) hl1 F1.base hf1 hh Th hR ?_) (fun _ _ f => f.elim) (fun _ _ e => e)
      intro h5 tk5 e2 t' u hfl htup hup
      refine caught_told (s := { s with heap := h5, toks := tk5 }) hm1 hm2 hl1.stack (by have := hl1.units; show _ < 9900; omega) hl.top hkind hls hlt hlf (hup.ns F1.ns) hfl htup ?_
      intro h' tk b n g1 g2 g3 g4
      refine hq h' tk b n u g1 (fun c o q hnf => ?_) g3 g4
      have hcL : c ≠ L := by
        rintro rfl
        exact absurd (Heap.lt_size q) (by rw [hL]; exact Nat.lt_irrefl _)
      obtain ⟨sl, z⟩ := hup c o (hk1 c o q) hnf
      obtain ⟨sl2, z2⟩ := g2 c _ hcL z hnf
      exact ⟨sl2, z2⟩
    · intro A B outer s b l n t Q E hl hBs hfr hg hn hq
      refine hc (d := 3) (names := [nmTh, nmK]) hl hBs hfr (fun pm doc => hbind _ t pm doc) (hloc _ t) ?_
      intro h₁ hl1 hk1 hf1 F1
      obtain ⟨aw, hmw, ⟨o, fd, ho, hod⟩, _, h2⟩ := (write_takes h hk t).get
      have hv1 := hvT (.ref b) t
      have hv2 := hvK (.ref b) t
      generalize hL : s.heap.objs.size = L at *
      generalize (fun x => List.lookup x ([nmTh, nmK].zip [Value.ref b, .int (k : Int) t]).reverse) = m at *
      generalize (drOf pr 17).body = body at *
      cases hB with
      | mk =>
      refine wpAny_execs_cons (wpAny_Try_except ?_)
      refine wpAny_execs_cons (wpAny_Return_some ?_)
      refine wpAny_Call_Name_kw (lgW (s := { s with heap := h₁, toks := _ }) F1 hl.top hkind hlw (by decide +kernel) hmw ?_)
      refine Calls.callWith_function (o := o) (fd := fd) (Calls.evalArgs_plain (Calls.spliced_cons ?_))
      refine ldW (s := { s with heap := h₁, toks := _ }) F1 hkind hlth (by decide +kernel) hv1 ?_
      refine Calls.spliced_cons ?_
      refine ldW (s := { s with heap := h₁, toks := _ }) F1 hkind hlk (by decide +kernel) hv2 ?_
      refine Calls.spliced_nil ⟨⟨F1.base _ _ (hl.top _ _ ho), hod⟩, ?_⟩
      exact h2 (s := { s with heap := h₁, toks := _ }) hl1 F1.base hf1 (hk1 _ _ hg) hn fun h' tk hk' => hq h' tk fun c o q => hk' c o (hk1 c o q)
end Mine
namespace Mine

theorem any_mem {l : List Str} {c : Str} : l.any (· == c) = true ↔ c ∈ l := by
  rw [List.any_eq_true]
  constructor
  · rintro ⟨x, hx, e⟩
    rw [beq_iff_eq] at e
    rwa [← e]
  · exact fun h => ⟨c, h, beq_self_eq_true c⟩

theorem signTs_ne {k : Nat} (hk : k < 5) : signTs k ≠ [] := by
  match k, hk with
  | 0, _ | 1, _ | 2, _ | 3, _ | 4, _ => exact List.cons_ne_nil _ _
theorem hand_ok {W : Wd} (h : Is W) : HandOK W 11 (Str.ofString "_law_handed") signTs msgOf where
  get := by
    obtain ⟨a, hmg, hfo, _⟩ := (handed_ok h (k := 0) (by decide)).get
    refine ⟨a, hmg, hfo, fun {A E s X env p v k t Kt Ks Q} hroom hfr hef hek F htop hX dv hk hw hq1 hq2 => ?_⟩
    obtain ⟨a', hmg', _, href, hsame⟩ := (handed_ok h hk).get
    have e : a' = a := by
      have e := hmg'.symm.trans hmg
      cases e; rfl
    subst e
    have hL : X env.locals := F.ex _ rfl
    obtain ⟨m, hns⟩ := F.ns _ rfl
    have hB : (hide s.heap [env.locals]).StaysIn s.heap := hide_stays fun b o e _ => e
    have hget : ∀ b, b ≠ env.locals → (hide s.heap [env.locals]).get? b = s.heap.get? b := fun b hb => hide_ne (by simpa using hb)
    have hnone : (hide s.heap [env.locals]).get? env.locals = none := hide_mem (by simp)
    have hlv : Lv W 4 A (hide s.heap [env.locals]) [env] := by
      refine ⟨?_, ?_, hroom.guards, hfr, fun b o e => ?_⟩
      · have := hroom.depth; omega
      · have := hroom.units; omega
      · rw [hget b (by rintro rfl; rw [F.top _ rfl] at e; cases e)]
        exact htop b o e
    have hff : s.heap.FunFrames (hide s.heap [env.locals]) [env] := .cons (by rw [hek]; decide) hef hns hnone trivial
    -- what is told
    have told : ∀ {T : String} {r : Str}, Thing (hide s.heap [env.locals]) v T r → Refused (hide s.heap [env.locals]) (signTs k) v → Kt (.tuple [.str (msgOf r (Str.ofString T))]) → (msgOf r (Str.ofString T)).length ≤ sizeLine → wpAny W.M A (call (.ref a') [v, .int (k : Int) t]) Q E s := by
      intro T r Th hR hK hlen
      refine href hlv hB hff hroom.handled Th hR fun h' tk b n u hst hup hbn hg => ?_
      have hns' := hup.ns hns
      have hbL : b ≠ env.locals := by
        rintro rfl
        obtain ⟨o, es, ep, ho, hd, _⟩ := hns'
        rw [hg] at ho
        cases ho
        cases hd
      rw [hget b hbL] at hbn
      have hbX : ¬ X b := fun q => by
        obtain ⟨o, e⟩ := hX b q
        rw [hbn] at e; cases e
      refine hq1 _ _ _ hK ⟨h', tk, rfl, fun c o e => ?_⟩ (mk_tuple (by have := sizeLine_eq; show 1 ≤ sizeLine; omega) hbX hg (.one (mk_str hlen)))
      by_cases hc : c = env.locals
      · subst hc
        obtain ⟨o', es, ep, ho, hd, _⟩ := hns
        rw [e] at ho
        cases ho
        exact ⟨fun q => absurd rfl q, hup _ _ e fun vs q => by rw [hd] at q; cases q⟩
      · have := hst c o (by rw [hget c hc]; exact e)
        exact ⟨fun _ => this, o.slots, this⟩
    have hne : signTs k ≠ [] := signTs_ne hk
    have e4 : (Str.ofString "None").length = 4 := by decide +kernel
    have e8 : (Str.ofString "NoneType").length = 8 := by decide +kernel
    have e1 : (Str.ofString "7").length = 1 := by decide +kernel
    have e3 : (Str.ofString "int").length = 3 := by decide +kernel
    have e4' : (Str.ofString "b'&'").length = 4 := by decide +kernel
    have e5 : (Str.ofString "bytes").length = 5 := by decide +kernel
    have e4'' : (Str.ofString "list").length = 4 := by decide +kernel
    have hsl := sizeLine_eq
    cases p with
    | none =>
      cases den_none dv
      exact told .none (.inl ⟨.none, hne⟩) hw (by rw [msg_len]; omega)
    | int i =>
      obtain ⟨rfl, hK⟩ := Ob.elim hw
      obtain ⟨t, rfl⟩ := den_int dv
      exact told (.seven t) (.inl ⟨.int _ _, hne⟩) hK (by rw [msg_len]; omega)
    | bytes b =>
      obtain ⟨rfl, hK⟩ := Ob.elim hw
      simp only [Den] at dv
      obtain ⟨t, rfl⟩ := dv
      exact told (.amp t) (.inl ⟨.bytes _ _, hne⟩) hK (by rw [msg_len]; omega)
    | list ps =>
      obtain ⟨l, rfl, hz, ht, hs⟩ := hw
      obtain ⟨hlen, a, us, n, rfl, hxa, hg, dl⟩ := den_list dv
      obtain ⟨ts, rfl, rfl⟩ := denL_strs dl
      have haL : a ≠ env.locals := by rintro rfl; exact hxa hL
      have hgB : (hide s.heap [env.locals]).get? a = some (lstObj (strValues ts) n) := by rw [hget a haL]; exact hg
      by_cases hc : ∃ c ∈ signTs k, c ∈ ts.map (·.1)
      · have hR : Refused (hide s.heap [env.locals]) (signTs k) (.ref a) := .inr ⟨a, ts, n, rfl, hgB, let ⟨c, h1, h2⟩ := hc; ⟨c, h1, any_mem.mpr h2⟩⟩
        have e : (ts.map (·.1)).map PyData.str = ts.map fun q => PyData.str q.1 := by rw [List.map_map]; rfl
        cases ts with
        | nil => obtain ⟨c, _, h2⟩ := hc; cases h2
        | cons x l =>
          have hK := ht hc
          rw [e] at hK hz
          exact told (.list hgB hz) hR hK (by rw [msg_len]; omega)
      · have hn : ∀ c ∈ signTs k, ¬ c ∈ ts.map (·.1) := fun c h1 h2 => hc ⟨c, h1, h2⟩
        refine hsame hlv hB hff hg (fun c h1 => ?_) fun h' tk hk' => hq2 _ (hs hn) (.of ⟨h', tk, rfl, hk'⟩)
        cases e : (ts.map (·.1)).any (· == c) with
        | false => rfl
        | true => exact absurd (any_mem.mp e) (hn c h1)
    | _ => exact False.elim hw
end Mine
namespace Mine

noncomputable def G13 : GC := { (((((((G0.with (Str.ofString "_substitution_cost") subSpec).with (Str.ofString "_levenshtein_distance") levSpec).with (Str.ofString "_law_write") writeSpec).with (Str.ofString "_law_table") tableSpec).with (Str.ofString "_law_spell") spellSpec).with (Str.ofString "_law_piece") pieceSpec).with (Str.ofString "_law_price") priceSpec).with (Str.ofString "_law_cost") costSpec with
  hand := some (Str.ofString "_law_handed", signTs, msgOf), pin := [Str.ofString "one"] }
theorem gok13 {W : Wd} (h : Is W) : GOk W 11 G13 := by
  have g := (((((((((gok0 h 11).with ((sub_ok h).up (by decide))).with ((lev_ok h).up (by decide))).with ((write_ok h).up (by decide))).with ((table_ok h).up (by decide))).with ((spell_ok h).up (by decide))).with ((piece_ok h).up (by decide))).with ((price_ok h).up (by decide))).with ((cost_ok h).up (by decide)))
  refine ⟨g.fn, g.const, g.bi, g.int, fun q e => ?_⟩
  cases e
  exact ⟨rfl, hand_ok h⟩
noncomputable def lawB (k : Nat) (σ : Loc) (K : PV → Prop) : Prop :=
  blockW (stepS G13 [Str.ofString "one", Str.ofString "two"] (EW G13 14).1 (EW G13 14).2 (BW G13 [Str.ofString "one", Str.ofString "two"] 14 5)) (drOf pr 18).scope.names ((drOf pr 18).body.drop k) σ (retK K)

noncomputable def tabF : PV → PV
  | .int k => .dict (tableOf k.toNat)
  | p => p
theorem five_items {p : PV} (h : p ∈ rangeItems 0 5 1) : ∃ k : Nat, k < 5 ∧ p = .int k := by
  have e : rangeItems 0 5 1 = [.int 0, .int 1, .int 2, .int 3, .int 4] := rfl
  rw [e] at h
  simp only [List.mem_cons, List.not_mem_nil, or_false] at h
  rcases h with rfl | rfl | rfl | rfl | rfl
  · exact ⟨0, by decide, rfl⟩
  · exact ⟨1, by decide, rfl⟩
  · exact ⟨2, by decide, rfl⟩
  · exact ⟨3, by decide, rfl⟩
  · exact ⟨4, by decide, rfl⟩

noncomputable def oddV : PV := .list [.tuple [.str (Str.ofString "cannot serialize None (type NoneType)")], .tuple [.str (Str.ofString "cannot serialize 7 (type int)")], .tuple [.str (Str.ofString "cannot serialize b'&' (type bytes)")]]
noncomputable def tabsV : PV := .list ((rangeItems 0 5 1).map tabF)
noncomputable def b6 (sv : PV) (ms : List Int) (bd : Int) (f g : Nat) : Loc := [(Str.ofString "script", .val sv), (Str.ofString "numbers", .val (.list (ms.map PV.int))), (Str.ofString "bound", .val (.int bd)), (Str.ofString "first", .val (.int f)), (Str.ofString "second", .val (.int g)),
  (Str.ofString "odd", .val oddV), (Str.ofString "tables", .val tabsV)]

noncomputable def b8 (sv : PV) (ms : List Int) (bd : Int) (f g : Nat) (o t : LV) : Loc := [(Str.ofString "script", .val sv), (Str.ofString "numbers", .val (.list (ms.map PV.int))), (Str.ofString "bound", .val (.int bd)), (Str.ofString "first", .val (.int f)), (Str.ofString "second", .val (.int g)),
  (Str.ofString "odd", .val oddV), (Str.ofString "tables", .val tabsV), (Str.ofString "one", o), (Str.ofString "two", t)]
noncomputable def b11 (sv : PV) (ms : List Int) (bd : Int) (f g : Nat) (o t : LV) (n pc d : PV) : Loc := [(Str.ofString "script", .val sv), (Str.ofString "numbers", .val (.list (ms.map PV.int))), (Str.ofString "bound", .val (.int bd)), (Str.ofString "first", .val (.int f)), (Str.ofString "second", .val (.int g)),
  (Str.ofString "odd", .val oddV), (Str.ofString "tables", .val tabsV), (Str.ofString "one", o), (Str.ofString "two", t), (Str.ofString "number", .val n), (Str.ofString "piece", .val pc), (Str.ofString "deed", .val d)]
noncomputable def tl (l : List Str) : List PV := l.map PV.str
noncomputable def rowI (sv : PV) (ms : List Int) (bd : Int) (f g : Nat) (i : Nat) (σ : Loc) : Prop := ∃ one two : List Str, one.length ≤ i ∧ two.length ≤ i ∧ (∀ p ∈ one, RowP p) ∧ (∀ p ∈ two, RowP p) ∧
  ((i = 0 ∧ σ = b8 sv ms bd f g (.own (tl one)) (.own (tl two))) ∨ ∃ n pc d, σ = b11 sv ms bd f g (.own (tl one)) (.own (tl two)) n pc d)
theorem tab_at {k : Nat} (h : k < 5) : itemAt ((rangeItems 0 5 1).map tabF) (k : Int) = some (.dict (tableOf k)) := by
  match k, h with
  | 0, _ | 1, _ | 2, _ | 3, _ | 4, _ => rfl
theorem six {d : Int} (h0 : 0 ≤ d) (h1 : d < 6) : d = 0 ∨ d = 1 ∨ d = 2 ∨ d = 3 ∨ d = 4 ∨ d = 5 := by
  obtain ⟨n, rfl⟩ := Int.eq_ofNat_of_zero_le h0
  have h : n < 6 := Int.ofNat_lt.mp h1
  match n, h with
  | 0, _ => exact .inl rfl
  | 1, _ => exact .inr (.inl rfl)
  | 2, _ => exact .inr (.inr (.inl rfl))
  | 3, _ => exact .inr (.inr (.inr (.inl rfl)))
  | 4, _ => exact .inr (.inr (.inr (.inr (.inl rfl))))
  | 5, _ => exact .inr (.inr (.inr (.inr (.inr rfl))))

noncomputable def forT (i : Nat) : Expr := match (drOf pr 18).body[i]? with
  | some st => (match st with | .For t _ _ _ _ => t | _ => .Constant .none 0 default)
  | none => .Constant .none 0 default
noncomputable def forB (i : Nat) : List Stmt := match (drOf pr 18).body[i]? with
  | some st => (match st with | .For _ _ b _ _ => b | _ => [])
  | none => []
theorem rowI_end {sv : PV} {ms : List Int} {bd : Int} {f g i : Nat} {L1 L2 : List PV} {n pc d : PV} (one two : List Str) (e1 : L1 = tl one) (e2 : L2 = tl two) (h1 : one.length ≤ i) (h2 : two.length ≤ i) (h3 : ∀ p ∈ one, RowP p) (h4 : ∀ p ∈ two, RowP p) :
    rowI sv ms bd f g i (b11 sv ms bd f g (.own L1) (.own L2) n pc d) := ⟨one, two, h1, h2, h3, h4, .inr ⟨n, pc, d, by rw [e1, e2]⟩⟩
theorem tl_snoc (l : List Str) (p : Str) : tl l ++ [PV.str p] = tl (l ++ [p]) := by unfold tl; rw [List.map_append]; rfl
theorem all_snoc {P : Str → Prop} {l : List Str} {p : Str} (h : ∀ q ∈ l, P q) (hp : P p) : ∀ q ∈ l ++ [p], P q := fun q hq => (List.mem_append.mp hq).elim (h q) fun e => by rw [List.mem_singleton.mp e]; exact hp

set_option maxHeartbeats 4000000 in
theorem turn_ok (sv : PV) (ms : List Int) (bd : Int) (f g : Nat) (hf : f < 5) (i : Nat) (hi : i < 5) (n : Int) (σ : Loc) (hσ : rowI sv ms bd f g i σ) (X : FP → Loc → Prop) (hX : ∀ σ', rowI sv ms bd f g (i + 1) σ' → X .next σ') :
    targetW (drOf pr 18).scope.names (keepN (b8 sv ms bd f g (.own []) (.own [])) σ) (forT 8) (.int n) fun σ' => BW G13 [Str.ofString "one", Str.ofString "two"] 14 5 (drOf pr 18).scope.names (forB 8) σ' X := by
  obtain ⟨one, two, h1, h2, h3, h4, hσ⟩ := hσ
  have hsz := sizeLine_eq
  have hl1 : (tl one).length < sizeLine := by unfold tl; rw [List.length_map]; omega
  have hl2 : (tl two).length < sizeLine := by unfold tl; rw [List.length_map]; omega
  have hl3 : 2 ≤ sizeLine := by omega
  have hσ : keepN (b8 sv ms bd f g (.own []) (.own [])) σ = b8 sv ms bd f g (.own (tl one)) (.own (tl two)) := by
    rcases hσ with ⟨_, rfl⟩ | ⟨n', pc, d, rfl⟩ <;> rfl
  rw [hσ]
  · conv => whnf
    refine Ob.intro (by decide) ?_
    conv => whnf
    intro p hp
    conv => whnf
    refine Ob.intro (by decide) ?_
    have d0 := Int.fmod_nonneg_of_pos n (b := 6) (by decide)
    have d1 := Int.fmod_lt_of_pos n (b := 6) (by decide)
    generalize n.fmod 6 = d at *
    have hpl := hp.len
    have hp1 := RowP.of_piece hp
    have hp2 := RowP.of_swap hp
    have hp3 := RowP.of_wr (kd5 hf) hp
    have hpo : (Txt.swapcase p).length ≤ sizeLine := by
      have h1 := hp2.len
      rw [len_cpl]
      omega
    have hpc : (cpl p).length ≤ 1000 := by omega
    have g1 : (one ++ [p]).length ≤ i + 1 := by simp; omega
    have g2 : ∀ q : Str, (two ++ [q]).length ≤ i + 1 := fun q => by simp; omega
    rcases six d0 d1 with rfl | rfl | rfl | rfl | rfl | rfl
    all_goals
      conv => whnf
      repeat (first | (refine Br.tt ?_; conv => whnf) | (refine Br.ff ?_; conv => whnf) | (refine Ob.intro hl1 ?_; conv => whnf) | (refine Ob.intro hl2 ?_; conv => whnf) | (refine Ob.intro hl3 ?_; conv => whnf) | (refine Ob.intro hpo ?_; conv => whnf) | (refine Ob.intro ⟨rfl, hl2⟩ ?_; conv => whnf) | (refine Ex.intro _ (tab_at hf) ?_; conv => whnf) | (refine ⟨f, rfl, hpc, ?_⟩; conv => whnf) | (refine Ex.intro _ rfl ?_; conv => whnf))
    · exact hX _ (rowI_end (one ++ [p]) (two ++ [p]) (tl_snoc _ _) (tl_snoc _ _) g1 (g2 p) (all_snoc h3 hp1) (all_snoc h4 hp1))
    · exact hX _ (rowI_end (one ++ [p]) two (tl_snoc _ _) rfl g1 (Nat.le_succ_of_le h2) (all_snoc h3 hp1) h4)
    · exact hX _ (rowI_end one (two ++ [p]) rfl (tl_snoc _ _) (Nat.le_succ_of_le h1) (g2 p) h3 (all_snoc h4 hp1))
    · exact hX _ (rowI_end (one ++ [p]) (two ++ [Txt.swapcase p]) (tl_snoc _ _) (tl_snoc _ _) g1 (g2 _) (all_snoc h3 hp1) (all_snoc h4 hp2))
    · exact hX _ (rowI_end (one ++ [p]) (two ++ [wr f p]) (tl_snoc _ _) (tl_snoc _ _) g1 (g2 _) (all_snoc h3 hp1) (all_snoc h4 hp3))
    · exact hX _ (rowI_end (one ++ [p]) (p :: two) (tl_snoc _ _) rfl g1 (Nat.succ_le_succ h2) (all_snoc h3 hp1) fun q hq => (List.mem_cons.mp hq).elim (fun e => e ▸ hp1) (h4 q))

theorem take5 {α : Type} {xs : List α} (h : 5 ≤ xs.length) : (sliceL xs none (some 5) none).length = 5 := by
  rw [sliceL_plain]
  have e : clipAt xs.length 5 = 5 := (clipAt_nat xs.length 5).trans (Nat.min_eq_left h)
  simp only [Option.elim, List.drop_zero, Nat.sub_zero, e, List.length_take, Nat.min_eq_left h]

end Mine
namespace Mine

/-- the two rows -/
structure Rows2 (one two : List Str) : Prop where
  l1 : one.length ≤ 5
  l2 : two.length ≤ 5
  a1 : ∀ p ∈ one, RowP p
  a2 : ∀ p ∈ two, RowP p
theorem rowP_up {p : Str} (h : RowP p) : (Txt.upper p).length ≤ sizeLine := by
  have h1 := len_upper p
  have h2 := len_cpl p
  have h3 := h.len
  have hsz := sizeLine_eq
  omega
theorem rowP_ok {a : List Str} (hl : a.length ≤ 5) (h : ∀ p ∈ a, RowP p) : RowOk a := row_ok (by omega) fun p hp => ⟨.inl (h p hp).asc, Nat.le_trans (h p hp).len (by decide)⟩
theorem Rows2.ok1 {one two : List Str} (R : Rows2 one two) : RowOk one := rowP_ok R.l1 R.a1
theorem Rows2.ok2 {one two : List Str} (R : Rows2 one two) : RowOk two := rowP_ok R.l2 R.a2
theorem Rows2.up1 {one two : List Str} (R : Rows2 one two) : ∀ x ∈ one, (Txt.upper x).length ≤ sizeLine := fun x hx => rowP_up (R.a1 x hx)
theorem Rows2.up2 {one two : List Str} (R : Rows2 one two) : ∀ x ∈ two, (Txt.upper x).length ≤ sizeLine := fun x hx => rowP_up (R.a2 x hx)
theorem Rows2.cost {one two : List Str} (R : Rows2 one two) : D priceU one two = D subC one two := cost_is (fun p hp => .inl (R.a1 p hp).asc) fun p hp => .inl (R.a2 p hp).asc
theorem wr_row {a : List Str} {k : Nat} (hk : k < 5) (hl : a.length ≤ 5) (h : ∀ p ∈ a, RowP p) : RowOk (a.map (wr k)) := row_ok (by rw [List.length_map]; omega) fun p hp => by
  obtain ⟨q, hq, rfl⟩ := List.mem_map.mp hp
  refine ⟨.inl (wr_asc (kd5 hk) (h q hq).asc), ?_⟩
  have h1 := escL_le k (cpl q)
  have h2 := (h q hq).len
  rw [wr, cpl_mk]
  omega

noncomputable def k12 (sv : PV) (ms : List Int) (bd : Int) (f g : Nat) (o : LV) (one two : List Str) (n pc d : PV) (br du : Int) (tail : Loc) : Loc := (Str.ofString "script", .val sv) :: (Str.ofString "numbers", .val (.list (ms.map PV.int))) :: (Str.ofString "bound", .val (.int bd)) :: (Str.ofString "first", .val (.int f)) :: (Str.ofString "second", .val (.int g)) ::
  (Str.ofString "odd", .val oddV) :: (Str.ofString "tables", .val tabsV) :: (Str.ofString "one", o) :: (Str.ofString "two", .val (tx two)) :: (Str.ofString "number", .val n) :: (Str.ofString "piece", .val pc) :: (Str.ofString "deed", .val d) :: (Str.ofString "kept", .val (.list [tx one, tx two])) ::
  (Str.ofString "bare", .val (.int br)) :: (Str.ofString "due", .val (.int du)) :: tail
noncomputable def loneF (k : Nat) : PV → Option PV
  | .str x => if x ∈ signTs k then some (.str x) else none
  | _ => none
noncomputable def wrF (k : Nat) : PV → PV
  | .str x => .str (wr k x)
  | p => p
theorem wrF_map (k : Nat) (l : List Str) : (tl l).map (wrF k) = tl (l.map (wr k)) := by
  unfold tl
  rw [List.map_map, List.map_map]
  rfl
noncomputable def kB (j : Nat) (σ : Loc) (X : FP → Loc → Prop) : Prop :=
  blockW (stepS G13 [Str.ofString "one", Str.ofString "two"] (EW G13 14).1 (EW G13 14).2 (BW G13 [Str.ofString "one", Str.ofString "two"] 14 4)) (drOf pr 18).scope.names ((forB 13).drop j) σ X
noncomputable def dd (u : List Str) : PyData := .list (u.map PyData.str)
theorem py2 (u v : List Str) : pyOf (.list [tx u, tx v]) = some (.list [dd u, dd v]) := by
  simp only [pyOf, pyOfs, tx, pyOfs_strs, dd]
theorem fit2 {u v : List Str} (hu : RowOk u) (hv : RowOk v) : (PyData.list [dd u, dd v]).canLay0 = true ∧ (PyData.list [dd u, dd v]).depth ≤ 16 := by
  refine ⟨?_, ?_⟩
  · simp only [PyData.canLay0, PyData.canLayAll0, dd, can_strs hu.ok, can_strs hv.ok, Bool.and_self]
  · simp only [PyData.depth, PyData.depthAll, dd, depth_strs]; decide
theorem same2 (u v : List Str) : PyData.eqv (.list [dd u, dd v]) (.list [dd u, dd v]) = true := by
  simp only [PyData.eqv, PyData.eqvAll, dd, eqv_strs, decide_true, Bool.and_self]
noncomputable def oddP : PyData := .list [.tuple [.str (Str.ofString "cannot serialize None (type NoneType)")], .tuple [.str (Str.ofString "cannot serialize 7 (type int)")], .tuple [.str (Str.ofString "cannot serialize b'&' (type bytes)")]]
theorem odd_msg : PyData.list [.tuple [.str (msgOf (Str.ofString "None") (Str.ofString "NoneType"))], .tuple [.str (msgOf (Str.ofString "7") (Str.ofString "int"))], .tuple [.str (msgOf (Str.ofString "b'&'") (Str.ofString "bytes"))]] = oddP := by
  have e1 : msgOf (Str.ofString "None") (Str.ofString "NoneType") = Str.ofString "cannot serialize None (type NoneType)" := by decide +kernel
  have e2 : msgOf (Str.ofString "7") (Str.ofString "int") = Str.ofString "cannot serialize 7 (type int)" := by decide +kernel
  have e3 : msgOf (Str.ofString "b'&'") (Str.ofString "bytes") = Str.ofString "cannot serialize b'&' (type bytes)" := by decide +kernel
  rw [e1, e2, e3]; rfl
theorem odd_fit : oddP.canLay0 = true ∧ oddP.canLay0 = true ∧ oddP.depth ≤ 16 := ⟨by decide +kernel, by decide +kernel, by decide +kernel⟩
theorem odd_same : PyData.eqv oddP oddP = true := by decide +kernel
noncomputable def t1 (k : Nat) : Loc := [(Str.ofString "kind", .val (.int k))]
noncomputable def t3 (k : Nat) (one two : List Str) : Loc := [(Str.ofString "kind", .val (.int k)), (Str.ofString "ones", .val (tx (one.map (wr k)))), (Str.ofString "twos", .val (tx (two.map (wr k))))]

set_option maxHeartbeats 4000000 in
theorem kturn_0 (sv : PV) (ms : List Int) (bd : Int) (f g : Nat) (a : Nat) (one two : List Str) (n pc d : PV) (br du : Int) (k : Nat) (X : FP → Loc → Prop) (hk : k < 5) (R : Rows2 one two)
    (hx : kB 2 (k12 sv ms bd f g (.is (.ref a) (tx one)) one two n pc d br du (t3 k one two)) X) :
    kB 0 (k12 sv ms bd f g (.is (.ref a) (tx one)) one two n pc d br du (t1 k)) X := by
  have hsz := sizeLine_eq
  conv at hx => whnf
  conv => whnf
  refine loop_map (wrF k) (fun p hp Y hY => ?_) ?_
  · obtain ⟨q, hq, rfl⟩ := List.mem_map.mp hp
    have hql := (R.a1 q hq).len
    conv => whnf
    refine ⟨⟨by omega, by omega, by omega⟩, ?_⟩
    exact hY
  rw [List.nil_append]
  rw [show List.map PV.str one = tl one from rfl, wrF_map]
  conv => whnf
  refine loop_map (wrF k) (fun p hp Y hY => ?_) ?_
  · obtain ⟨q, hq, rfl⟩ := List.mem_map.mp hp
    have hql := (R.a2 q hq).len
    conv => whnf
    refine ⟨⟨by omega, by omega, by omega⟩, ?_⟩
    exact hY
  rw [List.nil_append]
  rw [show List.map PV.str two = tl two from rfl, wrF_map]
  conv => whnf
  exact hx

set_option maxHeartbeats 4000000 in
theorem kturn_2 (sv : PV) (ms : List Int) (bd : Int) (f g : Nat) (a : Nat) (one two : List Str) (n pc d : PV) (br du : Int) (k : Nat) (X : FP → Loc → Prop) (hk : k < 5) (R : Rows2 one two) (hbr : levR one two bd = br)
    (hx : kB 4 (k12 sv ms bd f g (.is (.ref a) (tx one)) one two n pc d br du (t3 k one two)) X) :
    kB 2 (k12 sv ms bd f g (.is (.ref a) (tx one)) one two n pc d br du (t3 k one two)) X := by
  have hsz := sizeLine_eq
  conv at hx => whnf
  conv => whnf
  refine Ob.intro (by show 2 ≤ sizeLine; omega) ?_
  conv => whnf
  refine Lp.mk ?_
  conv => whnf
  refine Br.tt ?_
  conv => whnf
  refine loop_map (wrF k) (fun p hp Y hY => ?_) ?_
  · obtain ⟨q, hq, rfl⟩ := List.mem_map.mp hp
    have hql := (R.a1 q hq).len
    conv => whnf
    refine Ex.intro _ (tab_at hk) ?_
    conv => whnf
    refine ⟨k, rfl, by omega, ?_⟩
    exact hY
  rw [List.nil_append, show List.map PV.str one = tl one from rfl, wrF_map]
  conv => whnf
  refine Br.tt ?_
  conv => whnf
  refine loop_map (wrF k) (fun p hp Y hY => ?_) ?_
  · obtain ⟨q, hq, rfl⟩ := List.mem_map.mp hp
    have hql := (R.a2 q hq).len
    conv => whnf
    refine Ex.intro _ (tab_at hk) ?_
    conv => whnf
    refine ⟨k, rfl, by omega, ?_⟩
    exact hY
  rw [List.nil_append, show List.map PV.str two = tl two from rfl, wrF_map]
  have w1 := wr_row hk R.l1 R.a1
  have w2 := wr_row hk R.l2 R.a2
  conv => whnf
  refine Ex.intro _ (py2 _ _) ?_
  conv => whnf
  refine Ex.intro _ (py2 _ _) ?_
  conv => whnf
  refine Ob.intro ⟨(fit2 w1 w2).1, (fit2 w1 w2).1, (fit2 w1 w2).2⟩ ?_
  rw [same2]
  conv => whnf
  refine Br.ff ?_
  conv => whnf
  refine ⟨one.map (wr k), two.map (wr k), ⟨rfl, rfl, w1, w2⟩, ?_⟩
  rw [rows_written (kd5 hk) (fun p hp => (R.a1 p hp).asc) (fun p hp => (R.a2 p hp).asc), hbr]
  conv => whnf
  refine Br.intro (fun e => by simp at e) (fun _ => ?_)
  conv => whnf
  exact hx

theorem keys_table (k : Nat) : (tableOf k).map (fun x => x.1) = signTs k := by
  unfold tableOf signTs
  rw [List.map_map]
  rfl
noncomputable def loneL (k : Nat) (one : List Str) : List Str := one.filter fun x => decide (x ∈ signTs k)
theorem lone_map (k : Nat) : ∀ l : List Str, (tl l).filterMap (loneF k) = tl (loneL k l)
  | [] => rfl
  | x :: l => by
    have ih := lone_map k l
    unfold tl loneL at ih ⊢
    rw [List.map_cons, List.filterMap_cons, List.filter_cons]
    by_cases h : x ∈ signTs k
    · simp only [loneF, h, if_true, decide_true, List.map_cons, ih]
    · simp only [loneF, h, if_false, decide_false, Bool.false_eq_true, ih]
theorem lone_nil {k : Nat} {one : List Str} (h : ∀ c ∈ signTs k, ¬ c ∈ one) : loneL k one = [] := by
  unfold loneL
  rw [List.filter_eq_nil_iff]
  exact fun x hx e => h x (of_decide_eq_true e) hx
theorem lone_some {k : Nat} {one : List Str} (h : ∃ c ∈ signTs k, c ∈ one) : loneL k one ≠ [] := by
  obtain ⟨c, h1, h2⟩ := h
  intro e
  unfold loneL at e
  rw [List.filter_eq_nil_iff] at e
  exact e c h2 (decide_eq_true h1)
noncomputable def t5 (k : Nat) (one two : List Str) (told : LV) (lone : List Str) : Loc := [(Str.ofString "kind", .val (.int k)), (Str.ofString "ones", .val (tx (one.map (wr k)))), (Str.ofString "twos", .val (tx (two.map (wr k)))), (Str.ofString "told", told), (Str.ofString "lone", .val (tx lone))]
noncomputable def toldT (one : List Str) : PV := .tuple [.str (msgOf (PyData.list (one.map PyData.str)).shown (Str.ofString "list"))]

set_option maxHeartbeats 4000000 in
theorem kturn_6a (sv : PV) (ms : List Int) (bd : Int) (f g : Nat) (a : Nat) (one two : List Str) (n pc d : PV) (br du : Int) (k : Nat) (X : FP → Loc → Prop) (hk : k < 5) (R : Rows2 one two) (L : List Str) (hL : L ≠ []) (hLo : RowOk L)
    (hx : kB 7 (k12 sv ms bd f g (.is (.ref a) (tx one)) one two n pc d br du (t5 k one two (.val (toldT one)) L)) X) :
    kB 6 (k12 sv ms bd f g (.is (.ref a) (tx one)) one two n pc d br du (t5 k one two (.val (toldT one)) L)) X := by
  have hsz := sizeLine_eq
  conv at hx => whnf
  have hdl : PyData.eqv (.list (L.map PyData.str)) (.list []) = false := by
    have := eqv_strs L []
    simp only [PyData.eqv]
    rw [show ([] : List PyData) = List.map PyData.str [] from rfl, this]
    exact decide_eq_false hL
  have hcan : (PyData.list (L.map PyData.str)).canLay0 = true ∧ (PyData.list []).canLay0 = true ∧ (PyData.list (L.map PyData.str)).depth ≤ 16 := by
    refine ⟨by simp only [PyData.canLay0]; exact can_strs hLo.ok, by decide, by simp only [PyData.depth, depth_strs]; decide⟩
  conv => whnf
  refine Ob.intro (by show 0 ≤ sizeLine; omega) ?_
  conv => whnf
  refine Ex.intro _ (pyOf_strs L) ?_
  conv => whnf
  refine Ex.intro _ rfl ?_
  conv => whnf
  refine Ob.intro hcan ?_
  rw [hdl]
  conv => whnf
  refine Br.ff ?_
  conv => whnf
  refine Br.ff ?_
  conv => whnf
  refine Ob.intro (by show 0 ≤ sizeLine; omega) ?_
  conv => whnf
  refine Ex.intro _ (pyOf_strs L) ?_
  conv => whnf
  refine Ex.intro _ rfl ?_
  conv => whnf
  refine Ob.intro hcan ?_
  rw [hdl]
  conv => whnf
  refine Br.tt ?_
  conv => whnf
  refine Ex.intro _ rfl ?_
  conv => whnf
  refine Ex.intro _ (pyOf_strs one) ?_
  conv => whnf
  have hsh := rows_shown R.l1 R.a1
  refine Ob.intro ⟨by simp only [PyData.showable]; exact (showable_strs one).1, by simp only [PyData.hasDict]; exact (showable_strs one).2, by simp only [PyData.depth, depth_strs]; decide, by omega⟩ ?_
  conv => whnf
  have c1 : (Str.ofString "cannot serialize ").length = 17 := by decide +kernel
  have c2 : (Str.ofString " (type list)").length = 12 := by decide +kernel
  refine Ob.intro (by omega) ?_
  conv => whnf
  refine Ob.intro (by rw [strLen_append]; omega) ?_
  conv => whnf
  refine Ob.intro (by show 1 ≤ sizeLine; omega) ?_
  conv => whnf
  refine Ex.intro (.tuple [.str (msgOf (PyData.list (one.map PyData.str)).shown (Str.ofString "list"))]) rfl ?_
  conv => whnf
  refine Ex.intro (.tuple [.str (msgOf (PyData.list (one.map PyData.str)).shown (Str.ofString "list"))]) (by rw [msg_eq]; rfl) ?_
  conv => whnf
  have hok : PyData.strOk (msgOf (PyData.list (one.map PyData.str)).shown (Str.ofString "list")) = true := strOk_fine (.inl (by rw [msg_eq]; exact msg_asc (shown_asc fun p hp => (R.a1 p hp).asc)))
  refine Ob.intro ⟨by simp only [PyData.canLay0, PyData.canLayAll0, hok]; rfl, by simp only [PyData.canLay0, PyData.canLayAll0, hok]; rfl, by simp only [PyData.depth, PyData.depthAll]; decide⟩ ?_
  conv => whnf
  refine Br.intro (fun e => by simp [PyData.eqv, PyData.eqvAll] at e) (fun _ => ?_)
  conv => whnf
  refine Br.ff ?_
  conv => whnf
  refine Br.ff ?_
  conv => whnf
  exact hx

set_option maxHeartbeats 4000000 in
theorem kturn_6b (sv : PV) (ms : List Int) (bd : Int) (f g : Nat) (a : Nat) (one two : List Str) (n pc d : PV) (br du : Int) (k : Nat) (X : FP → Loc → Prop) (hk : k < 5) (R : Rows2 one two)
    (hx : kB 7 (k12 sv ms bd f g (.is (.ref a) (tx one)) one two n pc d br du (t5 k one two (.is (.ref a) (tx one)) [])) X) :
    kB 6 (k12 sv ms bd f g (.is (.ref a) (tx one)) one two n pc d br du (t5 k one two (.is (.ref a) (tx one)) [])) X := by
  have hsz := sizeLine_eq
  conv at hx => whnf
  have hcan : (PyData.list []).canLay0 = true ∧ (PyData.list []).canLay0 = true ∧ (PyData.list []).depth ≤ 16 := ⟨by decide, by decide, by decide⟩
  conv => whnf
  refine Ob.intro (by show 0 ≤ sizeLine; omega) ?_
  conv => whnf
  refine Ex.intro _ rfl ?_
  conv => whnf
  refine Ex.intro _ rfl ?_
  conv => whnf
  refine Ob.intro hcan ?_
  conv => whnf
  refine Br.tt ?_
  conv => whnf
  refine Ob.intro rfl ?_
  conv => whnf
  refine Br.ff ?_
  conv => whnf
  refine Br.ff ?_
  conv => whnf
  refine Ob.intro (by show 0 ≤ sizeLine; omega) ?_
  conv => whnf
  refine Ex.intro _ rfl ?_
  conv => whnf
  refine Ex.intro _ rfl ?_
  conv => whnf
  refine Ob.intro hcan ?_
  conv => whnf
  refine Br.ff ?_
  conv => whnf
  refine Br.ff ?_
  conv => whnf
  refine Br.ff ?_
  conv => whnf
  exact hx

set_option maxHeartbeats 4000000 in
theorem kturn_4 (sv : PV) (ms : List Int) (bd : Int) (f g : Nat) (a : Nat) (one two : List Str) (n pc d : PV) (br du : Int) (k : Nat) (X : FP → Loc → Prop) (hk : k < 5) (R : Rows2 one two)
    (hx : ∀ told L, ((∃ p, told = .val p) ∨ told = .is (.ref a) (tx one)) → kB 7 (k12 sv ms bd f g (.is (.ref a) (tx one)) one two n pc d br du (t5 k one two told L)) X) :
    kB 4 (k12 sv ms bd f g (.is (.ref a) (tx one)) one two n pc d br du (t3 k one two)) X := by
  have hsz := sizeLine_eq
  conv => whnf
  refine Ob.intro ⟨by omega, by omega⟩ ?_
  refine HandL.mk one rfl (rows_shown R.l1 R.a1) (fun hc => ?_) (fun hn => ?_)
  · have h := kturn_6a sv ms bd f g a one two n pc d br du k X hk R (loneL k one) (lone_some hc) (R.ok1.sub (List.length_filter_le _ _) fun x hx => (List.mem_filter.mp hx).1) (hx _ _ (.inl ⟨_, rfl⟩))
    conv at h => whnf
    conv => whnf
    refine Ex.intro _ rfl ?_
    conv => whnf
    refine loop_of (loneF k) (fun p hp Y Z hY => ?_) ?_
    · obtain ⟨q, hq, rfl⟩ := List.mem_map.mp hp
      conv => whnf
      refine Ex.intro _ (tab_at hk) ?_
      conv => whnf
      rw [keys_table]
      refine Br.intro (fun e => ?_) (fun e => ?_)
      · simp only [loneF, any_mem.mp e, if_true] at hY
        conv => whnf
        exact hY
      · have hq : ¬ q ∈ signTs k := fun hm => by rw [any_mem.mpr hm] at e; cases e
        simp only [loneF, hq, if_false] at hY
        conv => whnf
        exact hY
    rw [List.nil_append, show List.map PV.str one = tl one from rfl, lone_map]
    conv => whnf
    exact h
  · have h := kturn_6b sv ms bd f g a one two n pc d br du k X hk R (hx _ _ (.inr rfl))
    conv at h => whnf
    conv => whnf
    refine Ex.intro _ rfl ?_
    conv => whnf
    refine loop_of (loneF k) (fun p hp Y Z hY => ?_) ?_
    · obtain ⟨q, hq, rfl⟩ := List.mem_map.mp hp
      conv => whnf
      refine Ex.intro _ (tab_at hk) ?_
      conv => whnf
      rw [keys_table]
      refine Br.intro (fun e => ?_) (fun e => ?_)
      · simp only [loneF, any_mem.mp e, if_true] at hY
        conv => whnf
        exact hY
      · have hq : ¬ q ∈ signTs k := fun hm => by rw [any_mem.mpr hm] at e; cases e
        simp only [loneF, hq, if_false] at hY
        conv => whnf
        exact hY
    have hn' : loneL k one = [] := lone_nil (k := k) hn
    rw [List.nil_append, show List.map PV.str one = tl one from rfl, lone_map, hn']
    conv => whnf
    exact h

set_option maxHeartbeats 4000000 in
theorem kturn_7 (sv : PV) (ms : List Int) (bd : Int) (f g : Nat) (a : Nat) (one two : List Str) (n pc d : PV) (br du : Int) (k : Nat) (X : FP → Loc → Prop) (hk : k < 5) (R : Rows2 one two) (told : LV) (L : List Str) (ht : (∃ p, told = .val p) ∨ told = .is (.ref a) (tx one))
    (hx : X .next (k12 sv ms bd f g (.is (.ref a) (tx one)) one two n pc d br du (t5 k one two told L))) :
    kB 7 (k12 sv ms bd f g (.is (.ref a) (tx one)) one two n pc d br du (t5 k one two told L)) X := by
  have hsz := sizeLine_eq
  rcases ht with ⟨p, rfl⟩ | rfl
  all_goals
    conv => whnf
    refine Ob.intro (by show 3 ≤ sizeLine; omega) ?_
    conv => whnf
    refine Ob.intro ⟨by omega, by omega⟩ ?_
    conv => whnf
    refine Ob.intro ⟨by omega, by omega⟩ ?_
    conv => whnf
    refine Ob.intro rfl ?_
    conv => whnf
    refine Ob.intro ⟨by omega, by omega⟩ ?_
    conv => whnf
    refine Ob.intro rfl ?_
    conv => whnf
    refine Ex.intro oddP (by rw [← odd_msg]; rfl) ?_
    conv => whnf
    refine Ex.intro oddP (by rfl) ?_
    conv => whnf
    refine Ob.intro odd_fit ?_
    rw [odd_same]
    conv => whnf
    refine Br.ff ?_
    conv => whnf
    exact hx
end Mine
namespace Mine

structure Jk where
  sv : PV
  ms : List Int
  bd : Int
  f : Nat
  g : Nat
  a : Nat
  one : List Str
  two : List Str
  n : PV
  pc : PV
  d : PV
  br : Int
  du : Int
  kp : PV
  os : PV
  ts : PV
  told : LV
  ln : PV
  hf : f < 5
  hg : g < 5
  R : Rows2 one two
noncomputable def zz (j : Jk) (tail : Loc) : Loc := k12 j.sv j.ms j.bd j.f j.g (.is (.ref j.a) (tx j.one)) j.one j.two j.n j.pc j.d j.br j.du
  ((Str.ofString "kind", .val j.kp) :: (Str.ofString "ones", .val j.os) :: (Str.ofString "twos", .val j.ts) :: (Str.ofString "told", j.told) :: (Str.ofString "lone", .val j.ln) :: tail)

noncomputable def u1 (j : Jk) : Str × LV := (Str.ofString "unlike", .val (.list ((unL j.f j.g).map chP)))
noncomputable def lf (j : Jk) : List Str := j.one.map (mark j.f j.g str1)
noncomputable def rt (j : Jk) : List Str := j.two.map (mark j.f j.g str2)
noncomputable def u3 (j : Jk) : Loc := [u1 j, (Str.ofString "left", .val (tx (lf j))), (Str.ofString "right", .val (tx (rt j)))]

noncomputable def hr (j : Jk) : List Str := j.one.map (wr j.f)
noncomputable def th (j : Jk) : List Str := j.two.map (wr j.g)
noncomputable def u5 (j : Jk) : Loc := [u1 j, (Str.ofString "left", .val (tx (lf j))), (Str.ofString "right", .val (tx (rt j))), (Str.ofString "here", .val (tx (hr j))), (Str.ofString "there", .val (tx (th j)))]
theorem Jk.okl (j : Jk) : RowOk (lf j) := row_ok (by have := j.R.l1; unfold lf; rw [List.length_map]; omega) (mark_row (.inl rfl) j.R.l1 j.R.a1)
theorem Jk.okr (j : Jk) : RowOk (rt j) := row_ok (by have := j.R.l2; unfold rt; rw [List.length_map]; omega) (mark_row (.inr rfl) j.R.l2 j.R.a2)
theorem Jk.okh (j : Jk) : RowOk (hr j) := wr_row j.hf j.R.l1 j.R.a1
theorem Jk.okt (j : Jk) : RowOk (th j) := wr_row j.hg j.R.l2 j.R.a2
theorem Jk.lev (j : Jk) (m : Int) : levR (hr j) (th j) m = levR (lf j) (rt j) m := rows_strange (kd5 j.hf) (kd5 j.hg) (fun p hp => (j.R.a1 p hp).asc) (fun p hp => (j.R.a2 p hp).asc) m
theorem Jk.cost (j : Jk) : D priceU (lf j) (rt j) = D subC (lf j) (rt j) := cost_is (fun p hp => (mark_row (.inl rfl) j.R.l1 j.R.a1 p hp).1) fun p hp => (mark_row (.inr rfl) j.R.l2 j.R.a2 p hp).1
theorem fine_up {p : Str} (h : (cpl p).length ≤ 3000) : (Txt.upper p).length ≤ sizeLine := by
  have h1 := len_upper p
  have h2 := len_cpl p
  have hsz := sizeLine_eq
  omega
theorem Jk.upl (j : Jk) : ∀ x ∈ lf j, (Txt.upper x).length ≤ sizeLine := fun x hx => fine_up (mark_row (.inl rfl) j.R.l1 j.R.a1 x hx).2
theorem Jk.upr (j : Jk) : ∀ x ∈ rt j, (Txt.upper x).length ≤ sizeLine := fun x hx => fine_up (mark_row (.inr rfl) j.R.l2 j.R.a2 x hx).2
theorem Jk.ll (j : Jk) : (lf j).length ≤ 5 ∧ (rt j).length ≤ 5 ∧ (hr j).length ≤ 5 ∧ (th j).length ≤ 5 := by
  have h1 := j.R.l1
  have h2 := j.R.l2
  unfold lf rt hr th
  simp only [List.length_map]
  omega

noncomputable def prc (j : Jk) (i : Nat) : Nat := subC ((hr j).getD i yyyy) ((th j).getD i yyyy)
noncomputable def prF (j : Jk) : PV → PV
  | .int i => .int (prc j i.toNat : Nat)
  | p => p
theorem getD_mem {l : List Str} {i : Nat} (h : i < l.length) : l.getD i yyyy ∈ l := by
  rw [List.getD_eq_getElem?_getD, List.getElem?_eq_getElem h]
  exact List.getElem_mem h
theorem at_tl {l : List Str} {i : Nat} (h : i < l.length) : itemAt (List.map PV.str l) ((i : Nat) : Int) = some (.str (l.getD i yyyy)) := item_nat (by
  rw [List.getElem?_map, List.getD_eq_getElem?_getD, List.getElem?_eq_getElem h]; rfl)
theorem Jk.minN (j : Jk) : (if ((List.map PV.str (th j)).length : Int) < ((List.map PV.str (hr j)).length : Int) then ((List.map PV.str (th j)).length : Int) else ((List.map PV.str (hr j)).length : Int)) = ((min (hr j).length (th j).length : Nat) : Int) := by
  simp only [List.length_map]
  split <;> omega
theorem Jk.price (j : Jk) (i : Nat) (hi : i < min (hr j).length (th j).length) : priceU ((lf j).getD i yyyy) ((rt j).getD i yyyy) = prc j i := by
  have l1 : (hr j).length = j.one.length := by unfold hr; rw [List.length_map]
  have l2 : (th j).length = j.two.length := by unfold th; rw [List.length_map]
  have i1 : i < j.one.length := by omega
  have i2 : i < j.two.length := by omega
  have e1 : (lf j).getD i yyyy = mark j.f j.g str1 j.one[i] := by unfold lf; rw [List.getD_eq_getElem?_getD, List.getElem?_map, List.getElem?_eq_getElem i1]; rfl
  have e2 : (rt j).getD i yyyy = mark j.f j.g str2 j.two[i] := by unfold rt; rw [List.getD_eq_getElem?_getD, List.getElem?_map, List.getElem?_eq_getElem i2]; rfl
  have e3 : (hr j).getD i yyyy = wr j.f j.one[i] := by unfold hr; rw [List.getD_eq_getElem?_getD, List.getElem?_map, List.getElem?_eq_getElem i1]; rfl
  have e4 : (th j).getD i yyyy = wr j.g j.two[i] := by unfold th; rw [List.getD_eq_getElem?_getD, List.getElem?_map, List.getElem?_eq_getElem i2]; rfl
  have p1 := j.R.a1 _ (List.getElem_mem i1)
  have p2 := j.R.a2 _ (List.getElem_mem i2)
  unfold prc
  rw [e1, e2, e3, e4, price_is (mark_fine (.inl rfl) p1.asc) (mark_fine (.inr rfl) p2.asc)]
  exact (two_hands (kd5 j.hf) (kd5 j.hg) p1.asc p2.asc).2.symm
theorem prF_map (j : Jk) (N : Nat) : List.map (prF j) (List.map (fun i : Nat => PV.int i) (List.range N)) = (List.range N).map fun i => PV.int (prc j i : Nat) := by
  rw [List.map_map]; rfl
theorem py_intsL (f : Nat → Int) : ∀ l : List Nat, pyOfs (l.map fun i => PV.int (f i)) = some (l.map fun i => PyData.int (f i))
  | [] => by simp [pyOfs]
  | i :: l => by simp only [List.map_cons, pyOfs, pyOf, py_intsL f l]
theorem py_ints (f : Nat → Int) (l : List Nat) : pyOf (.list (l.map fun i => PV.int (f i))) = some (.list (l.map fun i => PyData.int (f i))) := by simp only [pyOf, py_intsL]
theorem ints_fitL (f : Nat → Int) : ∀ l : List Nat, PyData.canLayAll0 (l.map fun i => PyData.int (f i)) = true ∧ PyData.depthAll (l.map fun i => PyData.int (f i)) = 0 ∧ PyData.eqvAll (l.map fun i => PyData.int (f i)) (l.map fun i => PyData.int (f i)) = true
  | [] => by simp [PyData.canLayAll0, PyData.depthAll, PyData.eqvAll]
  | i :: l => by
    obtain ⟨h1, h2, h3⟩ := ints_fitL f l
    simp only [List.map_cons, PyData.canLayAll0, PyData.depthAll, PyData.eqvAll, PyData.canLay0, PyData.depth, PyData.eqv, h1, h2, h3, beq_self_eq_true, Bool.and_self]
    exact ⟨trivial, rfl, trivial⟩
theorem ints_fit (f : Nat → Int) (l : List Nat) : (PyData.list (l.map fun i => PyData.int (f i))).canLay0 = true ∧ (PyData.list (l.map fun i => PyData.int (f i))).canLay0 = true ∧ (PyData.list (l.map fun i => PyData.int (f i))).depth ≤ 16 := by
  obtain ⟨h1, h2, _⟩ := ints_fitL f l
  simp only [PyData.canLay0, PyData.depth, h1, h2]
  exact ⟨trivial, trivial, by decide⟩
theorem ints_same (f : Nat → Int) (l : List Nat) : PyData.eqv (.list (l.map fun i => PyData.int (f i))) (.list (l.map fun i => PyData.int (f i))) = true := by
  simp only [PyData.eqv]; exact (ints_fitL f l).2.2
theorem none_map : ∀ l : List PV, l.filterMap (fun _ => (none : Option PV)) = []
  | [] => rfl
  | _ :: l => none_map l
noncomputable def u6 (j : Jk) (prs : PV) : Loc := [u1 j, (Str.ofString "left", .val (tx (lf j))), (Str.ofString "right", .val (tx (rt j))), (Str.ofString "here", .val (tx (hr j))), (Str.ofString "there", .val (tx (th j))), (Str.ofString "prices", .val prs)]
theorem rep_is (n : Nat) (x : Str) : (List.replicate n [PV.str x]).flatten = List.map PV.str (List.replicate n x) := by
  induction n with
  | zero => rfl
  | succ n ih => rw [List.replicate_succ, List.flatten_cons, ih, List.replicate_succ, List.map_cons]; rfl
theorem RowOk.app {a b : List Str} (ha : RowOk a) (hb : RowOk b) (hl : a.length + b.length ≤ 1000) : RowOk (a ++ b) := ⟨by rw [List.length_append]; exact hl, fun x hx => (List.mem_append.mp hx).elim (ha.ok x) (hb.ok x), fun x hx => (List.mem_append.mp hx).elim (ha.low x) (hb.low x)⟩
theorem wr_noY (j : Jk) : ∀ p ∈ th j, p ≠ yyyy := fun p hp => by
  obtain ⟨q, hq, rfl⟩ := List.mem_map.mp hp
  exact fun e => (j.R.a2 q hq).noY (wr_plain (by rw [y4_is]; decide) e)
theorem wr_noZ (j : Jk) : ∀ p ∈ hr j, p ≠ zzzz := fun p hp => by
  obtain ⟨q, hq, rfl⟩ := List.mem_map.mp hp
  exact fun e => (j.R.a1 q hq).noZ (wr_plain (by rw [z4_is]; decide) e)
theorem yz_row {x : Str} (n : Nat) (hn : n ≤ 100) (h : x = yyyy ∨ x = zzzz) : RowOk (List.replicate n x) := row_ok (by rw [List.length_replicate]; omega) fun p hp => by
  have e := List.eq_of_mem_replicate hp
  subst e
  rcases h with rfl | rfl
  · exact ⟨.inl (by intro c hc; rw [y4_is] at hc; revert c; decide), by rw [y4_is]; decide⟩
  · exact ⟨.inl (by intro c hc; rw [z4_is] at hc; revert c; decide), by rw [z4_is]; decide⟩
set_option maxHeartbeats 4000000 in
theorem law_25 (j : Jk) (prs : PV) (K : PV → Prop) (hk : K (.bool true)) : lawB 25 (zz j (u6 j prs)) K := by
  have hsz := sizeLine_eq
  conv => whnf
  refine Ob.intro (by show 2 ≤ sizeLine; omega) ?_
  conv => whnf
  refine Ex.intro _ (py2 j.one j.two) ?_
  conv => whnf
  refine Ex.intro _ (py2 j.one j.two) ?_
  conv => whnf
  have q := fit2 j.R.ok1 j.R.ok2
  refine Ob.intro ⟨q.1, q.1, q.2⟩ ?_
  rw [same2]
  exact hk
set_option maxHeartbeats 4000000 in
theorem law_24 (j : Jk) (prs : PV) (K : PV → Prop) (hk : K (.bool true)) : lawB 24 (zz j (u6 j prs)) K := by
  have hsz := sizeLine_eq
  have s1 : 1 ≤ sizeLine := by omega
  have h := law_25 j prs K hk
  conv at h => whnf
  obtain ⟨h1, h2, h3, h4⟩ := j.ll
  conv => whnf
  refine Ob.intro s1 ?_
  conv => whnf
  refine Ob.intro ⟨by decide, by decide, by decide⟩ ?_
  conv => whnf
  refine Ob.intro (by rw [rep_is, List.length_map, List.length_map, List.length_replicate]; show _ + 41 ≤ _; omega) ?_
  rw [show Int.toNat 41 = 41 from rfl, rep_is]
  conv => whnf
  refine Ob.intro s1 ?_
  conv => whnf
  refine Ob.intro (by rw [List.length_map]; show _ + 1 ≤ _; omega) ?_
  conv => whnf
  refine ⟨th j ++ List.replicate 41 zzzz, hr j ++ List.replicate 1 yyyy, ⟨List.map_append.symm, by rw [List.map_append]; rfl, RowOk.app j.okt (yz_row 41 (by decide) (.inr rfl)) (by rw [List.length_replicate]; omega), RowOk.app j.okh (yz_row 1 (by decide) (.inl rfl)) (by rw [List.length_replicate]; omega)⟩, ?_⟩
  rw [show hr j ++ List.replicate 1 yyyy = hr j ++ [yyyy] from rfl, levR_over (wr_noY j) (wr_noZ j) (by omega) (by omega)]
  conv => whnf
  refine Br.intro (fun e => by simp at e) (fun _ => ?_)
  conv => whnf
  exact h
set_option maxHeartbeats 4000000 in
theorem law_23 (j : Jk) (prs : PV) (K : PV → Prop) (hk : K (.bool true)) : lawB 23 (zz j (u6 j prs)) K := by
  have hsz := sizeLine_eq
  have s1 : 1 ≤ sizeLine := by omega
  have h := law_24 j prs K hk
  conv at h => whnf
  conv => whnf
  have s2 : 2 ≤ sizeLine := by omega
  have s3 : 3 ≤ sizeLine := by omega
  repeat (first | (refine Ob.intro s2 ?_; conv => whnf) | (refine Ob.intro s3 ?_; conv => whnf))
  refine Ob.intro s1 ?_
  conv => whnf
  refine Ob.intro ⟨by decide, by decide, by decide⟩ ?_
  conv => whnf
  refine Ob.intro s1 ?_
  conv => whnf
  refine Ob.intro ⟨by decide, by decide, by decide⟩ ?_
  conv => whnf
  refine ⟨List.replicate 1 yyyy, List.replicate 40 zzzz, ⟨rep_is _ _, rep_is _ _, yz_row _ (by decide) (.inl rfl), yz_row _ (by decide) (.inr rfl)⟩, ?_⟩
  rw [lev_40]
  conv => whnf
  refine Ob.intro s1 ?_
  conv => whnf
  refine Ob.intro ⟨by decide, by decide, by decide⟩ ?_
  conv => whnf
  refine Ob.intro s1 ?_
  conv => whnf
  refine Ob.intro ⟨by decide, by decide, by decide⟩ ?_
  conv => whnf
  refine ⟨List.replicate 1 yyyy, List.replicate 41 zzzz, ⟨rep_is _ _, rep_is _ _, yz_row _ (by decide) (.inl rfl), yz_row _ (by decide) (.inr rfl)⟩, ?_⟩
  rw [lev_41]
  conv => whnf
  refine Ob.intro s1 ?_
  conv => whnf
  refine Ob.intro ⟨by decide, by decide, by decide⟩ ?_
  conv => whnf
  refine Ob.intro s1 ?_
  conv => whnf
  refine Ob.intro ⟨by decide, by decide, by decide⟩ ?_
  conv => whnf
  refine ⟨List.replicate 41 yyyy, List.replicate 1 zzzz, ⟨rep_is _ _, rep_is _ _, yz_row _ (by decide) (.inl rfl), yz_row _ (by decide) (.inr rfl)⟩, ?_⟩
  rw [lev_14]
  conv => whnf
  refine Ob.intro s3 ?_
  conv => whnf
  refine Ex.intro _ rfl ?_
  conv => whnf
  refine Ex.intro _ rfl ?_
  conv => whnf
  refine Ob.intro (by decide) ?_
  conv => whnf
  refine Br.ff ?_
  conv => whnf
  exact h

set_option maxHeartbeats 4000000 in
theorem law_22 (j : Jk) (N : Nat) (hNl : N ≤ (hr j).length) (hNr : N ≤ (th j).length) (hpr : ∀ i, i < N → priceU ((lf j).getD i yyyy) ((rt j).getD i yyyy) = prc j i) (K : PV → Prop) (hk : K (.bool true)) : lawB 22 (zz j (u6 j (.list ((List.range N).map fun i => PV.int (prc j i : Nat))))) K := by
  have hsz := sizeLine_eq
  obtain ⟨h1, h2, h3, h4⟩ := j.ll
  have h := law_23 j (.list ((List.range N).map fun i => PV.int (prc j i : Nat))) K hk
  conv at h => whnf
  conv => whnf
  have hl : (((List.range N).map fun i => PV.int (prc j i : Nat)).length : Int) = (N : Int) := by simp
  rw [hl]
  refine Ob.intro ⟨small_of (by decide) (by omega) (by decide) (by rw [count_size]; omega), by rw [count_size]; omega, by rw [count_size]; omega⟩ ?_
  rw [count_items]
  refine loop_map (prF j) (fun p hp Y hY => ?_) ?_
  · obtain ⟨i, hi, rfl⟩ := List.mem_map.mp hp
    have hi := List.mem_range.mp hi
    have hY : Y (.int (prc j i : Nat)) := hY
    have hl1 : (lf j).length = (hr j).length := by unfold lf hr; rw [List.length_map, List.length_map]
    have hl2 : (rt j).length = (th j).length := by unfold rt th; rw [List.length_map, List.length_map]
    conv => whnf
    refine Ex.intro _ (at_tl (l := lf j) (by omega)) ?_
    conv => whnf
    refine Ex.intro _ (at_tl (l := rt j) (by omega)) ?_
    conv => whnf
    refine ⟨⟨j.upl _ (getD_mem (by omega)), j.upr _ (getD_mem (by omega))⟩, ?_⟩
    rw [hpr i hi]
    exact hY
  rw [List.nil_append, prF_map]
  conv => whnf
  refine Ex.intro _ (py_ints (fun i => (prc j i : Nat)) _) ?_
  conv => whnf
  refine Ex.intro _ (py_ints (fun i => (prc j i : Nat)) _) ?_
  conv => whnf
  refine Ob.intro (ints_fit _ _) ?_
  rw [ints_same]
  conv => whnf
  refine Br.ff ?_
  conv => whnf
  refine loop_of (fun _ => none) (fun p hp Y Z hY => ?_) ?_
  · obtain ⟨i, hi, rfl⟩ := List.mem_map.mp hp
    conv => whnf
    refine Ex.intro _ rfl ?_
    conv => whnf
    refine Br.ff ?_
    conv => whnf
    exact hY
  rw [List.nil_append, none_map]
  conv => whnf
  refine Ob.intro (by show 0 ≤ sizeLine; omega) ?_
  conv => whnf
  refine Ex.intro _ rfl ?_
  conv => whnf
  refine Ex.intro _ rfl ?_
  conv => whnf
  refine Ob.intro (by decide) ?_
  conv => whnf
  refine Br.ff ?_
  conv => whnf
  refine Br.ff ?_
  conv => whnf
  exact h
set_option maxHeartbeats 4000000 in
theorem law_21 (j : Jk) (K : PV → Prop) (hk : K (.bool true)) : lawB 21 (zz j (u5 j)) K := by
  have hsz := sizeLine_eq
  obtain ⟨h1, h2, h3, h4⟩ := j.ll
  conv => whnf
  rw [j.minN]
  have hNl := Nat.min_le_left (hr j).length (th j).length
  have hNr := Nat.min_le_right (hr j).length (th j).length
  have hpr : ∀ i, i < min (hr j).length (th j).length → priceU ((lf j).getD i yyyy) ((rt j).getD i yyyy) = prc j i := fun i hi => j.price i hi
  generalize min (hr j).length (th j).length = N at *
  have h := law_22 j N hNl hNr hpr K hk
  conv at h => whnf
  refine Ob.intro ⟨small_of (by decide) (by omega) (by decide) (by rw [count_size]; omega), by rw [count_size]; omega, by rw [count_size]; omega⟩ ?_
  rw [count_items]
  refine loop_map (prF j) (fun p hp Y hY => ?_) ?_
  · obtain ⟨i, hi, rfl⟩ := List.mem_map.mp hp
    have hi := List.mem_range.mp hi
    have hY : Y (.int (prc j i : Nat)) := hY
    conv => whnf
    refine Ex.intro _ (at_tl (l := hr j) (by omega)) ?_
    conv => whnf
    refine Ex.intro _ (at_tl (l := th j) (by omega)) ?_
    conv => whnf
    refine ⟨⟨j.okh.low _ (getD_mem (by omega)), j.okt.low _ (getD_mem (by omega))⟩, ?_⟩
    exact hY
  rw [List.nil_append, prF_map]
  conv => whnf
  exact h

set_option maxHeartbeats 4000000 in
theorem law_19 (j : Jk) (K : PV → Prop) (hk : K (.bool true)) : lawB 19 (zz j (u5 j)) K := by
  have hsz := sizeLine_eq
  have h := law_21 j K hk
  conv at h => whnf
  obtain ⟨h1, h2, h3, h4⟩ := j.ll
  conv => whnf
  refine ⟨hr j, th j, ⟨rfl, rfl, j.okh, j.okt⟩, ?_⟩
  rw [j.lev]
  conv => whnf
  refine ⟨lf j, rt j, ⟨rfl, rfl, j.okl, j.okr⟩, ?_⟩
  conv => whnf
  refine Br.intro (fun e => by simp at e) (fun _ => ?_)
  conv => whnf
  refine ⟨hr j, th j, ⟨rfl, rfl, j.okh, j.okt⟩, ?_⟩
  rw [j.lev, levR_far (by omega), ← j.cost]
  conv => whnf
  refine ⟨lf j, rt j, ⟨rfl, rfl, by omega, by omega, j.upl, j.upr⟩, ?_⟩
  conv => whnf
  refine Br.intro (fun e => by simp at e) (fun _ => ?_)
  conv => whnf
  exact h

set_option maxHeartbeats 4000000 in
theorem law_17 (j : Jk) (K : PV → Prop) (hk : K (.bool true)) : lawB 17 (zz j (u3 j)) K := by
  have hsz := sizeLine_eq
  have h := law_19 j K hk
  conv at h => whnf
  have hf := j.hf
  have hg := j.hg
  conv => whnf
  refine loop_map (wrF j.f) (fun p hp Y hY => ?_) ?_
  · obtain ⟨q, hq, rfl⟩ := List.mem_map.mp hp
    have hql := (j.R.a1 q hq).len
    conv => whnf
    refine ⟨⟨by omega, by omega, by omega⟩, ?_⟩
    exact hY
  rw [List.nil_append, show List.map PV.str j.one = tl j.one from rfl, wrF_map]
  conv => whnf
  refine loop_map (wrF j.g) (fun p hp Y hY => ?_) ?_
  · obtain ⟨q, hq, rfl⟩ := List.mem_map.mp hp
    have hql := (j.R.a2 q hq).len
    conv => whnf
    refine ⟨⟨by omega, by omega, by omega⟩, ?_⟩
    exact hY
  rw [List.nil_append, show List.map PV.str j.two = tl j.two from rfl, wrF_map]
  conv => whnf
  exact h

set_option maxHeartbeats 4000000 in
theorem law_15 (j : Jk) (K : PV → Prop) (hk : K (.bool true)) : lawB 15 (zz j [u1 j]) K := by
  have hsz := sizeLine_eq
  have h := law_17 j K hk
  conv at h => whnf
  conv => whnf
  refine loop_map (markF j.f j.g str1) (fun p hp Y hY => ?_) ?_
  · obtain ⟨q, hq, rfl⟩ := List.mem_map.mp hp
    have hm := same_iff (kd5 j.hf) (kd5 j.hg) q
    have hasc := (j.R.a1 q hq).asc
    have hY : Y (.str (mark j.f j.g str1 q)) := hY
    unfold mark at hY
    conv => whnf
    refine loop_of (inF (unL j.f j.g)) (fun p hp Y Z hY => ?_) ?_
    · obtain ⟨c, hc, rfl⟩ := List.mem_map.mp hp
      rw [show PV.str (Str.mk #[c]) = chP c from rfl, inF_one] at hY
      conv => whnf
      refine Ex.intro _ (strs_each sg _) ?_
      conv => whnf
      rw [any_one]
      refine Br.intro (fun e => ?_) (fun e => ?_)
      · rw [if_pos (of_decide_eq_true e)] at hY
        conv => whnf
        exact hY
      · rw [if_neg (of_decide_eq_false e)] at hY
        conv => whnf
        exact hY
    have e : List.filterMap (inF (unL j.f j.g)) (List.map (fun c => PV.str ⟨#[c]⟩) q.cps.toList) = _ := inF_map (unL j.f j.g) q.cps.toList
    rw [List.nil_append, e, strs_chP]
    have hok : ∀ x ∈ (List.filter (fun c => decide (c ∈ unL j.f j.g)) q.cps.toList).map sg, PyData.strOk x = true := sg_ok fun c hc => hasc c (List.mem_filter.mp hc).1
    conv => whnf
    refine Ob.intro (by show 0 ≤ sizeLine; omega) ?_
    conv => whnf
    refine Ex.intro _ (pyOf_strs _) ?_
    conv => whnf
    refine Ex.intro _ rfl ?_
    conv => whnf
    refine Ob.intro (nil_fit hok) ?_
    rw [show PyData.eqv _ (.list []) = _ from eqv_nil (List.map sg (List.filter (fun c => decide (c ∈ unL j.f j.g)) q.cps.toList))]
    conv => whnf
    refine Br.intro (fun e => ?_) (fun e => ?_)
    · have hn : ¬ sameBy j.f j.g q := fun hs => by
        have := hm.mpr hs
        unfold cpl at this
        rw [this] at e
        simp at e
      rw [if_neg hn] at hY
      conv => whnf
      exact hY
    · have hs : sameBy j.f j.g q := hm.mp (by unfold cpl; simpa using e)
      rw [if_pos hs] at hY
      conv => whnf
      exact hY
  rw [List.nil_append, markF_map]
  conv => whnf
  refine loop_map (markF j.f j.g str2) (fun p hp Y hY => ?_) ?_
  · obtain ⟨q, hq, rfl⟩ := List.mem_map.mp hp
    have hm := same_iff (kd5 j.hf) (kd5 j.hg) q
    have hasc := (j.R.a2 q hq).asc
    have hY : Y (.str (mark j.f j.g str2 q)) := hY
    unfold mark at hY
    conv => whnf
    refine loop_of (inF (unL j.f j.g)) (fun p hp Y Z hY => ?_) ?_
    · obtain ⟨c, hc, rfl⟩ := List.mem_map.mp hp
      rw [show PV.str (Str.mk #[c]) = chP c from rfl, inF_one] at hY
      conv => whnf
      refine Ex.intro _ (strs_each sg _) ?_
      conv => whnf
      rw [any_one]
      refine Br.intro (fun e => ?_) (fun e => ?_)
      · rw [if_pos (of_decide_eq_true e)] at hY
        conv => whnf
        exact hY
      · rw [if_neg (of_decide_eq_false e)] at hY
        conv => whnf
        exact hY
    have e : List.filterMap (inF (unL j.f j.g)) (List.map (fun c => PV.str ⟨#[c]⟩) q.cps.toList) = _ := inF_map (unL j.f j.g) q.cps.toList
    rw [List.nil_append, e, strs_chP]
    have hok : ∀ x ∈ (List.filter (fun c => decide (c ∈ unL j.f j.g)) q.cps.toList).map sg, PyData.strOk x = true := sg_ok fun c hc => hasc c (List.mem_filter.mp hc).1
    conv => whnf
    refine Ob.intro (by show 0 ≤ sizeLine; omega) ?_
    conv => whnf
    refine Ex.intro _ (pyOf_strs _) ?_
    conv => whnf
    refine Ex.intro _ rfl ?_
    conv => whnf
    refine Ob.intro (nil_fit hok) ?_
    rw [show PyData.eqv _ (.list []) = _ from eqv_nil (List.map sg (List.filter (fun c => decide (c ∈ unL j.f j.g)) q.cps.toList))]
    conv => whnf
    refine Br.intro (fun e => ?_) (fun e => ?_)
    · have hn : ¬ sameBy j.f j.g q := fun hs => by
        have := hm.mpr hs
        unfold cpl at this
        rw [this] at e
        simp at e
      rw [if_neg hn] at hY
      conv => whnf
      exact hY
    · have hs : sameBy j.f j.g q := hm.mp (by unfold cpl; simpa using e)
      rw [if_pos hs] at hY
      conv => whnf
      exact hY
  rw [List.nil_append, markF_map]
  conv => whnf
  exact h

set_option maxHeartbeats 4000000 in
theorem law_14 (j : Jk) (K : PV → Prop) (hk : K (.bool true)) : lawB 14 (zz j []) K := by
  have hsz := sizeLine_eq
  conv => whnf
  refine loop_of (unF j.f j.g) (fun p hp Y Z hY => ?_) ?_
  · obtain ⟨c, hc, rfl⟩ := List.mem_map.mp hp
    conv => whnf
    refine Ex.intro _ (tab_at j.hf) ?_
    conv => whnf
    refine Ex.intro _ (tab_at j.hg) ?_
    conv => whnf
    rw [getD_table, getD_table]
    rw [show PV.str (Str.mk #[c]) = chP c from rfl, unF_one] at hY
    conv => whnf
    refine Br.intro (fun e => ?_) (fun e => ?_)
    · rw [if_neg (by simpa using e)] at hY
      conv => whnf
      exact hY
    · rw [if_pos (by simpa using e)] at hY
      conv => whnf
      exact hY
  have e : List.filterMap (unF j.f j.g) (List.map (fun c => PV.str ⟨#[c]⟩) (Str.ofString "<>\"\r\n\t").cps.toList) = (unL j.f j.g).map chP := unF_map j.f j.g six6
  rw [List.nil_append, e]
  have h := law_15 j K hk
  conv at h => whnf
  conv => whnf
  exact h
end Mine
namespace Mine



noncomputable def kindI (sv : PV) (ms : List Int) (bd : Int) (f g : Nat) (a : Nat) (one two : List Str) (n pc d : PV) (br du : Int) (i : Nat) (σ : Loc) : Prop :=
  (i = 0 ∧ σ = k12 sv ms bd f g (.is (.ref a) (tx one)) one two n pc d br du []) ∨ ∃ k told L, σ = k12 sv ms bd f g (.is (.ref a) (tx one)) one two n pc d br du (t5 k one two told L)
theorem kind_turn (sv : PV) (ms : List Int) (bd : Int) (f g : Nat) (a : Nat) (one two : List Str) (n pc d : PV) (br du : Int) (i : Nat) (k : Nat) (hk : k < 5) (R : Rows2 one two) (hbr : levR one two bd = br) (σ : Loc) (hσ : kindI sv ms bd f g a one two n pc d br du i σ) (X : FP → Loc → Prop)
    (hX : ∀ σ', kindI sv ms bd f g a one two n pc d br du (i + 1) σ' → X .next σ') :
    targetW (drOf pr 18).scope.names (keepN (k12 sv ms bd f g (.is (.ref a) (tx one)) one two n pc d br du []) σ) (forT 13) (.int k) fun σ' => BW G13 [Str.ofString "one", Str.ofString "two"] 14 5 (drOf pr 18).scope.names (forB 13) σ' X := by
  have hσ : keepN (k12 sv ms bd f g (.is (.ref a) (tx one)) one two n pc d br du []) σ = k12 sv ms bd f g (.is (.ref a) (tx one)) one two n pc d br du [] := by
    rcases hσ with ⟨_, rfl⟩ | ⟨k', told, L, rfl⟩ <;> rfl
  rw [hσ]
  have h := kturn_0 sv ms bd f g a one two n pc d br du k X hk R (kturn_2 sv ms bd f g a one two n pc d br du k X hk R hbr (kturn_4 sv ms bd f g a one two n pc d br du k X hk R fun told L ht =>
    kturn_7 sv ms bd f g a one two n pc d br du k X hk R told L ht (hX _ (.inr ⟨k, told, L, rfl⟩))))
  conv at h => whnf
  conv => whnf
  exact h

set_option maxHeartbeats 4000000 in
theorem law_13 (sv : PV) (ms : List Int) (bd : Int) (f g : Nat) (one two : List Str) (n pc d : PV) (K : PV → Prop) (hf : f < 5) (hg : g < 5) (R : Rows2 one two) (hk : K (.bool true)) :
    lawB 13 (k12 sv ms bd f g (.val (tx one)) one two n pc d (levR one two bd) (D subC one two : Nat) []) K := by
  have hsz := sizeLine_eq
  generalize hbr : levR one two bd = br
  generalize ((D subC one two : Nat) : Int) = du
  conv => whnf
  intro a
  conv => whnf
  refine Ob.intro ⟨by decide, by decide, by rw [hsz]; decide⟩ ?_
  refine for_of (kindI sv ms bd f g a one two n pc d br du) (.inl ⟨rfl, rfl⟩) (fun i p σ hp hσ X hX => ?_) fun σ hσ => ?_
  · obtain ⟨k, hk5, rfl⟩ := five_items (List.mem_of_getElem? hp)
    refine kind_turn sv ms bd f g a one two n pc d br du i k hk5 R hbr σ hσ _ fun σ' h => ?_
    exact hX σ' h
  · rcases hσ with ⟨h0, _⟩ | ⟨k, told, L, rfl⟩
    · exact absurd h0 (by decide)
    · have h := law_14 ⟨sv, ms, bd, f, g, a, one, two, n, pc, d, br, du, .int k, tx (one.map (wr k)), tx (two.map (wr k)), told, tx L, hf, hg, R⟩ K hk
      conv at h => whnf
      conv => whnf
      exact h

set_option maxHeartbeats 4000000 in
theorem law_12 (sv : PV) (ms : List Int) (bd : Int) (f g : Nat) (one two : List Str) (n pc d : PV) (K : PV → Prop) (hf : f < 5) (hg : g < 5) (R : Rows2 one two) (hk : K (.bool true)) :
    lawB 12 (k12 sv ms bd f g (.val (tx one)) one two n pc d (levR one two bd) (D subC one two : Nat) []) K := by
  have hsz := sizeLine_eq
  have h1 := R.l1
  have h2 := R.l2
  have h := law_13 sv ms bd f g one two n pc d K hf hg R hk
  have hlev := levR_ok (a := one) (b := two) (m := bd) (by omega)
  have hfar := levR_far (a := one) (b := two) (by omega)
  generalize D subC one two = du at *
  generalize levR one two bd = br at *
  conv at h => whnf
  conv => whnf
  refine Ex.intro _ rfl ?_
  conv => whnf
  refine Br.ff ?_
  conv => whnf
  refine Br.intro (fun e => ?_) (fun e => ?_)
  · have hq : bd < du ∧ br = bd + 1 := by
      rcases hlev with q | q
      · rw [q] at e; simp at e
      · exact q
    conv => whnf
    refine Br.intro (fun e2 => absurd (of_decide_eq_true e2) (by omega)) (fun _ => ?_)
    conv => whnf
    refine Br.intro (fun e2 => by rw [hq.2] at e2; simp at e2) (fun _ => ?_)
    conv => whnf
    refine Br.ff ?_
    conv => whnf
    refine Br.ff ?_
    conv => whnf
    refine ⟨one, two, ⟨rfl, rfl, R.ok1, R.ok2⟩, ?_⟩
    rw [hfar]
    conv => whnf
    refine Br.intro (fun e2 => by simp at e2) (fun _ => ?_)
    conv => whnf
    refine Br.ff ?_
    conv => whnf
    exact h
  · conv => whnf
    refine Br.ff ?_
    conv => whnf
    refine ⟨one, two, ⟨rfl, rfl, R.ok1, R.ok2⟩, ?_⟩
    rw [hfar]
    conv => whnf
    refine Br.intro (fun e2 => by simp at e2) (fun _ => ?_)
    conv => whnf
    refine Br.ff ?_
    conv => whnf
    exact h

set_option maxHeartbeats 4000000 in
theorem law_9 (sv : PV) (ms : List Int) (bd : Int) (f g : Nat) (one two : List Str) (n pc d : PV) (K : PV → Prop) (hf : f < 5) (hg : g < 5) (h1 : one.length ≤ 5) (h2 : two.length ≤ 5) (h3 : ∀ p ∈ one, RowP p) (h4 : ∀ p ∈ two, RowP p) (hk : K (.bool true)) :
    lawB 9 (b11 sv ms bd f g (.own (tl one)) (.own (tl two)) n pc d) K := by
  have hsz := sizeLine_eq
  have R := Rows2.mk h1 h2 h3 h4
  have h := law_12 sv ms bd f g one two n pc d K hf hg R hk
  conv at h => whnf
  conv => whnf
  refine Ob.intro (by show 2 ≤ sizeLine; omega) ?_
  conv => whnf
  refine ⟨one, two, ⟨rfl, rfl, R.ok1, R.ok2⟩, ?_⟩
  conv => whnf
  refine ⟨one, two, ⟨rfl, rfl, by omega, by omega, R.up1, R.up2⟩, ?_⟩
  rw [R.cost]
  conv => whnf
  exact h
end Mine
namespace Mine

set_option maxHeartbeats 4000000 in
theorem law_6 (sv : PV) (ms : List Int) (bd : Int) (f g : Nat) (K : PV → Prop) (hn : ms.length ≤ 63) (hf : f < 5) (hg : g < 5) (hk : K (.bool true)) : lawB 6 (b6 sv ms bd f g) K := by
  have hsz := sizeLine_eq
  conv => whnf
  refine Ob.intro (by show 0 ≤ sizeLine; omega) ?_
  conv => whnf
  refine Ob.intro (by show 0 ≤ sizeLine; omega) ?_
  conv => whnf
  refine Ob.intro (by show 5 ≤ sizeLine; omega) ?_
  conv => whnf
  refine Ob.intro (by simp only [List.length_map, List.length_cons, List.length_nil]; omega) ?_
  conv => whnf
  refine Ex.intro _ rfl ?_
  conv => whnf
  refine Ob.intro (by decide) ?_
  rw [show List.map PV.int ms ++ [PV.int 225, PV.int 24, PV.int 61, PV.int 172, PV.int 83] = (ms ++ [225, 24, 61, 172, 83]).map PV.int from by rw [List.map_append]; rfl, slice_map]
  have h5 : (sliceL (ms ++ [225, 24, 61, 172, 83]) none (some 5) none).length = 5 := take5 (by rw [List.length_append]; exact Nat.le_add_left _ _)
  generalize sliceL (ms ++ [225, 24, 61, 172, 83]) none (some 5) none = xs at *
  refine for_of (rowI sv ms bd f g) ⟨[], [], Nat.le_refl _, Nat.le_refl _, nofun, nofun, .inl ⟨rfl, rfl⟩⟩ (fun i p σ hp hσ X hX => ?_) fun σ hσ => ?_
  · obtain ⟨n, hn, rfl⟩ := List.mem_map.mp (List.mem_of_getElem? hp)
    have hi := (List.getElem?_eq_some_iff.mp hp).1
    rw [List.length_map, h5] at hi
    refine turn_ok sv ms bd f g hf i hi n σ hσ _ fun σ' h => ?_
    exact hX σ' h
  · rw [List.length_map, h5] at hσ
    obtain ⟨one, two, h1, h2, h3, h4, ⟨h0, _⟩ | ⟨n, pc, d, rfl⟩⟩ := hσ
    · exact absurd h0 (by decide)
    · have h := law_9 sv ms bd f g one two n pc d K hf hg h1 h2 h3 h4 hk
      conv at h => whnf
      conv => whnf
      exact h

set_option maxHeartbeats 4000000 in
theorem law_1 (sv : PV) (ms : List Int) (K : PV → Prop) (hn : ms.length ≤ 63) (hk : K (.bool true)) :
    lawB 1 [(Str.ofString "script", .val sv), (Str.ofString "numbers", .val (.list (ms.map PV.int)))] K := by
  have hsz := sizeLine_eq
  conv => whnf
  refine Ex.intro _ (ints_map _) ?_
  conv => whnf
  refine Ex.intro _ (ints_map _) ?_
  conv => whnf
  refine Ob.intro (by decide) ?_
  conv => whnf
  refine Ex.intro _ (ints_map _) ?_
  conv => whnf
  refine Ob.intro (by decide) ?_
  conv => whnf
  refine Ob.intro (by decide) ?_
  conv => whnf
  refine Ob.intro (by decide) ?_
  conv => whnf
  refine Ob.intro (by show 1 ≤ sizeLine; omega) ?_
  conv => whnf
  refine Ob.intro (by show 1 ≤ sizeLine; omega) ?_
  conv => whnf
  refine Ob.intro (by show 1 ≤ sizeLine; omega) ?_
  conv => whnf
  refine Ob.intro (by show 3 ≤ sizeLine; omega) ?_
  conv => whnf
  refine Ob.intro ⟨by decide, by decide, by rw [hsz]; decide⟩ ?_
  refine loop_map tabF (fun p hp X hX => ?_) ?_
  · obtain ⟨k, hk, rfl⟩ := five_items hp
    conv => whnf
    refine ⟨⟨by omega, by omega⟩, ?_⟩
    exact hX
  have f0 := Int.fmod_nonneg_of_pos ms.sum (b := 5) (by decide)
  have f1 := Int.fmod_lt_of_pos ms.sum (b := 5) (by decide)
  have g0 := Int.fmod_nonneg_of_pos (ms.sum.fmod 5 + 1 + (ms.sum.fdiv 5).fmod 4) (b := 5) (by decide)
  have g1 := Int.fmod_lt_of_pos (ms.sum.fmod 5 + 1 + (ms.sum.fdiv 5).fmod 4) (b := 5) (by decide)
  generalize (ms.sum.fmod 5 + 1 + (ms.sum.fdiv 5).fmod 4).fmod 5 = g at *
  generalize ms.sum.fmod 5 = f at *
  obtain ⟨f, rfl⟩ := Int.eq_ofNat_of_zero_le f0
  obtain ⟨g, rfl⟩ := Int.eq_ofNat_of_zero_le g0
  have h := law_6 sv ms (ms.sum + 6) f g K hn (by omega) (by omega) hk
  exact h
noncomputable def lawSpec : PSpec := fun ps K => match ps with
  | [.list vs] => (∃ ns : List Int, vs = ns.map PV.int ∧ ns.length ≤ 63) ∧ K (.bool true)
  | _ => False
theorem law_ok {W : Wd} (h : Is W) : ∃ a, W.mg (Str.ofString "law") = some (.ref a) ∧ ∀ A E s X vs ps K Q, Room 12 A → A.frames = some [] → (∀ b o, W.top.get? b = some o → s.heap.get? b = some o) → Xlt X s.heap → DenL W.w X s.heap ps vs → lawSpec ps K →
      Post W.w X s K Q → wpAny W.M A (call (.ref a) vs) Q E s := by
  refine callFirst (names := [Str.ofString "script"]) (y := Str.ofString "numbers") (z := Str.ofString "script") (c := 60) (rest := (drOf pr 18).body.drop 1) (rec_mem h (i := 18) (x := Str.ofString "law") (by rfl)) (by rfl) (by decide +kernel)
    (fun vs pm cd doc hl => ?_) (BW_ok (gok13 h) rfl 14 6 (mu := [Str.ofString "one", Str.ofString "two"])) (by rfl) (by rfl) (by rfl) fun ps K hs => ?_
  · obtain ⟨a, rfl⟩ := len1 hl
    rfl
  · unfold lawSpec at hs
    split at hs
    · obtain ⟨⟨ns, rfl, hn⟩, hk⟩ := hs
      refine ⟨rfl, _, rfl, ?_⟩
      rw [slice_map]
      exact law_1 _ _ K (Nat.le_trans (sliceL_length _ _ _) hn) hk
    · exact hs.elim
end Mine
namespace Mine
set_option maxHeartbeats 4000000 in
theorem say1 : sreFenced PySem.Challenge.pw_pg0174_02.main = true := by decide +kernel
set_option maxHeartbeats 4000000 in
theorem say2 : ((moduleNames PySem.Challenge.pw_pg0174_02.main.body).isEmpty || lookedIntoSs (moduleNames PySem.Challenge.pw_pg0174_02.main.body) PySem.Challenge.pw_pg0174_02.main.body) = true := by decide +kernel
set_option maxHeartbeats 4000000 in
theorem say3 : namesResolve PySem.Challenge.pw_pg0174_02 = true := by decide +kernel
set_option maxHeartbeats 4000000 in
theorem say4 : (PySem.Challenge.pw_pg0174_02.boundNames.all (fun n => !worldNames.contains n)) = true := by decide +kernel
set_option maxHeartbeats 4000000 in
theorem say6 : (namesMeet PySem.Challenge.pw_pg0174_02 PySem.Challenge.pw_pg0174_02.main.body fun _ n => attrL n) = true := by decide +kernel
set_option maxHeartbeats 4000000 in
theorem say5 : (noRoadLSs { strict := !(importedModules PySem.Challenge.pw_pg0174_02.main.body).all cThrough.contains, foot := none, bare := (["vars", "dir", "locals"] : List Str).filter (readsOut PySem.Challenge.pw_pg0174_02 PySem.Challenge.pw_pg0174_02.main.body) } PySem.Challenge.pw_pg0174_02.main.body) = true := by decide +kernel
set_option maxHeartbeats 4000000 in
theorem looksOk : looksOpen PySem.Challenge.rw_pg0174_02.row.prog = true := by
  unfold looksOpen
  exact look_both (look_both (look_both (look_both (look_both say1 say2) say3) say4) say5) say6
set_option maxHeartbeats 4000000 in
theorem partOk : OpenRow.partSaid PySem.Challenge.rw_pg0174_02.row = true := by
  unfold OpenRow.partSaid
  repeat' (rw [Bool.and_eq_true]; refine And.intro ?_ ?_)
  · exact looksOk
  all_goals decide +kernel
set_option maxHeartbeats 4000000 in
theorem rowOk : OpenRow.wellSaid PySem.Challenge.rw_pg0174_02.row = true := by
  unfold OpenRow.wellSaid
  refine (look_both (look_both ?_ ?_) ?_)
  · exact partOk
  all_goals decide +kernel
set_option maxHeartbeats 4000000 in
theorem said : OpenLaw.wellSaid PySem.Challenge.rw_pg0174_02 = true := by
  unfold OpenLaw.wellSaid
  refine (look_both (look_both (look_both (look_both (look_both (look_both (look_both (look_both (look_both (look_both (look_both (look_both (look_both (look_both (look_both (look_both (look_both (look_both ?_ ?_) ?_) ?_) ?_) ?_) ?_) ?_) ?_) ?_) ?_) ?_) ?_) ?_) ?_) ?_) ?_) ?_) ?_)
  · exact rowOk
  all_goals decide +kernel
end Mine
namespace Mine
theorem wellAll_ints {P : Params} {h : Heap} : ∀ {ns : List Int} {vs : List Value}, WellAll P h vs (ofPys (ns.map PyData.int)) → ∃ ts : List Tok, vs = (ns.zip ts).map (fun q => Value.int q.1 q.2) ∧ ts.length = ns.length
  | [], _, x => by cases x; exact ⟨[], rfl, rfl⟩
  | n :: ns, _, x => by
    simp only [List.map_cons, ofPys, ofPy] at x
    cases x with
    | cons a b =>
      cases a
      obtain ⟨ts, rfl, e⟩ := wellAll_ints b
      exact ⟨_ :: ts, rfl, by simp [e]⟩
theorem denL_ints {w : World} {X : Excl} {h : Heap} : ∀ {ns : List Int} {ts : List Tok}, ts.length = ns.length → DenL w X h (ns.map PV.int) ((ns.zip ts).map (fun q => Value.int q.1 q.2))
  | [], [], _ => .nil
  | n :: ns, t :: ts, e => .cons mk_int (denL_ints (by simpa using e))
  | [], _ :: _, e => by simp at e
  | _ :: _, [], e => by simp at e
theorem well_den {w : World} {h : Heap} {v : Value} {ns : List Int} (hn : ns.length ≤ 63) (x : Well w.params h v (ofPy (PyData.list (ns.map PyData.int)))) : Den w (fun _ => False) h (.list (ns.map PV.int)) v := by
  simp only [ofPy] at x
  cases x with
  | list hg hw =>
    obtain ⟨ts, rfl, e⟩ := wellAll_ints hw
    refine mk_list (n := 0) (by have := sizeLine_eq; simp; omega) (fun q => q) hg (denL_ints e)
end Mine
open Mine in
set_option maxHeartbeats 8000000 in
theorem Mine.join : PySem.Challenge.rw_pg0174_02.Holds := by
  w_on
  refine holds_law Mine.said fun hsaid => ?_
  o_head Hook.none
  (case hw => w_witness2)
  intro w s₀ s₁ mg mb G Y fa o pm cd doc dV kV ho hdd hcd hD hmg hg args vals as hpre hlay hrd hwl hlo
  refine Ground.open G ?_
  intro T B D TE TW
  wrow_args hpre hlay hrd hwl hlo
  rename_i hI _ hcond _
  rename Well _ _ _ _ => hwell
  rename List Int => ns
  have hlen : ns.length ≤ 63 := by omega
  let W : Wd := ⟨PySem.Challenge.rw_pg0174_02.row.toRowW.prog, w, _, _, ExcName.means s₀.heap, mg, mb, s₁.heap, T⟩
  obtain ⟨a, ha, hc⟩ := law_ok (W := W) ⟨rfl, rfl⟩
  have e : a = fa := by
    have h : some (Value.ref a) = some (Value.ref fa) := ha.symm.trans hmg
    cases h; rfl
  subst e
  refine hc callerA _ s₁ (fun _ => False) [_] [.list (ns.map PV.int)] (fun p => p = .bool true) _ ⟨rfl, by decide, by decide, rfl⟩ rfl (fun _ _ e => e) (fun _ q => q.elim) (.one (well_den hlen hwell)) ⟨⟨ns, rfl, hlen⟩, rfl⟩ ?_
  intro v pv s' hp hk dv
  subst hp
  have := den_bool dv
  subst this
  refine GoodW.toG ⟨.inl ⟨.bool true, .bool true, [], rfl, fun cls => ?_, ReadsW.bool true, ?_, unshared_nil⟩, keeps_mem hk, ?_, ?_⟩
  · rfl
  · wrow_post
  · obtain ⟨h', t', rfl, _⟩ := hk; rfl
  · obtain ⟨h', t', rfl, _⟩ := hk; exact hg
theorem PySem.Challenge.cw_pg0174_02_holds : PySem.Challenge.rw_pg0174_02.Holds :=
  Mine.join
